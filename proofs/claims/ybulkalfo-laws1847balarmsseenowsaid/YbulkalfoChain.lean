import Derived.Test.YbulkalfoRing
namespace Go.Proofs.Ybulkalfo
open Go.ChangeShapes Go.WideShapes Go.ChangeAt Go.RowKit Go.MuLone

/-- From the instants R0 the least up to T was taken, again and again: ds in this order; R is left. -/
def Chain (T : Int) : List Int → List Int → List Int → Prop
  | R0, [], R => R0.Perm R
  | R0, d :: ds, R => ∃ R1, R0.Perm (d :: R1) ∧ d ≤ T ∧ (∀ u, u ∈ R0 → u ≤ T → d ≤ u) ∧ Chain T R1 ds R

theorem Chain.snoc {T : Int} {d : Int} {R' : List Int} (hd : d ≤ T) : ∀ {ds R0 R : List Int}, Chain T R0 ds R → R.Perm (d :: R') → (∀ u, u ∈ R → u ≤ T → d ≤ u) → Chain T R0 (ds ++ [d]) R'
  | [], _, _, h, hp, hm => ⟨R', h.trans hp, hd, fun u hu => hm u (h.mem_iff.1 hu), List.Perm.refl _⟩
  | _ :: _, _, _, ⟨R1, h1, h2, h3, h4⟩, hp, hm => ⟨R1, h1, h2, h3, Chain.snoc hd h4 hp hm⟩

theorem Chain.perm {T : Int} : ∀ {ds R0 R0' R : List Int}, R0.Perm R0' → Chain T R0 ds R → Chain T R0' ds R
  | [], _, _, _, hp, h => hp.symm.trans h
  | _ :: _, _, _, _, hp, ⟨R1, h1, h2, h3, h4⟩ => ⟨R1, hp.symm.trans h1, h2, fun u hu => h3 u (hp.mem_iff.2 hu), h4⟩

/-- What is taken is settled. -/
theorem Chain.unique {T : Int} : ∀ {ds es R0 R S : List Int}, Chain T R0 ds R → (∀ u, u ∈ R → T < u) → Chain T R0 es S → (∀ u, u ∈ S → T < u) → ds = es
  | [], [], _, _, _, _, _, _, _ => rfl
  | [], e :: _, _, _, _, h, hR, ⟨R1, h1, h2, _, _⟩, _ => by
    have := hR e (h.mem_iff.1 (h1.mem_iff.2 (List.mem_cons_self)))
    omega
  | d :: _, [], _, _, _, ⟨R1, h1, h2, _, _⟩, _, h, hS => by
    have := hS d (h.mem_iff.1 (h1.mem_iff.2 (List.mem_cons_self)))
    omega
  | d :: _, e :: _, _, _, _, ⟨R1, h1, h2, h3, h4⟩, hR, ⟨R2, k1, k2, k3, k4⟩, hS => by
    have a1 := h3 e (k1.mem_iff.2 (List.mem_cons_self)) k2
    have a2 := k3 d (h1.mem_iff.2 (List.mem_cons_self)) h2
    obtain rfl : d = e := by omega
    have hp : R1.Perm R2 := (h1.symm.trans k1).cons_inv
    rw [Chain.unique (Chain.perm hp h4) hR k4 hS]

theorem Chain.len {T : Int} : ∀ {ds R0 R : List Int}, Chain T R0 ds R → R0.length = ds.length + R.length
  | [], _, _, h => by simpa using h.length_eq
  | _ :: _, _, _, ⟨R1, h1, _, _, h4⟩ => by
    have e1 := h1.length_eq
    have e2 := h4.len
    simp only [List.length_cons] at e1 ⊢
    omega

theorem ne_of_type {w : World} {a b : Nat} {c1 c2 : Array Value} {t1 t2 : TypeId} {f1 f2 : Nat × Nat} (h1 : w.heap[a]? = some (.cells c1 t1 f1)) (h2 : w.heap[b]? = some (.cells c2 t2 f2)) (ht : t1 ≠ t2) : a ≠ b := by
  rintro rfl
  rw [h1] at h2
  injection h2 with h2
  injection h2 with _ h3
  exact ht h3

/-- The closure as a value. -/
abbrev ringer (bl bx : Nat) : Value := .func (.func 17) #[] #[ptr bl, ptr bx]

/-- The clock, its alarms, the log. -/
structure St (base : Nat) (w : World) (bc bl bx lb cap : Nat) (l M : Int) (al : Value) (xs : List (Nat × Int)) (ts : List Int) : Prop where
  c : CInv base w bc l M al xs (ringer bl bx)
  bl : w.heap[bl]? = some (.cells #[.slice (some ⟨lb, 0, none⟩) ts.length cap] 48)
  bx : w.heap[bx]? = some (.cells #[ptr bc] 35)
  log : w.ownsRow base 32 3 (.slice (some ⟨lb, 0, none⟩) ts.length cap) ts.length (tcells ts)

section
variable {base : Nat} {w x : World} {bc bl bx lb cap : Nat} {l M : Int} {al : Value} {xs : List (Nat × Int)} {ts : List Int}
theorem St.lbo (h : St base w bc bl bx lb cap l M al xs ts) : ∃ cur, w.heap[lb]? = some (.cells cur 32 (0, 0)) := by
  rcases h.log.2 with ⟨e, _⟩ | ⟨g, cap', cur, e, _, hh, _⟩
  · cases e
  · cases e; exact ⟨cur, hh⟩
theorem St.kept {S : Nat → Prop} (h : St base w bc bl bx lb cap l M al xs ts) (k : KeptS S w x) (h0 : ¬ S bc) (h1 : ∀ g, al.ownBlock = some g → ¬ S g) (h2 : ∀ a, a ∈ xs → ¬ S a.1) (h3 : ¬ S bl) (h4 : ¬ S bx) (h5 : ¬ S lb) : St base x bc bl bx lb cap l M al xs ts := by
  refine ⟨h.c.kept k h0 h1 h2, k.heap h.bl h3, k.heap h.bx h4, ?_⟩
  refine ⟨h.log.1, ?_⟩
  rcases h.log.2 with e | ⟨g, cap', cur, e, hb, hh, hr⟩
  · exact .inl e
  · refine .inr ⟨g, cap', cur, e, hb, k.heap hh ?_, hr⟩
    cases e
    exact h5
theorem St.grow (h : St base w bc bl bx lb cap l M al xs ts) (k : KeptS (fun _ => False) w x) : St base x bc bl bx lb cap l M al xs ts :=
  h.kept k (fun e => e) (fun _ _ e => e) (fun _ _ e => e) (fun e => e) (fun e => e) (fun e => e)
theorem St.alloc (h : St base w bc bl bx lb cap l M al xs ts) (o : Obj) : St base (w.alloc o) bc bl bx lb cap l M al xs ts := h.grow (KeptS.refl.alloc o)
theorem St.ext (h : St base w bc bl bx lb cap l M al xs ts) (e : Ext) : St base (ext w e) bc bl bx lb cap l M al xs ts := h.grow (KeptS.refl.ext e)
/-- Where the alarms' row lies. -/
theorem CInv.row {fv : Value} (h : CInv base w bc l M al xs fv) {g : Nat} (hg : al.ownBlock = some g) : ∃ cur, w.heap[g]? = some (.cells cur 68 (0, 0)) := by
  rcases h.own.2 with ⟨e, _⟩ | ⟨g', cap', cur, e, _, hh, _⟩
  · rw [e] at hg; cases hg
  · rw [e] at hg
    simp [Value.ownBlock] at hg
    subst hg
    exact ⟨cur, hh⟩
/-- The clock's block is turned in its own cells. -/
theorem St.clock (h : St base w bc bl bx lb cap l M al xs ts) (k : KeptS (fun b => b = bc) w x) {l' M' : Int} (hc : x.heap[bc]? = some (clkObj l' M' al)) : St base x bc bl bx lb cap l' M' al xs ts := by
  obtain ⟨cur, hlb⟩ := h.lbo
  refine ⟨⟨hc, ?_, fun a ha => k.heap (h.c.alarms a ha) (ne_of_type (h.c.alarms a ha) h.c.clk (by decide))⟩, k.heap h.bl (ne_of_type h.bl h.c.clk (by decide)), k.heap h.bx (ne_of_type h.bx h.c.clk (by decide)), ?_⟩
  · refine ⟨h.c.own.1, ?_⟩
    rcases h.c.own.2 with e | ⟨g, cap', cur, e, hb, hh, hr⟩
    · exact .inl e
    · exact .inr ⟨g, cap', cur, e, hb, k.heap hh (ne_of_type hh h.c.clk (by decide)), hr⟩
  · refine ⟨h.log.1, ?_⟩
    rcases h.log.2 with e | ⟨g, cap', cur, e, hb, hh, hr⟩
    · exact .inl e
    · exact .inr ⟨g, cap', cur, e, hb, k.heap hh (ne_of_type hh h.c.clk (by decide)), hr⟩
end
end Go.Proofs.Ybulkalfo
