import Derived.Test.YbulkalfoRem
namespace Go.Proofs.Ybulkalfo
open Go.ChangeShapes Go.WideShapes Go.ChangeAt Go.RowKit Go.MuLone

/-- Where the law stands while it reckons what it expects. -/
structure LB (w wr : World) (bs ub eb bc bl bx lb k : Nat) (n T : Int) (al : Value) (ys : List (Nat × Int)) (ds es : List Int) (U : Nat → Bool) : Prop where
  below : Below w.heap.size w wr
  st : St w.heap.size wr bc bl bx lb k 0 T al ys ds
  start : wr.heap[bs]? = some (timeObj n)
  used : ∃ cur : Array Value, wr.heap[ub]? = some (.cells cur 4) ∧ ∀ i, i < k → cur[i]? = some (.bool (U i))
  exp : wr.ownsRow w.heap.size 32 3 (.slice (some ⟨eb, 0, none⟩) es.length k) es.length (tcells es)
  oub : w.heap.size ≤ ub
  oeb : w.heap.size ≤ eb
  neq : lb ≠ eb
  nbs : bs ≠ eb

section
variable {w wr x : World} {bs ub eb bc bl bx lb k : Nat} {n T : Int} {al : Value} {ys : List (Nat × Int)} {ds es : List Int} {U : Nat → Bool}
theorem LB.ebo (h : LB w wr bs ub eb bc bl bx lb k n T al ys ds es U) : ∃ cur, wr.heap[eb]? = some (.cells cur 32 (0, 0)) := by
  rcases h.exp.2 with ⟨e, _⟩ | ⟨g, cap', cur, e, _, hh, _⟩
  · cases e
  · cases e; exact ⟨cur, hh⟩
theorem LB.grow (h : LB w wr bs ub eb bc bl bx lb k n T al ys ds es U) (q : KeptS (fun _ => False) wr x) : LB w x bs ub eb bc bl bx lb k n T al ys ds es U := by
  refine ⟨KeptS.below h.below q h.below.size (fun _ e => e.elim), h.st.grow q, q.heap h.start (fun e => e), ?_, ⟨h.exp.1, ?_⟩, h.oub, h.oeb, h.neq, h.nbs⟩
  · obtain ⟨cur, h1, h2⟩ := h.used
    exact ⟨cur, q.heap h1 (fun e => e), h2⟩
  · rcases h.exp.2 with e | ⟨g, cap', cur, e, hb, hh, hr⟩
    · exact .inl e
    · exact .inr ⟨g, cap', cur, e, hb, q.heap hh (fun e => e), hr⟩
/-- One is used. -/
theorem LB.use (h : LB w wr bs ub eb bc bl bx lb k n T al ys ds es U) {b : Nat} (hb : b < k) : LB w (wr.setCell ⟨ub, b, none⟩ (.bool true)) bs ub eb bc bl bx lb k n T al ys ds es (fun i => if i = b then true else U i) := by
  obtain ⟨cur, h1, h2⟩ := h.used
  obtain ⟨cl, hlb⟩ := h.st.lbo
  have q : KeptS (fun i => i = ub) wr (wr.setCell ⟨ub, b, none⟩ (.bool true)) := KeptS.setCell (S := fun i => i = ub) KeptS.refl (fun _ => rfl) _ _
  refine ⟨KeptS.below h.below q h.below.size (fun i e => by rw [e]; exact h.oub), h.st.kept q (ne_of_type h.st.c.clk h1 (by decide)) (fun g hg => ?_) (fun a ha => ne_of_type (h.st.c.alarms a ha) h1 (by decide)) (ne_of_type h.st.bl h1 (by decide)) (ne_of_type h.st.bx h1 (by decide)) (ne_of_type hlb h1 (by decide)),
    q.heap h.start (ne_of_type h.start h1 (by decide)), ⟨_, setCell_at h1 _ _, fun i hi => ?_⟩, ⟨h.exp.1, ?_⟩, h.oub, h.oeb, h.neq, h.nbs⟩
  · obtain ⟨c2, hg2⟩ := h.st.c.row hg
    exact ne_of_type hg2 h1 (by decide)
  · have hc := h2 i hi
    have hsz : i < cur.size := by
      apply Decidable.byContradiction
      intro hn
      rw [Array.getElem?_eq_none (by omega)] at hc
      cases hc
    by_cases e : i = b
    · subst e
      simp [hsz]
    · rw [Array.getElem?_setIfInBounds_ne (fun e' => e e'.symm), hc]
      simp [e]
  · rcases h.exp.2 with e | ⟨g, cap', cur', e, hb', hh, hr⟩
    · exact .inl e
    · exact .inr ⟨g, cap', cur', e, hb', q.heap hh (ne_of_type hh h1 (by decide)), hr⟩
/-- One more is expected. -/
theorem LB.push (h : LB w wr bs ub eb bc bl bx lb k n T al ys ds es U) {N : Int} (ho : x.ownsRow w.heap.size 32 3 (.slice (some ⟨eb, 0, none⟩) (es.length + 1) k) (es.length + 1) (tcells es ++ [.int .u64 (N % 1000000000), .int .i64 (N / 1000000000), .pointer none]))
    (hg : wr.grownBy x (some eb)) : LB w x bs ub eb bc bl bx lb k n T al ys ds (es ++ [N]) U := by
  obtain ⟨ce, heb⟩ := h.ebo
  obtain ⟨cur, h1, h2⟩ := h.used
  have q : KeptS (fun i => i = eb) wr x := KeptS.grown (S := fun i => i = eb) KeptS.refl hg (fun i e _ => by cases e; rfl)
  refine ⟨KeptS.below h.below q h.below.size (fun i e => by rw [e]; exact h.oeb), h.st.kept q (ne_of_type h.st.c.clk heb (by decide)) (fun g hg => ?_) (fun a ha => ne_of_type (h.st.c.alarms a ha) heb (by decide)) (ne_of_type h.st.bl heb (by decide)) (ne_of_type h.st.bx heb (by decide)) h.neq,
    q.heap h.start h.nbs, ⟨cur, q.heap h1 (ne_of_type h1 heb (by decide)), h2⟩, ?_, h.oub, h.oeb, h.neq, h.nbs⟩
  · obtain ⟨c2, hg2⟩ := h.st.c.row hg
    exact ne_of_type hg2 heb (by decide)
  · rw [tcells_snoc]
    simpa using ho
end
end Go.Proofs.Ybulkalfo
