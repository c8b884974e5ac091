import Derived.Test.YbulkalfoChain
namespace Go.Proofs.Ybulkalfo
open Go.ChangeShapes Go.WideShapes Go.ChangeAt Go.RowKit Go.MuLone

/-- How many alarms the clock holds. -/
def alen (bc : Nat) (w : World) : Nat :=
  match w.cell? ⟨bc, 5, none⟩ with
  | some (.slice _ n _) => n
  | _ => 0
/-- Is there a pointer? -/
def pone (v : Value) : Nat :=
  match v with
  | .pointer (some _) => 1
  | _ => 0
/-- .. and one more that was taken off. -/
def mlen (bc : Nat) (v : Value) (w : World) : Nat := alen bc w + pone v
theorem alen_of {base bc : Nat} {w : World} {l M : Int} {al fv : Value} {xs : List (Nat × Int)} (h : CInv base w bc l M al xs fv) : alen bc w = xs.length := by
  have hc : w.cell? ⟨bc, 5, none⟩ = some al := cell_by h.clk rfl
  unfold alen
  rw [hc]
  rcases h.own.2 with ⟨rfl, h0⟩ | ⟨g, cap, cur, rfl, _⟩
  · exact h0.symm
  · rfl

/-- Where the move stands ahead of a round: nothing more is due; or a was taken off. -/
structure Mv (base : Nat) (w0 w : World) (bc bl bx lb cap : Nat) (T M : Int) (al0 al : Value) (R0 : List Int) (xs : List (Nat × Int)) (ds : List Int) (v : Value) : Prop where
  own : al.ownBlock = al0.ownBlock
  kept : KeptS (fun b => b = bc ∨ b = bl ∨ b = lb ∨ al0.ownBlock = some b) w0 w
  st : St base w bc bl bx lb cap 1 M al xs ds
  case : (v = .pointer none ∧ Chain T R0 ds (xs.map (·.2)) ∧ ∀ a, a ∈ xs → T < a.2) ∨
    ∃ a : Nat × Int, v = ptr a.1 ∧ w.heap[a.1]? = some (alarmObj a.2 (ringer bl bx)) ∧ a.2 ≤ T ∧ M ≤ a.2 ∧ (∀ b, b ∈ xs → b.2 ≤ T → a.2 ≤ b.2) ∧ Chain T R0 (ds ++ [a.2]) (xs.map (·.2))

/-- due, ahead of a round. -/
theorem Mv.due {base : Nat} {w0 w w' : World} {bc bl bx lb cap : Nat} {T M : Int} {al0 al : Value} {R0 : List Int} {xs : List (Nat × Int)} {ds : List Int} {e : Ending}
    (hst : St base w bc bl bx lb cap 1 M al xs ds) (hown : al.ownBlock = al0.ownBlock) (hk : KeptS (fun b => b = bc ∨ b = bl ∨ b = lb ∨ al0.ownBlock = some b) w0 w)
    (hch : Chain T R0 ds (xs.map (·.2))) (hM : ∀ b, b ∈ xs → b.2 ≤ T → M ≤ b.2) (h : DueLeft base bc 1 M T al xs (ringer bl bx) w e w') :
    ∃ v al' ys, e = .returned v ∧ ys.length + pone v = xs.length ∧ Mv base w0 w' bc bl bx lb cap T M al0 al' R0 ys ds v := by
  rcases h with ⟨rfl, h1, x, rfl⟩ | ⟨a, ys, al', hp, haT, hmin, rfl, hC, hal, ho, hk2⟩
  · exact ⟨_, al, xs, rfl, rfl, hown, hk.ext x, hst.ext x, .inl ⟨rfl, hch, h1⟩⟩
  · refine ⟨_, al', ys, rfl, by simpa [pone] using hp.length_eq.symm, ho.trans hown, hk.trans (hk2.mono ?_), ⟨hC, ?_, ?_, ?_⟩, .inr ⟨a, rfl, hal, haT, hM a (hp.mem_iff.2 List.mem_cons_self) haT, fun b hb => hmin b (hp.mem_iff.2 (List.mem_cons_of_mem _ hb)), ?_⟩⟩
    · rintro k _ (e | e)
      · exact .inl e
      · exact .inr (.inr (.inr (by rw [← hown]; exact e)))
    · refine hk2.heap hst.bl ?_
      rintro (e | e)
      · exact ne_of_type hst.bl hst.c.clk (by decide) e
      · obtain ⟨cur, hg⟩ := hst.c.row e
        exact ne_of_type hst.bl hg (by decide) rfl
    · refine hk2.heap hst.bx ?_
      rintro (e | e)
      · exact ne_of_type hst.bx hst.c.clk (by decide) e
      · obtain ⟨cur, hg⟩ := hst.c.row e
        exact ne_of_type hst.bx hg (by decide) rfl
    · refine ⟨hst.log.1, ?_⟩
      rcases hst.log.2 with e | ⟨g, cap', cur, e, hb, hh, hr⟩
      · exact .inl e
      · refine .inr ⟨g, cap', cur, e, hb, hk2.heap hh ?_, hr⟩
        rintro (e | e)
        · exact ne_of_type hh hst.c.clk (by decide) e
        · obtain ⟨cur, hg⟩ := hst.c.row e
          exact ne_of_type hh hg (by decide) rfl
    · refine hch.snoc haT (by simpa using hp.map (·.2)) ?_
      intro u hu huT
      obtain ⟨b, hb, rfl⟩ := List.mem_map.1 hu
      exact hmin b hb huT

theorem ptr_eq (b : Nat) (w : World) : Sem.run Yba.prog (Op.equalIn 9999 68 (ptr b) (.pointer none)) w = .ok false w := by kernel_rfl

set_option maxRecDepth 20000 in
set_option maxHeartbeats 1600000 in
/-- The stepwise move. -/
theorem move_spec (base bc bl bx lb cap : Nat) (M T : Int) (al : Value) (xs : List (Nat × Int)) (w : World) (hst : St base w bc bl bx lb cap 0 M al xs []) (hl : xs.length ≤ 1024) (hcap : xs.length ≤ cap) (hM : ∀ a, a ∈ xs → M ≤ a.2) :
    Calls Yba.prog 25 #[ptr bc, tN T, .bool true] w fun e w' => e = .returned (.tuple #[]) ∧ ∃ ds ys al', Chain T (xs.map (·.2)) ds (ys.map (·.2)) ∧ (∀ a, a ∈ ys → T < a.2) ∧ St base w' bc bl bx lb cap 0 T al' ys ds ∧
      KeptS (fun b => b = bc ∨ b = bl ∨ b = lb ∨ al.ownBlock = some b) w w' := by
  have HS := hid hst
  have HM := hid hM
  have hc := hst.c.clk
  have hb := lt_of hc
  have hbn : ¬ bc = w.heap.size := by omega
  clear hst hM hc
  go_enter Yba.func25, Yba.ntmps25
  go_wp2_with fail
  refine (lock_free Yba.muLib ⟨bc, 0, none⟩ _ ?_ ?_).mono ?_
  · exact cell_by (heap_alloc_old HS.out.c.clk) (by simp)
  · exact frozen_of (heap_alloc_old HS.out.c.clk) 0
  rintro e w1 ⟨rfl, hw1⟩
  have K1 : KeptS (fun b => b = bc) w w1 := by rw [hw1]; exact KeptS.setCell (S := fun b => b = bc) (KeptS.refl.alloc _) (fun _ => rfl) _ _
  have S1 : St base w1 bc bl bx lb cap 1 M al xs [] := HS.out.clock K1 (by rw [hw1]; exact (setCell_at (heap_alloc_old HS.out.c.clk) _ _).trans (by simp))
  have t0 : w1.heap[w.heap.size]? = some (timeObj T) := by rw [hw1]; exact setCell_else (heap_alloc_new w _) (by omega) _ _
  clear hw1
  have q0 : w1.cell? ⟨w.heap.size, 0, none⟩ = some (.int .u64 (T % 1000000000)) := cell_by t0 rfl
  have q1 : w1.cell? ⟨w.heap.size, 1, none⟩ = some (.int .i64 (T / 1000000000)) := cell_by t0 rfl
  have q2 : w1.cell? ⟨w.heap.size, 2, none⟩ = some (.pointer none) := cell_by t0 rfl
  have HK1 := hid K1
  have HS1 := hid S1
  have HT0 := hid t0
  clear K1 S1 t0
  go_wp2_with fail
  refine (due_spec base bc 1 M T al xs (ringer bl bx) _ HS1.out.c hl).mono ?_
  intro e w2 hdue
  obtain ⟨v, al1, ys, rfl, hlen, hmv⟩ := Mv.due (w0 := w1) (al0 := al) (R0 := xs.map (·.2)) HS1.out rfl KeptS.refl (show Chain T (xs.map (·.2)) [] (xs.map (·.2)) from List.Perm.refl _) (fun b hb _ => HM.out b hb) hdue
  have HV := hid hmv
  have HL := hid hlen
  clear hmv hlen hdue
  have hne := nil_eq
  have hpe := ptr_eq
  clear HL
  have HR : Hid ((xs.map (·.2)).length = xs.length) := hid (by simp)
  have HX : Hid (¬ (w.heap.size = bc ∨ w.heap.size = bl ∨ w.heap.size = lb ∨ al.ownBlock = some w.heap.size)) := hid (by
    obtain ⟨cur, hlb⟩ := HS.out.lbo
    rintro (e | e | e | e)
    · omega
    · have := lt_of HS.out.bl; omega
    · have := lt_of hlb; omega
    · obtain ⟨cur, hg⟩ := HS.out.c.row e
      have := lt_of hg; omega)
  go_wp2_with fail
  go_loopw [6] (fun v wr => ∃ M' al' ys ds, Hid (Mv base w1 wr bc bl bx lb cap T M' al al' (xs.map (·.2)) ys ds v)) (fun v wr => mlen bc v wr)
  case atStart => exact ⟨M, al1, ys, [], HV⟩
  case round =>
    clear HV q0 q1 q2
    obtain ⟨M', al', ys, ds, HV⟩ := hrel
    have ht := HV.out.kept.heap HT0.out HX.out
    have q0 : wr.cell? ⟨w.heap.size, 0, none⟩ = some (.int .u64 (T % 1000000000)) := cell_by ht rfl
    have q1 : wr.cell? ⟨w.heap.size, 1, none⟩ = some (.int .i64 (T / 1000000000)) := cell_by ht rfl
    have q2 : wr.cell? ⟨w.heap.size, 2, none⟩ = some (.pointer none) := cell_by ht rfl
    have HT := hid ht
    clear ht
    have hck := HV.out.st.c.clk
    have p2 : wr.cell? ⟨bc, 2, none⟩ = some (.int .u64 (M' % 1000000000)) := cell_by hck rfl
    have p3 : wr.cell? ⟨bc, 3, none⟩ = some (.int .i64 (M' / 1000000000)) := cell_by hck rfl
    have p4 : wr.cell? ⟨bc, 4, none⟩ = some (.pointer none) := cell_by hck rfl
    have g2 := frozen_of hck 2
    have g3 := frozen_of hck 3
    have g4 := frozen_of hck 4
    have HC := hid hck
    clear hck
    rcases HV.out.case with ⟨rfl, hch, hall⟩ | ⟨a, rfl, hal, haT, hMa, hmin, hch⟩
    · have HH := hid hch
      have HA := hid hall
      clear hch hall
      go_wp2_with fail
      refine (unlock_held Yba.muLib ⟨bc, 0, none⟩ _ ?_ ?_).mono ?_
      · exact cell_by (setCell_at (setCell_at (setCell_at HC.out _ _) _ _) _ _) (by simp)
      · exact frozen_of (setCell_at (setCell_at (setCell_at HC.out _ _) _ _) _ _) 0
      rintro e u1 ⟨rfl, hu1⟩
      have KU : KeptS (fun b => b = bc) wr u1 := by rw [hu1]; exact KeptS.setCell (S := fun b => b = bc) (KeptS.setCell (S := fun b => b = bc) (KeptS.setCell (S := fun b => b = bc) (KeptS.setCell (S := fun b => b = bc) KeptS.refl (fun _ => rfl) _ _) (fun _ => rfl) _ _) (fun _ => rfl) _ _) (fun _ => rfl) _ _
      have SU : St base u1 bc bl bx lb cap 0 T al' ys ds := HV.out.st.clock KU (by rw [hu1]; exact (setCell_at (setCell_at (setCell_at (setCell_at HC.out _ _) _ _) _ _) _ _).trans (by simp))
      have HKU := hid KU
      have HSU := hid SU
      clear KU SU hu1
      go_wp2
      go_end0
      exact ⟨rfl, ds, ys, al', HH.out, HA.out, HSU.out, ((HK1.out.mono (fun k _ e => .inl e)).trans HV.out.kept).trans (HKU.out.mono (fun k _ e => .inl e))⟩
    · have HH := hid hch
      have HA := hid hmin
      have a0 : ∀ x, (ext wr x).cell? ⟨a.1, 0, none⟩ = some (.int .u64 (a.2 % 1000000000)) := ext_cell (cell_by hal rfl)
      have a1 : ∀ x, (ext wr x).cell? ⟨a.1, 1, none⟩ = some (.int .i64 (a.2 / 1000000000)) := ext_cell (cell_by hal rfl)
      have a2 : ∀ x, (ext wr x).cell? ⟨a.1, 2, none⟩ = some (.pointer none) := ext_cell (cell_by hal rfl)
      have b2 := ext_cell p2
      have b3 := ext_cell p3
      have b4 := ext_cell p4
      have HAL := hid hal
      clear hch hmin hal
      by_cases hlt : M' < a.2
      · have dA : Hid (decide (M' < a.2) = true) := hid (decide_eq_true hlt)
        go_wp2_with fail
        refine wp_region_ext0 (by kernel_rfl) (by kernel_rfl) ?_
        repeat (go_big_quiet_step ((go_at_call 31; exact after_ext a.2 M' true _ _ dA.out)))
        refine wpQuiet_nil ?_
        rintro _ ⟨y, rfl⟩
        have HCy := (HV.out.st.c.kept (KeptS.refl (S := fun _ => False) |>.ext y) (fun e => e) (fun _ _ e => e) (fun _ _ e => e)).clk
        have hf2 := frozen_of HCy 2
        have hf3 := frozen_of HCy 3
        have hf4 := frozen_of HCy 4
        go_wp2_with fail
        refine (unlock_held Yba.muLib ⟨bc, 0, none⟩ _ ?_ ?_).mono ?_
        · exact cell_by (setCell_at (setCell_at (setCell_at HCy _ _) _ _) _ _) (by simp)
        · exact frozen_of (setCell_at (setCell_at (setCell_at HCy _ _) _ _) _ _) 0
        rintro e u1 ⟨rfl, hu1⟩
        have KU : KeptS (fun b => b = bc) wr u1 := by rw [hu1]; exact KeptS.setCell (S := fun b => b = bc) (KeptS.setCell (S := fun b => b = bc) (KeptS.setCell (S := fun b => b = bc) (KeptS.setCell (S := fun b => b = bc) (KeptS.refl.ext y) (fun _ => rfl) _ _) (fun _ => rfl) _ _) (fun _ => rfl) _ _) (fun _ => rfl) _ _
        have SU : St base u1 bc bl bx lb cap 0 a.2 al' ys ds := HV.out.st.clock KU (by rw [hu1]; exact (setCell_at (setCell_at (setCell_at (setCell_at HCy _ _) _ _) _ _) _ _).trans (by simp))
        have AU := KU.heap HAL.out (ne_of_type HAL.out HV.out.st.c.clk (by decide))
        have HTU := hid (KU.heap HT.out (fun e => HX.out (.inl e)))
        have HKU := hid (HV.out.kept.trans (KU.mono (S' := fun b => b = bc ∨ b = bl ∨ b = lb ∨ al.ownBlock = some b) (fun k _ e => .inl e)))
        have HSU := hid SU
        have c3 : u1.cell? ⟨a.1, 3, none⟩ = some (ringer bl bx) := cell_by AU rfl
        have HRM : Hid (ds.length + 1 ≤ cap ∧ ys.length ≤ 1024) := hid (by
          have h1 := HH.out.len
          have h2 := HR.out
          simp only [List.length_append, List.length_cons, List.length_nil, List.length_map] at h1 h2
          omega)
        clear KU SU hu1 AU a0 a1 a2 b2 b3 b4 p2 p3 p4 g2 g3 g4 q0 q1 q2 hf2 hf3 hf4 HCy
        go_wp2_with fail
        refine (ring base bl bx bc lb cap a.2 al' ds u1 HSU.out.bl HSU.out.bx HSU.out.c.clk HSU.out.log HRM.out.1).mono ?_
        rintro e u2 ⟨rfl, r1, r2, r3⟩
        obtain ⟨cur, hlb⟩ := HSU.out.lbo
        have SU2 : St base u2 bc bl bx lb cap 0 a.2 al' ys (ds ++ [a.2]) := by
          have hx : ∀ (b : Nat) (c : Array Value) (t : TypeId), u1.heap[b]? = some (Obj.cells c t) → t ≠ 48 → t ≠ 32 → u2.heap[b]? = some (Obj.cells c t) := by
            intro b c t hb1 ht1 ht2
            refine r3.heap hb1 ?_
            rintro (e | e)
            · exact ne_of_type hb1 HSU.out.bl ht1 e
            · exact ne_of_type hb1 hlb ht2 e
          refine ⟨⟨hx _ _ _ HSU.out.c.clk (by decide) (by decide), ⟨HSU.out.c.own.1, ?_⟩, fun a ha => hx _ _ _ (HSU.out.c.alarms a ha) (by decide) (by decide)⟩, by simpa using r1, hx _ _ _ HSU.out.bx (by decide) (by decide), by simpa using r2⟩
          rcases HSU.out.c.own.2 with e | ⟨g, cap', cur, e, hb, hh, hr⟩
          · exact .inl e
          · exact .inr ⟨g, cap', cur, e, hb, hx _ _ _ hh (by decide) (by decide), hr⟩
        have HTV := hid (r3.heap HTU.out (by
          rintro (e | e)
          · exact HX.out (.inr (.inl e))
          · exact HX.out (.inr (.inr (.inl e)))))
        have HKV := hid (HKU.out.trans (r3.mono (S' := fun b => b = bc ∨ b = bl ∨ b = lb ∨ al.ownBlock = some b) (fun k _ e => by rcases e with e | e; exact .inr (.inl e); exact .inr (.inr (.inl e)))))
        have HSV := hid SU2
        clear r1 r2 r3 SU2 hlb c3
        go_wp2_with fail
        refine (lock_free Yba.muLib ⟨bc, 0, none⟩ _ ?_ ?_).mono ?_
        · exact cell_by HSV.out.c.clk (by simp)
        · exact frozen_of HSV.out.c.clk 0
        rintro e u3 ⟨rfl, hu3⟩
        have KU3 : KeptS (fun b => b = bc) u2 u3 := by rw [hu3]; exact KeptS.setCell (S := fun b => b = bc) KeptS.refl (fun _ => rfl) _ _
        have HS3 : Hid (St base u3 bc bl bx lb cap 1 a.2 al' ys (ds ++ [a.2])) := hid (HSV.out.clock KU3 (by rw [hu3]; exact (setCell_at HSV.out.c.clk _ _).trans (by simp)))
        have ht3 := KU3.heap HTV.out (fun e => HX.out (.inl e))
        have HK3 := hid (HKV.out.trans (KU3.mono (S' := fun b => b = bc ∨ b = bl ∨ b = lb ∨ al.ownBlock = some b) (fun k _ e => .inl e)))
        clear KU3 hu3
        have q0 : u3.cell? ⟨w.heap.size, 0, none⟩ = some (.int .u64 (T % 1000000000)) := cell_by ht3 rfl
        have q1 : u3.cell? ⟨w.heap.size, 1, none⟩ = some (.int .i64 (T / 1000000000)) := cell_by ht3 rfl
        have q2 : u3.cell? ⟨w.heap.size, 2, none⟩ = some (.pointer none) := cell_by ht3 rfl
        clear ht3
        go_wp2_with fail
        refine (due_spec base bc 1 a.2 T al' ys (ringer bl bx) _ HS3.out.c HRM.out.2).mono ?_
        intro e u4 hdue
        obtain ⟨v5, al5, ys5, rfl, hlen, hmv⟩ := Mv.due HS3.out HV.out.own HK3.out HH.out HA.out hdue
        have HV5 := hid hmv
        have HL5 := hid hlen
        clear hmv hlen hdue
        go_wp2
        go_roundw
        case rel => exact ⟨a.2, al5, ys5, ds ++ [a.2], HV5⟩
        case measure =>
          have h1 := alen_of HV5.out.st.c
          have h2 := alen_of HV.out.st.c
          have h3 := HL5.out
          unfold mlen
          rw [h1, h2, show pone (ptr a.1) = 1 from rfl]
          omega
      · have dA : Hid (decide (M' < a.2) = false) := hid (decide_eq_false hlt)
        have hMe : a.2 = M' := by omega
        have HME := hid hMe
        clear hlt hMe
        go_wp2_with fail
        refine wp_region_ext0 (by kernel_rfl) (by kernel_rfl) ?_
        repeat (go_big_quiet_step ((go_at_call 31; exact after_ext a.2 M' false _ _ dA.out)))
        refine wpQuiet_nil ?_
        rintro _ ⟨y, rfl⟩
        have HCy := (HV.out.st.c.kept (KeptS.refl (S := fun _ => False) |>.ext y) (fun e => e) (fun _ _ e => e) (fun _ _ e => e)).clk
        go_wp2_with fail
        refine (unlock_held Yba.muLib ⟨bc, 0, none⟩ _ ?_ ?_).mono ?_
        · exact cell_by HCy (by simp)
        · exact frozen_of HCy 0
        have hMe := HME.out
        rintro e u1 ⟨rfl, hu1⟩
        have KU : KeptS (fun b => b = bc) wr u1 := by rw [hu1]; exact KeptS.setCell (S := fun b => b = bc) (KeptS.refl.ext y) (fun _ => rfl) _ _
        have SU : St base u1 bc bl bx lb cap 0 a.2 al' ys ds := HV.out.st.clock KU (by rw [hu1]; exact (setCell_at HCy _ _).trans (by simp [hMe]))
        have AU := KU.heap HAL.out (ne_of_type HAL.out HV.out.st.c.clk (by decide))
        have HTU := hid (KU.heap HT.out (fun e => HX.out (.inl e)))
        have HKU := hid (HV.out.kept.trans (KU.mono (S' := fun b => b = bc ∨ b = bl ∨ b = lb ∨ al.ownBlock = some b) (fun k _ e => .inl e)))
        have HSU := hid SU
        have c3 : u1.cell? ⟨a.1, 3, none⟩ = some (ringer bl bx) := cell_by AU rfl
        have HRM : Hid (ds.length + 1 ≤ cap ∧ ys.length ≤ 1024) := hid (by
          have h1 := HH.out.len
          have h2 := HR.out
          simp only [List.length_append, List.length_cons, List.length_nil, List.length_map] at h1 h2
          omega)
        clear KU SU hu1 AU a0 a1 a2 b2 b3 b4 p2 p3 p4 g2 g3 g4 q0 q1 q2 HCy
        go_wp2_with fail
        refine (ring base bl bx bc lb cap a.2 al' ds u1 HSU.out.bl HSU.out.bx HSU.out.c.clk HSU.out.log HRM.out.1).mono ?_
        rintro e u2 ⟨rfl, r1, r2, r3⟩
        obtain ⟨cur, hlb⟩ := HSU.out.lbo
        have SU2 : St base u2 bc bl bx lb cap 0 a.2 al' ys (ds ++ [a.2]) := by
          have hx : ∀ (b : Nat) (c : Array Value) (t : TypeId), u1.heap[b]? = some (Obj.cells c t) → t ≠ 48 → t ≠ 32 → u2.heap[b]? = some (Obj.cells c t) := by
            intro b c t hb1 ht1 ht2
            refine r3.heap hb1 ?_
            rintro (e | e)
            · exact ne_of_type hb1 HSU.out.bl ht1 e
            · exact ne_of_type hb1 hlb ht2 e
          refine ⟨⟨hx _ _ _ HSU.out.c.clk (by decide) (by decide), ⟨HSU.out.c.own.1, ?_⟩, fun a ha => hx _ _ _ (HSU.out.c.alarms a ha) (by decide) (by decide)⟩, by simpa using r1, hx _ _ _ HSU.out.bx (by decide) (by decide), by simpa using r2⟩
          rcases HSU.out.c.own.2 with e | ⟨g, cap', cur, e, hb, hh, hr⟩
          · exact .inl e
          · exact .inr ⟨g, cap', cur, e, hb, hx _ _ _ hh (by decide) (by decide), hr⟩
        have HTV := hid (r3.heap HTU.out (by
          rintro (e | e)
          · exact HX.out (.inr (.inl e))
          · exact HX.out (.inr (.inr (.inl e)))))
        have HKV := hid (HKU.out.trans (r3.mono (S' := fun b => b = bc ∨ b = bl ∨ b = lb ∨ al.ownBlock = some b) (fun k _ e => by rcases e with e | e; exact .inr (.inl e); exact .inr (.inr (.inl e)))))
        have HSV := hid SU2
        clear r1 r2 r3 SU2 hlb c3
        go_wp2_with fail
        refine (lock_free Yba.muLib ⟨bc, 0, none⟩ _ ?_ ?_).mono ?_
        · exact cell_by HSV.out.c.clk (by simp)
        · exact frozen_of HSV.out.c.clk 0
        rintro e u3 ⟨rfl, hu3⟩
        have KU3 : KeptS (fun b => b = bc) u2 u3 := by rw [hu3]; exact KeptS.setCell (S := fun b => b = bc) KeptS.refl (fun _ => rfl) _ _
        have HS3 : Hid (St base u3 bc bl bx lb cap 1 a.2 al' ys (ds ++ [a.2])) := hid (HSV.out.clock KU3 (by rw [hu3]; exact (setCell_at HSV.out.c.clk _ _).trans (by simp)))
        have ht3 := KU3.heap HTV.out (fun e => HX.out (.inl e))
        have HK3 := hid (HKV.out.trans (KU3.mono (S' := fun b => b = bc ∨ b = bl ∨ b = lb ∨ al.ownBlock = some b) (fun k _ e => .inl e)))
        clear KU3 hu3
        have q0 : u3.cell? ⟨w.heap.size, 0, none⟩ = some (.int .u64 (T % 1000000000)) := cell_by ht3 rfl
        have q1 : u3.cell? ⟨w.heap.size, 1, none⟩ = some (.int .i64 (T / 1000000000)) := cell_by ht3 rfl
        have q2 : u3.cell? ⟨w.heap.size, 2, none⟩ = some (.pointer none) := cell_by ht3 rfl
        clear ht3
        go_wp2_with fail
        refine (due_spec base bc 1 a.2 T al' ys (ringer bl bx) _ HS3.out.c HRM.out.2).mono ?_
        intro e u4 hdue
        obtain ⟨v5, al5, ys5, rfl, hlen, hmv⟩ := Mv.due HS3.out HV.out.own HK3.out HH.out HA.out hdue
        have HV5 := hid hmv
        have HL5 := hid hlen
        clear hmv hlen hdue
        go_wp2
        go_roundw
        case rel => exact ⟨a.2, al5, ys5, ds ++ [a.2], HV5⟩
        case measure =>
          have h1 := alen_of HV5.out.st.c
          have h2 := alen_of HV.out.st.c
          have h3 := HL5.out
          unfold mlen
          rw [h1, h2, show pone (ptr a.1) = 1 from rfl]
          omega
end Go.Proofs.Ybulkalfo
