import Derived.Test.YbulkalfoMoveA
namespace Go.Proofs.Ybulkalfo
open Go.ChangeShapes Go.WideShapes Go.ChangeAt Go.RowKit Go.MuLone

set_option maxHeartbeats 800000 in
/-- A stepwise Advance. -/
theorem advance_spec (base bc bl bx lb cap : Nat) (M d : Int) (al : Value) (xs : List (Nat × Int)) (w : World) (hst : St base w bc bl bx lb cap 0 M al xs []) (hl : xs.length ≤ 1024) (hcap : xs.length ≤ cap) (hM : ∀ a, a ∈ xs → M ≤ a.2)
    (n0 : -1000000000000000000000000 ≤ M) (n1 : M ≤ 1000000000000000000000000) (hd0 : 0 < d) (hd1 : d ≤ 1000) :
    Calls Yba.prog 15 #[ptr bc, .int .i64 d] w fun e w' => e = .returned (.tuple #[]) ∧ ∃ ds ys al', Chain (M + d) (xs.map (·.2)) ds (ys.map (·.2)) ∧ (∀ a, a ∈ ys → M + d < a.2) ∧ St base w' bc bl bx lb cap 0 (M + d) al' ys ds ∧
      KeptS (fun b => b = bc ∨ b = bl ∨ b = lb ∨ al.ownBlock = some b) w w' := by
  have hc := hst.c.clk
  have c2 : w.cell? ⟨bc, 2, none⟩ = some (.int .u64 (M % 1000000000)) := cell_by hc rfl
  have c3 : w.cell? ⟨bc, 3, none⟩ = some (.int .i64 (M / 1000000000)) := cell_by hc rfl
  have c4 : w.cell? ⟨bc, 4, none⟩ = some (.pointer none) := cell_by hc rfl
  have hb := lt_of hc
  have hbn : ¬ bc = w.heap.size := by omega
  have HC := hid hc
  have HS := hid hst
  have HM := hid hM
  clear hc hst hM
  go_enter Yba.func15, Yba.ntmps15
  go_wp2_with fail
  refine (lock_free Yba.muLib ⟨bc, 0, none⟩ _ ?_ ?_).mono ?_
  · exact cell_by HC.out (by simp)
  · exact frozen_of HC.out 0
  rintro e w' ⟨rfl, rfl⟩
  go_wp2_with fail
  refine (add_N M d _ n0 n1 (by omega) (by omega)).mono ?_
  rintro e w' ⟨rfl, o1, o2, rfl⟩
  go_wp2_with fail
  refine (unlock_held Yba.muLib ⟨bc, 0, none⟩ _ ?_ ?_).mono ?_
  · exact cell_by (heap_alloc_old (heap_alloc_old (heap_alloc_old (setCell_at HC.out _ _)))) (by simp)
  · exact frozen_of (heap_alloc_old (heap_alloc_old (heap_alloc_old (setCell_at HC.out _ _)))) 0
  rintro e u ⟨rfl, hu⟩
  have KU : KeptS (fun b => b = bc) w u := by rw [hu]; exact KeptS.setCell (S := fun b => b = bc) ((((KeptS.setCell (S := fun b => b = bc) KeptS.refl (fun _ => rfl) _ _).alloc _).alloc _).alloc _) (fun _ => rfl) _ _
  have HSU : Hid (St base u bc bl bx lb cap 0 M al xs []) := hid (HS.out.clock KU (by rw [hu]; exact (setCell_at (heap_alloc_old (heap_alloc_old (heap_alloc_old (setCell_at HC.out _ _)))) _ _).trans (by simp)))
  have HKU := hid KU
  have ht : u.heap[w.heap.size + 1 + 1]? = some (timeObj (M + d)) := by rw [hu]; exact setCell_else (heap_alloc_at (by simp [World.setCell])) (by omega) _ _
  have q0 : u.cell? ⟨w.heap.size + 1 + 1, 0, none⟩ = some (.int .u64 ((M + d) % 1000000000)) := cell_by ht rfl
  have q1 : u.cell? ⟨w.heap.size + 1 + 1, 1, none⟩ = some (.int .i64 ((M + d) / 1000000000)) := cell_by ht rfl
  have q2 : u.cell? ⟨w.heap.size + 1 + 1, 2, none⟩ = some (.pointer none) := cell_by ht rfl
  clear KU hu ht
  go_wp2_with fail
  refine (move_spec base bc bl bx lb cap M (M + d) al xs u HSU.out hl hcap HM.out).mono ?_
  rintro e w' ⟨rfl, ds, ys, al', h1, h2, h3, h4⟩
  have H1 := hid h1
  have H2 := hid h2
  have H3 := hid h3
  have H4 := hid h4
  clear h1 h2 h3 h4
  go_wp2
  go_end0
  exact ⟨rfl, ds, ys, al', H1.out, H2.out, H3.out, (HKU.out.mono (fun k _ e => .inl e)).trans H4.out⟩

theorem info68' : (Yba.prog.info? 68).map (fun i => (i.zero, i.size, i.bytes)) = some (some (.pointer none), 1, 8) := by kernel_rfl

/-- The region ends as it should, and in no other way. -/
def onlyNormal (Q : Exit → Act → World → Prop) : Exit → Act → World → Prop := fun e a w =>
  match e with
  | .normal => Q .normal a w
  | _ => False
theorem wp_normal {P : Program} {c : Code} {Q : Exit → Act → World → Prop} {a : Act} {w : World} (h : Code.wp P c (onlyNormal Q) a w) : Code.wp P c Q a w :=
  Code.wp_mono (fun e a w q => by cases e <;> first | exact q | exact q.elim) h

set_option maxRecDepth 20000 in
set_option maxHeartbeats 800000 in
/-- An alarm is set. -/
theorem at_spec (base bc bl bx lb cap : Nat) (M N : Int) (al : Value) (xs : List (Nat × Int)) (ts : List Int) (w : World) (hst : St base w bc bl bx lb cap 0 M al xs ts) (hl : xs.length ≤ 1023) (hbase : base ≤ w.heap.size) :
    Calls Yba.prog 16 #[ptr bc, tN N, ringer bl bx] w fun e w' => (∃ v, e = .returned v) ∧ ∃ p al', w.heap.size ≤ p ∧ St base w' bc bl bx lb cap 0 M al' (xs ++ [(p, N)]) ts ∧
      KeptS (fun b => b = bc ∨ al.ownBlock = some b) w w' := by
  have hc := hst.c.clk
  have hb := lt_of hc
  have hbn : ¬ bc = w.heap.size := by omega
  have HC := hid hc
  have HS := hid hst
  clear hc hst
  obtain ⟨i0, hi, hz0, hz1, hz2⟩ := info_parts' info68'
  go_enter_defers Yba.func16, Yba.ntmps16
  go_wp2_with fail
  refine (lock_free Yba.muLib ⟨bc, 0, none⟩ _ ?_ ?_).mono ?_
  · exact cell_by (heap_alloc_old (heap_alloc_old (heap_alloc_old (heap_alloc_old HC.out)))) (by simp)
  · exact frozen_of (heap_alloc_old (heap_alloc_old (heap_alloc_old (heap_alloc_old HC.out)))) 0
  rintro e u ⟨rfl, hu⟩
  have KU : KeptS (fun b => b = bc) w u := by rw [hu]; exact KeptS.setCell (S := fun b => b = bc) ((((KeptS.refl.alloc _).alloc _).alloc _).alloc _) (fun _ => rfl) _ _
  have SU : St base u bc bl bx lb cap 1 M al xs ts := HS.out.clock KU (by rw [hu]; exact (setCell_at (heap_alloc_old (heap_alloc_old (heap_alloc_old (heap_alloc_old HC.out)))) _ _).trans (by simp))
  have hp : u.heap[w.heap.size + 1 + 1]? = some (alarmObj N (ringer bl bx)) := by rw [hu]; exact setCell_else (heap_alloc_old (heap_alloc_at (by simp))) (by omega) _ _
  have hx : u.heap[w.heap.size]? = some (.cells #[ptr bc] 35) := by rw [hu]; exact setCell_else (heap_alloc_old (heap_alloc_old (heap_alloc_old (heap_alloc_new _ _)))) (by omega) _ _
  have ha : u.heap[w.heap.size + 1 + 1 + 1]? = some (.cells #[ptr (w.heap.size + 1 + 1)] 68) := by rw [hu]; exact setCell_else (heap_alloc_at (by simp)) (by omega) _ _
  have hzu : w.heap.size ≤ u.heap.size := KU.size
  have x0 : u.cell? ⟨w.heap.size, 0, none⟩ = some (ptr bc) := cell_by hx rfl
  have y0 : u.cell? ⟨w.heap.size + 1 + 1 + 1, 0, none⟩ = some (ptr (w.heap.size + 1 + 1)) := cell_by ha rfl
  have c5 : u.cell? ⟨bc, 5, none⟩ = some al := cell_by SU.c.clk rfl
  have hbu : bc < u.heap.size := by omega
  have hzu3 : w.heap.size + 1 + 1 + 1 < u.heap.size := lt_of ha
  have hzu0 : w.heap.size < u.heap.size := by omega
  have hnx : ¬ w.heap.size = u.heap.size := by omega
  have hny : ¬ w.heap.size + 1 + 1 + 1 = u.heap.size := by omega
  have hnb : ¬ bc = u.heap.size := by omega
  have own1 : (u.drew.alloc (.cells #[ptr (w.heap.size + 1 + 1)] 68)).ownsRow base 68 1 al xs.length (xs.map fun a => ptr a.1) := SU.c.own.kept (row := none) ⟨rfl, rfl, rfl, by simp, fun j hj _ => Below.heap_alloc u.drew _ _ hj⟩ (by cases al.ownBlock <;> simp)
  obtain ⟨al', w2, hrun, hown2, hgr, _⟩ := run_append_own (P := Yba.prog) (u.drew.alloc (.cells #[ptr (w.heap.size + 1 + 1)] 68)) base 63 63 68 i0 (.pointer none) 1 8 Yba.underlying63 hi hz0 hz1 hz2 rfl (by decide) al xs.length (xs.map fun a => ptr a.1) own1 ⟨u.heap.size, 0, none⟩ 1 1 [ptr (w.heap.size + 1 + 1)] rfl
    (by
      intro j v hv
      rw [addr_add']
      refine cell_by (heap_alloc_at (by simp)) ?_
      simpa using hv) (by simp [Value.oneCell']) (by unfold maxLen; omega) (by omega) (by simp; omega)
  obtain ⟨g', cap', hal'⟩ : ∃ g' cap', al' = .slice (some ⟨g', 0, none⟩) (xs.length + 1) cap' := by
    rcases hown2.2 with ⟨_, h0⟩ | ⟨g', cap', cur, e, _⟩
    · omega
    · exact ⟨g', cap', e⟩
  subst hal'
  have nbg : some bc ≠ al.ownBlock := by
    intro e
    obtain ⟨cur, hg⟩ := SU.c.row e.symm
    exact ne_of_type SU.c.clk hg (by decide) rfl
  have hblk : w2.heap[bc]? = some (clkObj 1 M al) := (hgr.block bc (by simp; omega) nbg).trans (heap_alloc_old (w := u.drew) SU.c.clk)
  have k5 : w2.cell? ⟨bc, 5, none⟩ = some al := cell_by hblk rfl
  have kf := frozen_of hblk 5
  have nbx : some w.heap.size ≠ al.ownBlock := by
    intro e
    obtain ⟨cur, hg⟩ := HS.out.c.row e.symm
    have := lt_of hg
    omega
  have kx : w2.cell? ⟨w.heap.size, 0, none⟩ = some (ptr bc) := cell_by ((hgr.block w.heap.size (by simp; omega) nbx).trans (heap_alloc_old (w := u.drew) hx)) rfl
  have HB := hid hblk
  have HU := hid hrun
  have HO := hid hown2
  have HG := hid hgr
  have HSU := hid SU
  have HKU := hid KU
  have HP := hid hp
  have HX := hid hx
  have HAB := hid ha
  clear hu KU SU hp hx ha own1 hrun hown2 hgr hblk
  have HEND : Hid (St base ((w2.setCell ⟨bc, 5, none⟩ (.slice (some ⟨g', 0, none⟩) (xs.length + 1) cap')).setCell ⟨bc, 0, none⟩ (.int .i32 0)) bc bl bx lb cap 0 M (.slice (some ⟨g', 0, none⟩) (xs.length + 1) cap') (xs ++ [(w.heap.size + 1 + 1, N)]) ts ∧
      KeptS (fun b => b = bc ∨ al.ownBlock = some b) w ((w2.setCell ⟨bc, 5, none⟩ (.slice (some ⟨g', 0, none⟩) (xs.length + 1) cap')).setCell ⟨bc, 0, none⟩ (.int .i32 0))) := hid (by
    have hx' : ∀ (b : Nat) (c : Array Value) (t : TypeId), u.heap[b]? = some (Obj.cells c t) → t ≠ 65 → t ≠ 68 → ((w2.setCell ⟨bc, 5, none⟩ (.slice (some ⟨g', 0, none⟩) (xs.length + 1) cap')).setCell ⟨bc, 0, none⟩ (.int .i32 0)).heap[b]? = some (Obj.cells c t) := by
      intro b c t hb1 ht1 ht2
      have h1 : w2.heap[b]? = some (Obj.cells c t) := (HG.out.block b (by have := lt_of hb1; simp; omega) (by
        intro e
        obtain ⟨cur, hg⟩ := HSU.out.c.row e.symm
        exact ne_of_type hb1 hg ht2 rfl)).trans (heap_alloc_old (w := u.drew) hb1)
      have hne := ne_of_type hb1 HSU.out.c.clk ht1
      exact setCell_else (setCell_else h1 hne _ _) hne _ _
    constructor
    · refine ⟨⟨(setCell_at (setCell_at HB.out _ _) _ _).trans (by simp), ⟨by simp, ?_⟩, ?_⟩, hx' _ _ _ HSU.out.bl (by decide) (by decide), hx' _ _ _ HSU.out.bx (by decide) (by decide), ⟨HSU.out.log.1, ?_⟩⟩
      · rcases HO.out.2 with ⟨e, _⟩ | ⟨g, cap1, cur, e, hb1, hh, hr⟩
        · cases e
        · have hne := ne_of_type hh HB.out (by decide)
          refine .inr ⟨g, cap1, cur, by simpa using e, hb1, setCell_else (setCell_else hh hne _ _) hne _ _, by simpa using hr⟩
      · intro a ha
        rcases List.mem_append.1 ha with ha | ha
        · exact hx' _ _ _ (HSU.out.c.alarms a ha) (by decide) (by decide)
        · obtain rfl := List.mem_singleton.1 ha
          exact hx' _ _ _ HP.out (by decide) (by decide)
      · rcases HSU.out.log.2 with e | ⟨g, cap1, cur, e, hb1, hh, hr⟩
        · exact .inl e
        · exact .inr ⟨g, cap1, cur, e, hb1, hx' _ _ _ hh (by decide) (by decide), hr⟩
    · have hk0 : KeptS (fun b => b = bc ∨ al.ownBlock = some b) w u := HKU.out.mono (fun k _ e => .inl e)
      have hk1 : KeptS (fun b => b = bc ∨ al.ownBlock = some b) w u.drew := ⟨hk0.os, hk0.tape, hk0.output, hk0.size, hk0.block⟩
      exact (((hk1.alloc _).grown HG.out (fun k e _ => .inr e)).setCell (fun _ => .inl rfl) _ _).setCell (fun _ => .inl rfl) _ _)
  have HE1 : Hid ((w2.setCell ⟨bc, 5, none⟩ (.slice (some ⟨g', 0, none⟩) (xs.length + 1) cap')).heap[bc]? = some (clkObj 1 M (.slice (some ⟨g', 0, none⟩) (xs.length + 1) cap'))) := hid ((setCell_at HB.out _ _).trans (by simp))
  go_upto_region 4 with fail
  refine wp_normal ?_
  go_region_law (refine step_append_run rfl (.tmp 23) (.tmp 25) 63 rfl _ _ _ (by simp [Act.eval]) (by simp [Act.eval]) HU.out ?_)
  all_goals
    dsimp only [onlyNormal]
    go_wp2_with fail
    refine leaves_cons (f := 23) (args := #[.pointer (some ⟨bc, 0, none⟩)]) (by simp) (by simp [go_sem]) ?_
    refine (unlock_deferred Yba.muLib ⟨bc, 0, none⟩ .returning _ (cell_by HE1.out (by simp)) (frozen_of HE1.out 0)).mono ?_
    rintro e u' w'' ⟨rfl, rfl, rfl⟩
    exact ⟨_, by simp [results, Yba.results16, go_sem]; rfl, ⟨_, rfl⟩, _, _, by omega, HEND.out.1, HEND.out.2⟩
end Go.Proofs.Ybulkalfo
