import Derived.Test.YbulkalfoMove
namespace Go.Proofs.Ybulkalfo
open Go.ChangeShapes Go.WideShapes Go.ChangeAt Go.RowKit Go.MuLone

set_option maxHeartbeats 400000 in
theorem set_none (b : Nat) (M N : Int) (w : World) (hc : w.heap[b]? = some (clockObj M (.slice none 0 0))) :
    Calls Yba.prog 14 #[.pointer (some ⟨b, 0, none⟩), tN N] w fun e w' => e = .returned (.tuple #[]) ∧ w'.heap[b]? = some (clockObj N (.slice none 0 0)) ∧ Kept b w w' := by
  have HC : Hid (w.heap[b]? = some (clockObj M (.slice none 0 0))) := hc
  clear hc
  go_enter Yba.func14, Yba.ntmps14
  go_wp2_with fail
  refine (move_none b M N false _ ?_).mono ?_
  · exact heap_alloc_old HC.out
  rintro e w' ⟨rfl, hh, hk⟩
  have HH : Hid (w'.heap[b]? = _) := hh
  clear hh
  go_wp2
  go_end0
  exact ⟨rfl, HH.out, ((Kept.refl _ _).alloc _).trans hk⟩

set_option maxHeartbeats 800000 in
theorem advance_none (b : Nat) (M d : Int) (w : World) (n0 : -1000000000000000000000000 ≤ M) (n1 : M ≤ 1000000000000000000000000) (hd : Hid (-9223372036854775808 ≤ d ∧ d ≤ 9223372036854775807))
    (hc : w.heap[b]? = some (clockObj M (.slice none 0 0))) :
    Calls Yba.prog 15 #[.pointer (some ⟨b, 0, none⟩), .int .i64 d] w fun e w' => e = .returned (.tuple #[]) ∧ w'.heap[b]? = some (clockObj (M + d) (.slice none 0 0)) ∧ Kept b w w' := by
  have c2 : w.cell? ⟨b, 2, none⟩ = some (.int .u64 (M % 1000000000)) := by rw [cell_of hc]; rfl
  have c3 : w.cell? ⟨b, 3, none⟩ = some (.int .i64 (M / 1000000000)) := by rw [cell_of hc]; rfl
  have c4 : w.cell? ⟨b, 4, none⟩ = some (.pointer none) := by rw [cell_of hc]; rfl
  have hb := lt_of hc
  have hbn : ¬ b = w.heap.size := by omega
  have HC : Hid (w.heap[b]? = some (clockObj M (.slice none 0 0))) := hc
  clear hc
  go_enter Yba.func15, Yba.ntmps15
  go_wp2_with fail
  refine (lock_free Yba.muLib ⟨b, 0, none⟩ _ ?_ ?_).mono ?_
  · exact cell_by HC.out (by simp)
  · exact frozen_of HC.out 0
  rintro e w' ⟨rfl, rfl⟩
  go_wp2_with fail
  refine (add_N M d _ n0 n1 hd.out.1 hd.out.2).mono ?_
  rintro e w' ⟨rfl, o1, o2, rfl⟩
  go_wp2_with fail
  refine (unlock_held Yba.muLib ⟨b, 0, none⟩ _ ?_ ?_).mono ?_
  · exact cell_by (heap_alloc_old (heap_alloc_old (heap_alloc_old (setCell_at HC.out _ _)))) (by simp)
  · exact frozen_of (heap_alloc_old (heap_alloc_old (heap_alloc_old (setCell_at HC.out _ _)))) 0
  rintro e w' ⟨rfl, rfl⟩
  go_wp2_with fail
  refine (move_none b M (M + d) _ _ ?_).mono ?_
  · exact (setCell_at (heap_alloc_old (heap_alloc_old (heap_alloc_old (setCell_at HC.out _ _)))) _ _).trans (by simp)
  rintro e w' ⟨rfl, hh, hk⟩
  have HH : Hid (w'.heap[b]? = _) := hh
  clear hh
  go_wp2
  go_end0
  exact ⟨rfl, HH.out, ((((((Kept.refl _ _).setCell _ _).alloc _).alloc _).alloc _).setCell _ _).trans hk⟩
end Go.Proofs.Ybulkalfo
