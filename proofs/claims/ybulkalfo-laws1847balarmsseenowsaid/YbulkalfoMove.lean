import Derived.Test.YbulkalfoStartWalk
namespace Go.Proofs.Ybulkalfo
open Go.ChangeShapes Go.WideShapes Go.ChangeAt Go.RowKit Go.MuLone

set_option maxHeartbeats 400000 in
theorem due_none (b : Nat) (N : Int) (w : World) (hb : b < w.heap.size) (c5 : w.cell? ⟨b, 5, none⟩ = some (.slice none 0 0)) :
    Calls Yba.prog 30 #[.pointer (some ⟨b, 0, none⟩), tN N] w fun e w' => e = .returned (.pointer none) ∧ w' = w.alloc (timeObj N) := by
  have hbn : ¬ b = w.heap.size := by omega
  go_enter Yba.func30, Yba.ntmps30
  go_wp2
  refine wp_loop_rounds 1 ?_
  rw [rounds_succ]
  go_wp2
  go_ret
  exact ⟨rfl, rfl⟩

theorem nil_eq (w : World) : Sem.run Yba.prog (Op.equalIn 9999 68 (.pointer none) (.pointer none)) w = .ok true w := by kernel_rfl

set_option maxHeartbeats 800000 in
theorem move_none (b : Nat) (M N : Int) (sw : Bool) (w : World) (hc : w.heap[b]? = some (clockObj M (.slice none 0 0))) :
    Calls Yba.prog 25 #[.pointer (some ⟨b, 0, none⟩), tN N, .bool sw] w fun e w' => e = .returned (.tuple #[]) ∧ w'.heap[b]? = some (clockObj N (.slice none 0 0)) ∧ Kept b w w' := by
  have c0 : w.cell? ⟨b, 0, none⟩ = some (.int .i32 0) := by rw [cell_of hc]; rfl
  have c2 : w.cell? ⟨b, 2, none⟩ = some (.int .u64 (M % 1000000000)) := by rw [cell_of hc]; rfl
  have c3 : w.cell? ⟨b, 3, none⟩ = some (.int .i64 (M / 1000000000)) := by rw [cell_of hc]; rfl
  have c4 : w.cell? ⟨b, 4, none⟩ = some (.pointer none) := by rw [cell_of hc]; rfl
  have c5 : w.cell? ⟨b, 5, none⟩ = some (.slice none 0 0) := by rw [cell_of hc]; rfl
  have f0 := frozen_of hc 0
  have f2 := frozen_of hc 2
  have f3 := frozen_of hc 3
  have f4 := frozen_of hc 4
  have hb := lt_of hc
  have hbn : ¬ b = w.heap.size := by omega
  have hne := nil_eq
  have HC : Hid (w.heap[b]? = some (clockObj M (.slice none 0 0))) := hc
  clear hc
  cases sw
  · go_enter Yba.func25, Yba.ntmps25
    go_wp2_with fail
    refine (lock_free Yba.muLib ⟨b, 0, none⟩ _ ?_ ?_).mono ?_
    · exact cell_by (heap_alloc_old HC.out) (by simp)
    · exact frozen_of (heap_alloc_old HC.out) 0
    rintro e w' ⟨rfl, rfl⟩
    go_wp2_with fail
    refine (due_none b N _ ?_ ?_).mono ?_
    · simp [World.setCell]; omega
    · exact cell_by (heap_alloc_old (setCell_at (setCell_at (setCell_at (setCell_at HC.out _ _) _ _) _ _) _ _)) (by simp)
    rintro e w' ⟨rfl, rfl⟩
    go_wp2
    refine wp_loop_rounds 1 ?_
    rw [rounds_succ]
    go_wp2_with fail
    refine (unlock_held Yba.muLib ⟨b, 0, none⟩ _ ?_ ?_).mono ?_
    · exact cell_by (heap_alloc_old (heap_alloc_old (setCell_at (setCell_at (setCell_at (setCell_at (setCell_at (setCell_at (setCell_at HC.out _ _) _ _) _ _) _ _) _ _) _ _) _ _))) (by simp)
    · exact frozen_of (heap_alloc_old (heap_alloc_old (setCell_at (setCell_at (setCell_at (setCell_at (setCell_at (setCell_at (setCell_at HC.out _ _) _ _) _ _) _ _) _ _) _ _) _ _))) 0
    rintro e w' ⟨rfl, rfl⟩
    go_wp2
    go_end0
    refine ⟨rfl, (heap_alloc_old (heap_alloc_old (setCell_at (setCell_at (setCell_at (setCell_at (setCell_at (setCell_at (setCell_at (setCell_at HC.out _ _) _ _) _ _) _ _) _ _) _ _) _ _) _ _))).trans ?_, ((((((((((Kept.refl _ _).setCell _ _).setCell _ _).setCell _ _).setCell _ _).setCell _ _).setCell _ _).setCell _ _).setCell _ _).alloc _).alloc _⟩
    simp
  · go_enter Yba.func25, Yba.ntmps25
    go_wp2_with fail
    refine (lock_free Yba.muLib ⟨b, 0, none⟩ _ ?_ ?_).mono ?_
    · exact cell_by (heap_alloc_old HC.out) (by simp)
    · exact frozen_of (heap_alloc_old HC.out) 0
    rintro e w' ⟨rfl, rfl⟩
    go_wp2_with fail
    refine (due_none b N _ ?_ ?_).mono ?_
    · simp [World.setCell]; omega
    · exact cell_by (heap_alloc_old (setCell_at HC.out _ _)) (by simp)
    rintro e w' ⟨rfl, rfl⟩
    go_wp2
    refine wp_loop_rounds 1 ?_
    rw [rounds_succ]
    go_wp2_with fail
    refine (unlock_held Yba.muLib ⟨b, 0, none⟩ _ ?_ ?_).mono ?_
    · exact cell_by (heap_alloc_old (heap_alloc_old (setCell_at (setCell_at (setCell_at (setCell_at HC.out _ _) _ _) _ _) _ _))) (by simp)
    · exact frozen_of (heap_alloc_old (heap_alloc_old (setCell_at (setCell_at (setCell_at (setCell_at HC.out _ _) _ _) _ _) _ _))) 0
    rintro e w' ⟨rfl, rfl⟩
    go_wp2
    go_end0
    refine ⟨rfl, (heap_alloc_old (heap_alloc_old (setCell_at (setCell_at (setCell_at (setCell_at (setCell_at HC.out _ _) _ _) _ _) _ _) _ _))).trans ?_, (((((((Kept.refl _ _).setCell _ _).setCell _ _).setCell _ _).setCell _ _).setCell _ _).alloc _).alloc _⟩
    simp
end Go.Proofs.Ybulkalfo
