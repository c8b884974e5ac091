import Derived.Test.YbulkalfoTimes
import Derived.Test.YbulkalfoWorlds
import Derived.Test.YbulkalfoLocks
import Derived.Conc.MuLone
import Derived.Defers
namespace Go.Proofs.Ybulkalfo
open Go.ChangeShapes Go.WideShapes Go.ChangeAt Go.RowKit Go.MuLone

/-- The block of a time.Time. -/
abbrev timeObj (N : Int) : Obj := .cells #[.int .u64 (N % 1000000000), .int .i64 (N / 1000000000), .pointer none] 32
/-- The block of a TestClock whose lock is free: the time that it shows, its alarms. -/
abbrev clockObj (N : Int) (al : Value) : Obj := .cells #[.int .i32 0, .int .u32 0, .int .u64 (N % 1000000000), .int .i64 (N / 1000000000), .pointer none, al] 65

theorem loc_eq (w : World) : Sem.run Yba.prog (Op.equalIn 9999 30 (.pointer none) (.pointer none)) w = .ok true w := by kernel_rfl

set_option maxHeartbeats 400000 in
theorem newClock_any (N : Int) (w : World) :
    Calls Yba.prog 11 #[tN N] w fun e w' => e = .returned (.pointer (some ⟨w.heap.size + 1, 0, none⟩)) ∧ w' = (w.alloc (timeObj N)).alloc (clockObj N (.slice none 0 0)) := by
  go_enter Yba.func11, Yba.ntmps11
  go_wp2
  go_ret
  exact ⟨rfl, rfl⟩

set_option maxHeartbeats 400000 in
theorem now_any (b : Nat) (N : Int) (al : Value) (w : World) (hc : w.heap[b]? = some (clockObj N al)) :
    Calls Yba.prog 12 #[.pointer (some ⟨b, 0, none⟩)] w fun e w' => e = .returned (tN N) ∧ w' = w.alloc (timeObj N) := by
  have c0 : w.cell? ⟨b, 0, none⟩ = some (.int .i32 0) := by rw [cell_of hc]; rfl
  have c2 : w.cell? ⟨b, 2, none⟩ = some (.int .u64 (N % 1000000000)) := by rw [cell_of hc]; rfl
  have c3 : w.cell? ⟨b, 3, none⟩ = some (.int .i64 (N / 1000000000)) := by rw [cell_of hc]; rfl
  have c4 : w.cell? ⟨b, 4, none⟩ = some (.pointer none) := by rw [cell_of hc]; rfl
  have f0 := frozen_of hc 0
  have hb := lt_of hc
  have hbn : ¬ b = w.heap.size := by omega
  have HC : Hid (w.heap[b]? = some (clockObj N al)) := hc
  clear hc
  go_enter_defers Yba.func12, Yba.ntmps12
  go_wp2_with fail
  refine (lock_free Yba.muLib ⟨b, 0, none⟩ _ ?_ ?_).mono ?_
  · simp [World.cell?_alloc_past, hb, c0]
  · simp [frozen?_alloc_cells, f0]
  rintro e w' ⟨rfl, rfl⟩
  go_wp2
  refine leaves_cons (f := 23) (args := #[.pointer (some ⟨b, 0, none⟩)]) (by simp) (by simp [go_sem]) ?_
  refine (unlock_deferred Yba.muLib ⟨b, 0, none⟩ .returning _ ?_ ?_).mono ?_
  · rw [World.cell?_alloc_past _ _ _ (by simpa [World.setCell] using hb)]
    exact World.cell?_setCell_same w ⟨b, 0, none⟩ _ c0
  · rw [frozen?_alloc_cells]; simp [f0]
  rintro e u' w'' ⟨rfl, rfl, rfl⟩
  have hw : ((w.setCell ⟨b, 0, none⟩ (.int .i32 1)).alloc (timeObj N)).setCell ⟨b, 0, none⟩ (.int .i32 0) = w.alloc (timeObj N) := by
    rw [World.setCell_alloc_past _ _ _ _ (by simpa [World.setCell] using hb), setCell_twice, setCell_back _ _ _ _ c0]
  rw [hw]
  exact ⟨tN N, by simp [results, Yba.results12, go_sem], rfl, rfl⟩
end Go.Proofs.Ybulkalfo
