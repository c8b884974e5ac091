import Derived.Test.YbulkalfoClock
import Derived.Test.YbulkalfoCmps
namespace Go.Proofs.Ybulkalfo
open Go.ChangeShapes Go.WideShapes Go.ChangeAt Go.RowKit Go.MuLone

theorem i64_bounds {a : Int} (h : (Lit.int .i64 a).wf = true) : -9223372036854775808 ≤ a ∧ a ≤ 9223372036854775807 := by
  simp [Lit.wf, IntKind.min, IntKind.max, IntKind.signed, IntKind.bits] at h; omega

/-- The zero time and n more. -/
theorem add_zero (n : Int) (w : World) (h0 : -9223372036854775808 ≤ n) (h1 : n ≤ 9223372036854775807) :
    Calls Yba.prog 10 #[.agg #[.int .u64 0, .int .i64 0, .pointer none], .int .i64 n] w fun e w' => e = .returned (tN n) ∧ ∃ o1 o2, w' = (w.alloc (.cells o1 32)).alloc (.cells o2 32) := by
  have h := add_N 0 n w (by omega) (by omega) h0 h1
  have e : tN 0 = .agg #[.int .u64 0, .int .i64 0, .pointer none] := rfl
  rw [e] at h
  simpa using h

set_option maxRecDepth 20000 in
set_option maxHeartbeats 400000 in
theorem start_walk (n : Int) (w0 : (Lit.int .i64 n).wf = true) (w : World) :
    Calls Yba.prog 5 #[.int .i64 n] w fun e w' => e = .returned (.bool true) ∧ Grown w w' := by
  have H : Hid (_ ∧ _) := i64_bounds w0
  clear w0
  have hle := loc_eq
  go_enter Yba.func5, Yba.ntmps5
  go_wp2_with fail
  refine (add_zero n _ H.out.1 H.out.2).mono ?_
  rintro e w' ⟨rfl, o1, o2, rfl⟩
  go_wp2_with fail
  refine (newClock_any n _).mono ?_
  rintro e w' ⟨rfl, rfl⟩
  go_wp2_with fail
  refine (now_any _ n (.slice none 0 0) _ ?_).mono ?_
  · exact heap_alloc_at (by simp)
  rintro e w' ⟨rfl, rfl⟩
  go_wp2_with fail
  refine (equal_N n _).mono ?_
  rintro e w' ⟨rfl, o3, o4, rfl⟩
  go_wp2
  go_ret
  exact ⟨rfl, by repeat (first | exact Grown.refl _ | apply Grown.drew | apply Grown.alloc)⟩
end Go.Proofs.Ybulkalfo
