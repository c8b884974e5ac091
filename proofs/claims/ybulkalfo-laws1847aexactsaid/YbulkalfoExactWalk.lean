import Derived.Test.YbulkalfoCount
namespace Go.Proofs.Ybulkalfo
open Go.ChangeShapes Go.WideShapes Go.ChangeAt Go.RowKit

theorem u8_bounds {a : Int} (h : (Lit.int .u8 a).wf = true) : 0 ≤ a ∧ a ≤ 255 := by
  simp [Lit.wf, IntKind.min, IntKind.max, IntKind.signed, IntKind.bits] at h; omega

set_option maxHeartbeats 400000 in
theorem exact_walk (a0 a1 a2 a3 a4 : Int) (a5 : Bool) (w3 : (Lit.int .u8 a3).wf = true) (w4 : (Lit.int .u8 a4).wf = true) (w : World) :
    Calls Yba.prog 3 #[.int .u64 a0, .int .u64 a1, .int .u64 a2, .int .u8 a3, .int .u8 a4, .bool a5] w fun e w' => e = .returned (.bool true) ∧ Grown w w' := by
  obtain ⟨h30, h31⟩ := u8_bounds w3
  obtain ⟨h40, h41⟩ := u8_bounds w4
  clear w3 w4
  cases a5
  · go_enter Yba.func3, Yba.ntmps3
    go_wp2_with fail
    refine (count_first _ _ a1 _ _ (by omega) (by omega) (by omega) (by omega) ?_ ?_).mono ?_
    · simp
    · simp
    rintro e w' ⟨rfl, rfl⟩
    go_wp2_with fail
    refine (bit_any _ _ _ (by omega) (by omega) (by omega) (by omega)).mono ?_
    rintro e w' ⟨rfl, rfl⟩
    go_wp2
    go_ret
    exact ⟨rfl, by repeat (first | exact Grown.refl _ | apply Grown.drew | apply Grown.alloc)⟩
  · go_enter Yba.func3, Yba.ntmps3
    go_wp2_with fail
    refine (count_last _ _ a2 _ _ (by omega) (by omega) (by omega) (by omega) ?_ ?_).mono ?_
    · simp
    · simp
    rintro e w' ⟨rfl, rfl⟩
    go_wp2_with fail
    refine (bit_any _ _ _ (by omega) (by omega) (by omega) (by omega)).mono ?_
    rintro e w' ⟨rfl, rfl⟩
    go_wp2
    go_ret
    exact ⟨rfl, by repeat (first | exact Grown.refl _ | apply Grown.drew | apply Grown.alloc)⟩
end Go.Proofs.Ybulkalfo
