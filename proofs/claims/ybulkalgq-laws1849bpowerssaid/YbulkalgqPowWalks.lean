import Derived.Test.YbulkalgqPows
namespace Go.Proofs.Ybulkalgq
open Go.ChangeShapes Go.WideShapes Go.ChangeAt Go.RowKit

theorem i64_hi {a : Int} (h : (Lit.int .i64 a).wf = true) : a < 10000000000000000000 := by
  simp [Lit.wf, IntKind.min, IntKind.max, IntKind.signed, IntKind.bits] at h; omega
theorem u8_bounds {a : Int} (h : (Lit.int .u8 a).wf = true) : 0 ≤ a ∧ a ≤ 255 := by
  simp [Lit.wf, IntKind.min, IntKind.max, IntKind.signed, IntKind.bits] at h; omega

set_option maxHeartbeats 400000 in
theorem table_walk (n : Int) (w0 : (Lit.int .i64 n).wf = true) (w : World) :
    Calls Yba.prog 3 #[.int .i64 n] w fun e w' => e = .returned (.bool true) ∧ Grown w w' := by
  have hu := Hid.mk (i64_hi w0)
  clear w0
  go_enter Yba.func3, Yba.ntmps3
  go_wp2_with fail
  refine (pot_any n _ hu.out).mono ?_
  rintro e w' ⟨rfl, rfl⟩
  go_wp2_with fail
  refine (ispow_any n _).mono ?_
  rintro e w' ⟨rfl, rfl⟩
  go_wp2
  go_ret
  exact ⟨rfl, Grown.refl _⟩

theorem pB_pow (k : Nat) (h : k ≤ 18) : pB (10 ^ k) = true := (pB_iff _).2 ⟨k, h, rfl⟩
theorem pB_succ (k : Nat) : pB (10 ^ k + 1) = false := by
  cases k with
  | zero => decide
  | succ k =>
    have := pow_pos10 k
    exact pB_odd _ (by rw [Int.pow_succ]; omega) (by rw [Int.pow_succ]; omega)
theorem pB_neg (k : Nat) : pB (-10 ^ k) = false := by
  have := pow_pos10 k
  rw [pB_low _ (by omega)]
  simp; omega

set_option maxHeartbeats 400000 in
theorem powers_walk (x : Int) (w0 : (Lit.int .u8 x).wf = true) (w : World) :
    Calls Yba.prog 4 #[.int .u8 x] w fun e w' => e = .returned (.bool true) ∧ Grown w w' := by
  obtain ⟨x0, x1⟩ := u8_bounds w0
  clear w0
  have hk : (x % 19).toNat ≤ 18 := by omega
  have hp := pow_pos10 (x % 19).toNat
  have hp18 : (10 : Int) ^ (x % 19).toNat ≤ 1000000000000000000 := by
    have := pow_le10 hk
    have e : (10 : Int) ^ 18 = 1000000000000000000 := by decide
    omega
  have e1 := pB_pow (x % 19).toNat hk
  have e2 := pB_succ (x % 19).toNat
  have e3 := pB_neg (x % 19).toNat
  go_enter Yba.func4, Yba.ntmps4
  go_wp2_with fail
  refine (pow_any _ _ (by omega) (by omega)).mono ?_
  rintro e w' ⟨rfl, rfl⟩
  generalize (10 : Int) ^ (x % 19).toNat = p at hp hp18 e1 e2 e3 ⊢
  go_wp2_with fail
  refine (pot_any p _ (by omega)).mono ?_
  rintro e w' ⟨rfl, rfl⟩
  go_wp2_with fail
  refine (pot_any (p + 1) _ (by omega)).mono ?_
  rintro e w' ⟨rfl, rfl⟩
  go_wp2_with fail
  refine (pot_any (-p) _ (by omega)).mono ?_
  rintro e w' ⟨rfl, rfl⟩
  go_wp2
  go_ret
  exact ⟨rfl, Grown.refl _⟩
end Go.Proofs.Ybulkalgq
