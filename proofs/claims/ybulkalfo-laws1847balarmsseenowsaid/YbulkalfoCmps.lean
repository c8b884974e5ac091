import Derived.Test.YbulkalfoTimes
namespace Go.Proofs.Ybulkalfo
open Go.ChangeShapes Go.WideShapes Go.ChangeAt Go.RowKit

theorem and_and_mono (x y : Int) (h0 : 0 ≤ x) (h1 : x < 1000000000) (k0 : 0 ≤ y) (k1 : y < 1000000000) : bits .and .u64 (bits .and .u64 x y) 9223372036854775808 = 0 := by
  rw [u64_and x y h0 (by omega) k0 (by omega)]
  have : x.toNat &&& y.toNat ≤ x.toNat := Nat.and_le_left
  exact and_mono _ (by omega) (by omega)

set_option maxHeartbeats 800000 in
theorem after_lt (a b c d : Int) (w : World) (a0 : 0 ≤ a) (a1 : a < 1000000000) (c0 : 0 ≤ c) (c1 : c < 1000000000) (h : b < d) :
    Calls Yba.prog 31 #[tv a b, tv c d] w fun e w' => e = .returned (.bool false) ∧ ∃ o1 o2, w' = (w.alloc (.cells o1 32)).alloc (.cells o2 32) := by
  have e0 := and_and_mono a c a0 a1 c0 c1
  have e1 : ¬ d < b := by omega
  have e2 : (b == d) = false := by simp; omega
  have e3 : decide (d < b) = false := by simp; omega
  go_enter Yba.func31, Yba.ntmps31
  go_wp2_with fail
  refine (sec_any _ a b _ a0 a1 (by simp) (by simp)).mono ?_
  rintro e w' ⟨rfl, rfl⟩
  go_wp2_with fail
  refine (sec_any _ c d _ c0 c1 (by simp) (by simp)).mono ?_
  rintro e w' ⟨rfl, rfl⟩
  go_wp2
  go_ret
  exact ⟨rfl, _, _, rfl⟩

set_option maxHeartbeats 800000 in
theorem after_gt (a b c d : Int) (w : World) (a0 : 0 ≤ a) (a1 : a < 1000000000) (c0 : 0 ≤ c) (c1 : c < 1000000000) (h : d < b) :
    Calls Yba.prog 31 #[tv a b, tv c d] w fun e w' => e = .returned (.bool true) ∧ ∃ o1 o2, w' = (w.alloc (.cells o1 32)).alloc (.cells o2 32) := by
  have e0 := and_and_mono a c a0 a1 c0 c1
  have e1 : ¬ b < d := by omega
  have e2 : (b == d) = false := by simp; omega
  go_enter Yba.func31, Yba.ntmps31
  go_wp2_with fail
  refine (sec_any _ a b _ a0 a1 (by simp) (by simp)).mono ?_
  rintro e w' ⟨rfl, rfl⟩
  go_wp2_with fail
  refine (sec_any _ c d _ c0 c1 (by simp) (by simp)).mono ?_
  rintro e w' ⟨rfl, rfl⟩
  go_wp2
  go_ret
  exact ⟨rfl, _, _, rfl⟩

set_option maxHeartbeats 800000 in
theorem after_eq (a b c : Int) (w : World) (a0 : 0 ≤ a) (a1 : a < 1000000000) (c0 : 0 ≤ c) (c1 : c < 1000000000) :
    Calls Yba.prog 31 #[tv a b, tv c b] w fun e w' => e = .returned (.bool (decide (c < a))) ∧ ∃ o1 o2, w' = (w.alloc (.cells o1 32)).alloc (.cells o2 32) := by
  have e0 := and_and_mono a c a0 a1 c0 c1
  go_enter Yba.func31, Yba.ntmps31
  go_wp2_with fail
  refine (sec_any _ a b _ a0 a1 (by simp) (by simp)).mono ?_
  rintro e w' ⟨rfl, rfl⟩
  go_wp2_with fail
  refine (sec_any _ c b _ c0 c1 (by simp) (by simp)).mono ?_
  rintro e w' ⟨rfl, rfl⟩
  go_wp2_with fail
  refine (nsec_any _ a _ a0 a1 (by simp)).mono ?_
  rintro e w' ⟨rfl, rfl⟩
  go_wp2_with fail
  refine (nsec_any _ c _ c0 c1 (by simp)).mono ?_
  rintro e w' ⟨rfl, rfl⟩
  go_wp2
  go_ret
  exact ⟨rfl, _, _, rfl⟩

set_option maxHeartbeats 800000 in
theorem before_lt (a b c d : Int) (w : World) (a0 : 0 ≤ a) (a1 : a < 1000000000) (c0 : 0 ≤ c) (c1 : c < 1000000000) (h : b < d) :
    Calls Yba.prog 40 #[tv a b, tv c d] w fun e w' => e = .returned (.bool true) ∧ ∃ o1 o2, w' = (w.alloc (.cells o1 32)).alloc (.cells o2 32) := by
  have e0 := and_and_mono a c a0 a1 c0 c1
  have e1 : ¬ d < b := by omega
  have e2 : (b == d) = false := by simp; omega
  go_enter Yba.func40, Yba.ntmps40
  go_wp2_with fail
  refine (sec_any _ a b _ a0 a1 (by simp) (by simp)).mono ?_
  rintro e w' ⟨rfl, rfl⟩
  go_wp2_with fail
  refine (sec_any _ c d _ c0 c1 (by simp) (by simp)).mono ?_
  rintro e w' ⟨rfl, rfl⟩
  go_wp2
  go_ret
  exact ⟨rfl, _, _, rfl⟩

set_option maxHeartbeats 800000 in
theorem before_gt (a b c d : Int) (w : World) (a0 : 0 ≤ a) (a1 : a < 1000000000) (c0 : 0 ≤ c) (c1 : c < 1000000000) (h : d < b) :
    Calls Yba.prog 40 #[tv a b, tv c d] w fun e w' => e = .returned (.bool false) ∧ ∃ o1 o2, w' = (w.alloc (.cells o1 32)).alloc (.cells o2 32) := by
  have e0 := and_and_mono a c a0 a1 c0 c1
  have e1 : ¬ b < d := by omega
  have e2 : (b == d) = false := by simp; omega
  have e3 : decide (b < d) = false := by simp; omega
  go_enter Yba.func40, Yba.ntmps40
  go_wp2_with fail
  refine (sec_any _ a b _ a0 a1 (by simp) (by simp)).mono ?_
  rintro e w' ⟨rfl, rfl⟩
  go_wp2_with fail
  refine (sec_any _ c d _ c0 c1 (by simp) (by simp)).mono ?_
  rintro e w' ⟨rfl, rfl⟩
  go_wp2
  go_ret
  exact ⟨rfl, _, _, rfl⟩

set_option maxHeartbeats 800000 in
theorem before_eq (a b c : Int) (w : World) (a0 : 0 ≤ a) (a1 : a < 1000000000) (c0 : 0 ≤ c) (c1 : c < 1000000000) :
    Calls Yba.prog 40 #[tv a b, tv c b] w fun e w' => e = .returned (.bool (decide (a < c))) ∧ ∃ o1 o2, w' = (w.alloc (.cells o1 32)).alloc (.cells o2 32) := by
  have e0 := and_and_mono a c a0 a1 c0 c1
  go_enter Yba.func40, Yba.ntmps40
  go_wp2_with fail
  refine (sec_any _ a b _ a0 a1 (by simp) (by simp)).mono ?_
  rintro e w' ⟨rfl, rfl⟩
  go_wp2_with fail
  refine (sec_any _ c b _ c0 c1 (by simp) (by simp)).mono ?_
  rintro e w' ⟨rfl, rfl⟩
  go_wp2_with fail
  refine (nsec_any _ a _ a0 a1 (by simp)).mono ?_
  rintro e w' ⟨rfl, rfl⟩
  go_wp2_with fail
  refine (nsec_any _ c _ c0 c1 (by simp)).mono ?_
  rintro e w' ⟨rfl, rfl⟩
  go_wp2
  go_ret
  exact ⟨rfl, _, _, rfl⟩

set_option maxHeartbeats 800000 in
theorem equal_eq (a b c : Int) (w : World) (a0 : 0 ≤ a) (a1 : a < 1000000000) (c0 : 0 ≤ c) (c1 : c < 1000000000) :
    Calls Yba.prog 13 #[tv a b, tv c b] w fun e w' => e = .returned (.bool (a == c)) ∧ ∃ o1 o2, w' = (w.alloc (.cells o1 32)).alloc (.cells o2 32) := by
  have e0 := and_and_mono a c a0 a1 c0 c1
  go_enter Yba.func13, Yba.ntmps13
  go_wp2_with fail
  refine (sec_any _ a b _ a0 a1 (by simp) (by simp)).mono ?_
  rintro e w' ⟨rfl, rfl⟩
  go_wp2_with fail
  refine (sec_any _ c b _ c0 c1 (by simp) (by simp)).mono ?_
  rintro e w' ⟨rfl, rfl⟩
  go_wp2_with fail
  refine (nsec_any _ a _ a0 a1 (by simp)).mono ?_
  rintro e w' ⟨rfl, rfl⟩
  go_wp2_with fail
  refine (nsec_any _ c _ c0 c1 (by simp)).mono ?_
  rintro e w' ⟨rfl, rfl⟩
  go_wp2
  go_ret
  exact ⟨rfl, _, _, rfl⟩


theorem ret_bool {a b : Bool} (h : a = b) : Ending.returned (.bool a) = .returned (.bool b) := by rw [h]

/-- After, whole. -/
theorem after_N (M N : Int) (w : World) :
    Calls Yba.prog 31 #[tN M, tN N] w fun e w' => e = .returned (.bool (decide (N < M))) ∧ ∃ o1 o2, w' = (w.alloc (.cells o1 32)).alloc (.cells o2 32) := by
  unfold tN
  rcases Int.lt_trichotomy (M / 1000000000) (N / 1000000000) with h | h | h
  · refine (after_lt _ _ _ _ w (by omega) (by omega) (by omega) (by omega) h).mono ?_
    rintro e w' ⟨rfl, hw⟩
    exact ⟨ret_bool (by symm; rw [decide_eq_false_iff_not]; omega), hw⟩
  · rw [h]
    refine (after_eq _ _ _ w (by omega) (by omega) (by omega) (by omega)).mono ?_
    rintro e w' ⟨rfl, hw⟩
    exact ⟨ret_bool (by rw [decide_eq_decide]; omega), hw⟩
  · refine (after_gt _ _ _ _ w (by omega) (by omega) (by omega) (by omega) h).mono ?_
    rintro e w' ⟨rfl, hw⟩
    exact ⟨ret_bool (by symm; rw [decide_eq_true_iff]; omega), hw⟩

/-- Before, whole. -/
theorem before_N (M N : Int) (w : World) :
    Calls Yba.prog 40 #[tN M, tN N] w fun e w' => e = .returned (.bool (decide (M < N))) ∧ ∃ o1 o2, w' = (w.alloc (.cells o1 32)).alloc (.cells o2 32) := by
  unfold tN
  rcases Int.lt_trichotomy (M / 1000000000) (N / 1000000000) with h | h | h
  · refine (before_lt _ _ _ _ w (by omega) (by omega) (by omega) (by omega) h).mono ?_
    rintro e w' ⟨rfl, hw⟩
    exact ⟨ret_bool (by symm; rw [decide_eq_true_iff]; omega), hw⟩
  · rw [h]
    refine (before_eq _ _ _ w (by omega) (by omega) (by omega) (by omega)).mono ?_
    rintro e w' ⟨rfl, hw⟩
    exact ⟨ret_bool (by rw [decide_eq_decide]; omega), hw⟩
  · refine (before_gt _ _ _ _ w (by omega) (by omega) (by omega) (by omega) h).mono ?_
    rintro e w' ⟨rfl, hw⟩
    exact ⟨ret_bool (by symm; rw [decide_eq_false_iff_not]; omega), hw⟩

/-- Equal, of one time with itself. -/
theorem equal_N (N : Int) (w : World) :
    Calls Yba.prog 13 #[tN N, tN N] w fun e w' => e = .returned (.bool true) ∧ ∃ o1 o2, w' = (w.alloc (.cells o1 32)).alloc (.cells o2 32) := by
  unfold tN
  refine (equal_eq _ _ _ w (by omega) (by omega) (by omega) (by omega)).mono ?_
  rintro e w' ⟨rfl, hw⟩
  exact ⟨ret_bool (by simp), hw⟩
end Go.Proofs.Ybulkalfo
