import Derived.Test.YbulkalfoRows
import Derived.WalkKit
import Derived.ProofKit
import Derived.WalkLawsBesides
import Derived.Outline
import Derived.Laws.BitsAllLaws
namespace Go.Proofs.Ybulkalfo
open Go.ChangeShapes Go.WideShapes Go.ChangeAt Go.RowKit

/-! ### A wall word below 2^30: no monotonic mark -/
theorem and_mask (x : Int) (h0 : 0 ≤ x) (h1 : x < 1073741824) : bits .and .u64 x 1073741823 = x := by
  rw [u64_and x 1073741823 h0 (by omega) (by omega) (by omega)]
  have : x.toNat &&& (1073741823 : Int).toNat = x.toNat := by
    show x.toNat &&& (2 ^ 30 - 1) = _
    rw [Nat.and_two_pow_sub_one_eq_mod]; omega
  rw [this]; omega
theorem and_mono (x : Int) (h0 : 0 ≤ x) (h1 : x < 1073741824) : bits .and .u64 x 9223372036854775808 = 0 := by
  rw [u64_and x 9223372036854775808 h0 (by omega) (by omega) (by omega)]
  have : x.toNat &&& (9223372036854775808 : Int).toNat = 0 := by
    show x.toNat &&& 2 ^ 63 = 0
    rw [nat_bit]; rw [Nat.div_eq_of_lt (by omega)]
  rw [this]; rfl
theorem andNot_mask (x : Int) (h0 : 0 ≤ x) (h1 : x < 1073741824) : bits .andNot .u64 x 1073741823 = 0 := by
  rw [u64_andNot x 1073741823 h0 (by omega) (by omega) (by omega)]
  have : x.toNat &&& (18446744073709551615 - (1073741823 : Int).toNat) = 0 := by
    show x.toNat &&& 18446744072635809792 = 0
    apply Nat.eq_of_testBit_eq
    intro i
    rw [Nat.testBit_and, Nat.zero_testBit]
    by_cases hi : i < 30
    · have : Nat.testBit 18446744072635809792 i = false := by
        rw [show (18446744072635809792 : Nat) = 2 ^ 30 * 17179869183 by decide, Nat.testBit_two_pow_mul]
        simp; omega
      simp [this]
    · have : Nat.testBit x.toNat i = false := by
        apply Nat.testBit_lt_two_pow
        calc x.toNat < 2 ^ 30 := by omega
          _ ≤ 2 ^ i := Nat.pow_le_pow_right (by omega) (by omega)
      simp [this]
  rw [this]; rfl
theorem or_zero (x : Int) (h0 : 0 ≤ x) (h1 : x < 1073741824) : bits .or .u64 0 x = x := by
  rw [u64_or 0 x (by omega) (by omega) h0 (by omega)]
  simp; omega

/-! ### A time.Time that carries no monotonic reading and no location -/
/-- The value of a time.Time: wall word, seconds, no location. -/
abbrev tv (wl ex : Int) : Value := .agg #[.int .u64 wl, .int .i64 ex, .pointer none]

/-- The time N nanoseconds behind the zero time. -/
abbrev tN (N : Int) : Value := tv (N % 1000000000) (N / 1000000000)

set_option maxHeartbeats 400000 in
theorem nsec_any (b : Nat) (wl : Int) (w : World) (h0 : 0 ≤ wl) (h1 : wl < 1000000000) (c0 : w.cell? ⟨b, 0, none⟩ = some (.int .u64 wl)) :
    Calls Yba.prog 19 #[.pointer (some ⟨b, 0, none⟩)] w fun e w' => e = .returned (.int .i32 wl) ∧ w' = w := by
  have e1 := and_mask wl h0 (by omega)
  go_enter Yba.func19, Yba.ntmps19
  go_wp2
  go_ret
  exact ⟨rfl, rfl⟩

set_option maxHeartbeats 400000 in
theorem sec_any (b : Nat) (wl ex : Int) (w : World) (h0 : 0 ≤ wl) (h1 : wl < 1000000000) (c0 : w.cell? ⟨b, 0, none⟩ = some (.int .u64 wl)) (c1 : w.cell? ⟨b, 1, none⟩ = some (.int .i64 ex)) :
    Calls Yba.prog 24 #[.pointer (some ⟨b, 0, none⟩)] w fun e w' => e = .returned (.int .i64 ex) ∧ w' = w := by
  have e1 := and_mono wl h0 (by omega)
  go_enter Yba.func24, Yba.ntmps24
  go_wp2
  go_ret
  exact ⟨rfl, rfl⟩

theorem dec_beq {p q : Prop} [Decidable p] [Decidable q] (h : p ↔ q) : (decide p == decide q) = true := by
  simp [h]

set_option maxHeartbeats 400000 in
theorem addSec_any (b : Nat) (wl ex d : Int) (w : World) (h0 : 0 ≤ wl) (h1 : wl < 1000000000) (l0 : -100000000000000000 ≤ ex) (l1 : ex ≤ 100000000000000000) (l2 : -100000000000000000 ≤ d) (l3 : d ≤ 100000000000000000)
    (c0 : w.cell? ⟨b, 0, none⟩ = some (.int .u64 wl)) (c1 : w.cell? ⟨b, 1, none⟩ = some (.int .i64 ex)) (f1 : w.frozen? ⟨b, 1, none⟩ = false) :
    Calls Yba.prog 20 #[.pointer (some ⟨b, 0, none⟩), .int .i64 d] w fun e w' => e = .returned (.tuple #[]) ∧ w' = w.setCell ⟨b, 1, none⟩ (.int .i64 (ex + d)) := by
  have e1 := and_mono wl h0 (by omega)
  have e2 : (decide (ex < ex + d) == decide (0 < d)) = true := dec_beq (by omega)
  go_enter Yba.func20, Yba.ntmps20
  go_wp2
  go_end0
  exact ⟨rfl, rfl⟩

set_option maxHeartbeats 800000 in
theorem add_hi (wl ex d : Int) (w : World) (h0 : 0 ≤ wl) (h1 : wl < 1000000000) (l0 : -10000000000000000 ≤ ex) (l1 : ex ≤ 10000000000000000)
    (m0 : -1000000000 < d.tmod 1000000000) (m1 : d.tmod 1000000000 < 1000000000) (q0 : -10000000000 ≤ d.tdiv 1000000000) (q1 : d.tdiv 1000000000 ≤ 10000000000)
    (hc : 1000000000 ≤ wl + d.tmod 1000000000) :
    Calls Yba.prog 10 #[tv wl ex, .int .i64 d] w fun e w' => e = .returned (tv (wl + d.tmod 1000000000 - 1000000000) (ex + (d.tdiv 1000000000 + 1))) ∧ ∃ o1 o2, w' = (w.alloc (.cells o1 32)).alloc (.cells o2 32) := by
  have e0 := andNot_mask wl h0 (by omega)
  have e1 := or_zero (wl + d.tmod 1000000000 - 1000000000) (by omega) (by omega)
  have e2 := and_mono (wl + d.tmod 1000000000 - 1000000000) (by omega) (by omega)
  go_enter Yba.func10, Yba.ntmps10
  go_wp2_with fail
  refine (nsec_any _ wl _ h0 h1 (by simp)).mono ?_
  rintro e w' ⟨rfl, rfl⟩
  go_wp2_with fail
  refine (addSec_any _ (wl + d.tmod 1000000000 - 1000000000) ex _ _ (by omega) (by omega) (by omega) (by omega) (by omega) (by omega) ?_ ?_ ?_).mono ?_
  · simp
  · simp
  · simp
  rintro e w' ⟨rfl, rfl⟩
  go_wp2
  exact bodyPost_ret (v := tv (wl + d.tmod 1000000000 - 1000000000) (ex + (d.tdiv 1000000000 + 1))) (by simp [results, Yba.results10, go_sem]) rfl ⟨rfl, _, _, rfl⟩

set_option maxHeartbeats 800000 in
theorem add_lo (wl ex d : Int) (w : World) (h0 : 0 ≤ wl) (h1 : wl < 1000000000) (l0 : -10000000000000000 ≤ ex) (l1 : ex ≤ 10000000000000000)
    (m0 : -1000000000 < d.tmod 1000000000) (m1 : d.tmod 1000000000 < 1000000000) (q0 : -10000000000 ≤ d.tdiv 1000000000) (q1 : d.tdiv 1000000000 ≤ 10000000000)
    (hc : wl + d.tmod 1000000000 < 0) :
    Calls Yba.prog 10 #[tv wl ex, .int .i64 d] w fun e w' => e = .returned (tv (wl + d.tmod 1000000000 + 1000000000) (ex + (d.tdiv 1000000000 - 1))) ∧ ∃ o1 o2, w' = (w.alloc (.cells o1 32)).alloc (.cells o2 32) := by
  have e0 := andNot_mask wl h0 (by omega)
  have e1 := or_zero (wl + d.tmod 1000000000 + 1000000000) (by omega) (by omega)
  have e2 := and_mono (wl + d.tmod 1000000000 + 1000000000) (by omega) (by omega)
  go_enter Yba.func10, Yba.ntmps10
  go_wp2_with fail
  refine (nsec_any _ wl _ h0 h1 (by simp)).mono ?_
  rintro e w' ⟨rfl, rfl⟩
  go_wp2_with fail
  refine (addSec_any _ (wl + d.tmod 1000000000 + 1000000000) ex _ _ (by omega) (by omega) (by omega) (by omega) (by omega) (by omega) ?_ ?_ ?_).mono ?_
  · simp
  · simp
  · simp
  rintro e w' ⟨rfl, rfl⟩
  go_wp2
  exact bodyPost_ret (v := tv (wl + d.tmod 1000000000 + 1000000000) (ex + (d.tdiv 1000000000 - 1))) (by simp [results, Yba.results10, go_sem]) rfl ⟨rfl, _, _, rfl⟩

set_option maxHeartbeats 800000 in
theorem add_mid (wl ex d : Int) (w : World) (h0 : 0 ≤ wl) (h1 : wl < 1000000000) (l0 : -10000000000000000 ≤ ex) (l1 : ex ≤ 10000000000000000)
    (m0 : -1000000000 < d.tmod 1000000000) (m1 : d.tmod 1000000000 < 1000000000) (q0 : -10000000000 ≤ d.tdiv 1000000000) (q1 : d.tdiv 1000000000 ≤ 10000000000)
    (hc : 0 ≤ wl + d.tmod 1000000000) (hd : wl + d.tmod 1000000000 < 1000000000) :
    Calls Yba.prog 10 #[tv wl ex, .int .i64 d] w fun e w' => e = .returned (tv (wl + d.tmod 1000000000) (ex + (d.tdiv 1000000000))) ∧ ∃ o1 o2, w' = (w.alloc (.cells o1 32)).alloc (.cells o2 32) := by
  have e0 := andNot_mask wl h0 (by omega)
  have e1 := or_zero (wl + d.tmod 1000000000) (by omega) (by omega)
  have e2 := and_mono (wl + d.tmod 1000000000) (by omega) (by omega)
  go_enter Yba.func10, Yba.ntmps10
  go_wp2_with fail
  refine (nsec_any _ wl _ h0 h1 (by simp)).mono ?_
  rintro e w' ⟨rfl, rfl⟩
  go_wp2_with fail
  refine (addSec_any _ (wl + d.tmod 1000000000) ex _ _ (by omega) (by omega) (by omega) (by omega) (by omega) (by omega) ?_ ?_ ?_).mono ?_
  · simp
  · simp
  · simp
  rintro e w' ⟨rfl, rfl⟩
  go_wp2
  exact bodyPost_ret (v := tv (wl + d.tmod 1000000000) (ex + (d.tdiv 1000000000))) (by simp [results, Yba.results10, go_sem]) rfl ⟨rfl, _, _, rfl⟩


theorem tdiv_bounds (d : Int) (h0 : -9223372036854775808 ≤ d) (h1 : d ≤ 9223372036854775807) :
    -1000000000 < d.tmod 1000000000 ∧ d.tmod 1000000000 < 1000000000 ∧ -10000000000 ≤ d.tdiv 1000000000 ∧ d.tdiv 1000000000 ≤ 10000000000 ∧ d.tdiv 1000000000 * 1000000000 + d.tmod 1000000000 = d := by
  have e := Int.tdiv_mul_add_tmod d 1000000000
  by_cases h : 0 ≤ d
  · rw [Int.tdiv_eq_ediv_of_nonneg h, Int.tmod_eq_emod_of_nonneg h] at *
    omega
  · have hq : d.tdiv 1000000000 = -((-d) / 1000000000) := by
      have : d = -(-d) := by omega
      rw [this, Int.neg_tdiv, Int.tdiv_eq_ediv_of_nonneg (by omega)]; omega
    have hr : d.tmod 1000000000 = -((-d) % 1000000000) := by
      have : d = -(-d) := by omega
      rw [this, Int.neg_tmod, Int.tmod_eq_emod_of_nonneg (by omega)]; omega
    rw [hq, hr] at *
    omega

theorem ret_tv {a b c d : Int} (h : a = b) (k : c = d) : Ending.returned (tv a c) = .returned (tv b d) := by rw [h, k]

/-- Add, whole: N nanoseconds and d more. -/
theorem add_N (N d : Int) (w : World) (n0 : -1000000000000000000000000 ≤ N) (n1 : N ≤ 1000000000000000000000000) (h0 : -9223372036854775808 ≤ d) (h1 : d ≤ 9223372036854775807) :
    Calls Yba.prog 10 #[tN N, .int .i64 d] w fun e w' => e = .returned (tN (N + d)) ∧ ∃ o1 o2, w' = (w.alloc (.cells o1 32)).alloc (.cells o2 32) := by
  obtain ⟨m0, m1, q0, q1, hd⟩ := tdiv_bounds d h0 h1
  unfold tN
  by_cases c1 : 1000000000 ≤ N % 1000000000 + d.tmod 1000000000
  · refine (add_hi _ _ d w (by omega) (by omega) (by omega) (by omega) m0 m1 q0 q1 c1).mono ?_
    rintro e w' ⟨rfl, hw⟩
    exact ⟨ret_tv (by omega) (by omega), hw⟩
  · by_cases c2 : N % 1000000000 + d.tmod 1000000000 < 0
    · refine (add_lo _ _ d w (by omega) (by omega) (by omega) (by omega) m0 m1 q0 q1 c2).mono ?_
      rintro e w' ⟨rfl, hw⟩
      exact ⟨ret_tv (by omega) (by omega), hw⟩
    · refine (add_mid _ _ d w (by omega) (by omega) (by omega) (by omega) m0 m1 q0 q1 (by omega) (by omega)).mono ?_
      rintro e w' ⟨rfl, hw⟩
      exact ⟨ret_tv (by omega) (by omega), hw⟩
end Go.Proofs.Ybulkalfo
