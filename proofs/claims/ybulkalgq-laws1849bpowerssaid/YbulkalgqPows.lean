import Derived.Test.YbulkalgqRows
import Derived.WalkKit
import Derived.ProofKit
import Derived.OpenShut
import Derived.WalkLawsBesides
import Derived.Outline
import Derived.LoopTactic
import Derived.Below
namespace Go.Proofs.Ybulkalgq
open Go.ChangeShapes Go.WideShapes Go.ChangeAt Go.RowKit

/-! ### The plain part: powers of ten up to 10^18 -/
/-- n is one of 10^0 .. 10^18. -/
def pB (n : Int) : Bool := (List.range 19).any fun k => n == 10 ^ k

theorem pB_iff (n : Int) : pB n = true ↔ ∃ k : Nat, k ≤ 18 ∧ n = 10 ^ k := by
  unfold pB
  rw [List.any_eq_true]
  constructor
  · rintro ⟨k, hk, h⟩
    exact ⟨k, by have := List.mem_range.1 hk; omega, by simpa using h⟩
  · rintro ⟨k, hk, h⟩
    exact ⟨k, List.mem_range.2 (by omega), by simp [h]⟩

theorem pow_pos10 (k : Nat) : (1 : Int) ≤ 10 ^ k := by
  induction k with
  | zero => simp
  | succ k ih => rw [Int.pow_succ]; omega

theorem pow_le10 {j k : Nat} (h : j ≤ k) : (10 : Int) ^ j ≤ 10 ^ k := by
  induction k with
  | zero => have : j = 0 := by omega
            subst this; exact Int.le_refl _
  | succ k ih =>
    by_cases e : j = k + 1
    · subst e; exact Int.le_refl _
    · have := ih (by omega)
      have := pow_pos10 k
      rw [Int.pow_succ]; omega

theorem pB_low (n : Int) (h : n ≤ 1) : pB n = (n == 1) := by
  rw [Bool.eq_iff_iff, pB_iff]
  constructor
  · rintro ⟨k, _, rfl⟩
    have := pow_pos10 k
    have : (10 : Int) ^ k = 1 := by omega
    simp [this]
  · intro e
    have e' : n = 1 := by simpa using e
    exact ⟨0, by omega, by simp [e']⟩

theorem pB_odd (n : Int) (h : 1 < n) (h10 : ¬ n % 10 = 0) : pB n = false := by
  rw [Bool.eq_false_iff]
  intro hp
  obtain ⟨k, _, rfl⟩ := (pB_iff n).1 hp
  cases k with
  | zero => simp at h
  | succ k => rw [Int.pow_succ] at h10; omega

theorem pB_div (n : Int) (h : 1 < n) (h10 : n % 10 = 0) (hu : n < 10000000000000000000) : pB (n / 10) = pB n := by
  rw [Bool.eq_iff_iff, pB_iff, pB_iff]
  constructor
  · rintro ⟨k, hk, e⟩
    have hn : n = 10 ^ (k + 1) := by rw [Int.pow_succ, ← e]; omega
    refine ⟨k + 1, ?_, hn⟩
    by_cases hk18 : k = 18
    · subst hk18
      have : (10 : Int) ^ (18 + 1) = 10000000000000000000 := by decide
      omega
    · omega
  · rintro ⟨k, hk, e⟩
    cases k with
    | zero => simp at e; omega
    | succ k => exact ⟨k, by omega, by rw [e, Int.pow_succ]; omega⟩

theorem quo10 (m : Int) (h : 1 < m) (hu : m < 10000000000000000000) : wrap64 (m.tdiv 10) = m / 10 := by
  rw [Int.tdiv_eq_ediv_of_nonneg (by omega)]
  unfold wrap64
  omega
theorem Hid.mk {p : Prop} (h : p) : Hid p := h
theorem ret_bool {a b : Bool} (h : a = b) : Ending.returned (.bool a) = .returned (.bool b) := by rw [h]

set_option maxHeartbeats 400000 in
/-- powerOfTen, whole. -/
theorem pot_any (n : Int) (w : World) (hu : n < 10000000000000000000) :
    Calls Yba.prog 7 #[.int .i64 n] w fun e w' => e = .returned (.bool (pB n)) ∧ w' = w := by
  have HU := Hid.mk hu
  clear hu
  go_enter Yba.func7, Yba.ntmps7
  go_wp2
  go_loop [0] (fun x => ∃ m : Int, x = .int .i64 m ∧ Hid (pB m = pB n) ∧ Hid (m < 10000000000000000000)) (fun x => (intOf x).toNat)
  case atStart => exact ⟨n, rfl, Hid.mk rfl, HU⟩
  case round =>
    obtain ⟨m, rfl, HP, HM⟩ := hrel
    by_cases h1 : 1 < m
    · by_cases h10 : m % 10 = 0
      · have h10' : (m % 10 == 0) = true := by simp [h10]
        have HT := Hid.mk h10
        clear h10
        have hq := quo10 m h1 HM.out
        go_wp2
        go_round
        case rel => exact ⟨m / 10, by rw [quo10 m h1 HM.out], Hid.mk ((pB_div m h1 HT.out HM.out).trans HP.out), Hid.mk (by have := HM.out; omega)⟩
        case measure => simp [intOf]; omega
      · have h10' : (m % 10 == 0) = false := by simpa using h10
        have HT := Hid.mk h10
        clear h10
        have hm1 : (m == 1) = false := by simp; omega
        go_wp2
        go_ret
        exact ⟨ret_bool (by rw [← HP.out, pB_odd m h1 HT.out]), rfl⟩
    · have hd : decide (1 < m) = false := by simpa using h1
      go_wp2
      go_ret
      exact ⟨ret_bool (by rw [← HP.out, pB_low m (by omega)]), rfl⟩

theorem pow17 {k : Nat} (h : k < 18) : (10 : Int) ^ k ≤ 100000000000000000 := by
  have := pow_le10 (show k ≤ 17 by omega)
  have e : (10 : Int) ^ 17 = 100000000000000000 := by decide
  omega

set_option maxHeartbeats 400000 in
/-- zzs1849bispow, whole. -/
theorem ispow_any (n : Int) (w : World) :
    Calls Yba.prog 8 #[.int .i64 n] w fun e w' => e = .returned (.bool (pB n)) ∧ w' = w := by
  go_enter Yba.func8, Yba.ntmps8
  go_wp2
  go_loop [3, 4] (fun x i => ∃ (p : Int) (k : Nat), k ≤ 19 ∧ i = .int .i64 k ∧ x = .int .i64 p ∧ Hid (p = 10 ^ (min k 18)) ∧ Hid (∀ j, j < k → j ≤ 18 → n ≠ 10 ^ j)) (fun _ i => 19 - (intOf i).toNat)
  case atStart => exact ⟨1, 0, by omega, rfl, rfl, Hid.mk (by simp), Hid.mk (by intro j hj; omega)⟩
  case round =>
    obtain ⟨p, k, hk, rfl, rfl, HP, HN⟩ := hrel
    by_cases hlt : k < 19
    · by_cases hpn : p = n
      · have hpn' : (p == n) = true := by simp [hpn]
        have HE := Hid.mk hpn
        clear hpn
        go_wp2
        go_ret
        exact ⟨ret_bool (by symm; rw [pB_iff]; exact ⟨min k 18, by omega, by rw [← HE.out, HP.out]⟩), rfl⟩
      · have hpn' : (p == n) = false := by simpa using hpn
        have HE := Hid.mk hpn
        clear hpn
        have HN2 : Hid (∀ j, j < k + 1 → j ≤ 18 → n ≠ 10 ^ j) := Hid.mk (by
          intro j hj hj18
          by_cases e : j = k
          · subst e; have := HP.out; have hm : min j 18 = j := by omega
            rw [hm] at this; rw [← this]; exact fun h => HE.out h.symm
          · exact HN.out j (by omega) hj18)
        by_cases h18 : k < 18
        · have b0 : 1 ≤ p := by rw [HP.out]; exact pow_pos10 _
          have b1 : p ≤ 100000000000000000 := by rw [HP.out]; exact pow17 (by omega)
          go_wp2
          go_round
          case rel => exact ⟨p * 10, k + 1, by omega, by go_num, rfl, Hid.mk (by rw [HP.out, show min (k + 1) 18 = min k 18 + 1 by omega, Int.pow_succ]), HN2⟩
          case measure => simp [intOf]; omega
        · go_wp2
          go_round
          case rel => exact ⟨p, k + 1, by omega, by go_num, rfl, Hid.mk (by rw [HP.out, show min (k + 1) 18 = min k 18 by omega]), HN2⟩
          case measure => simp [intOf]; omega
    · go_wp2
      go_ret
      exact ⟨ret_bool (by symm; rw [Bool.eq_false_iff]; intro hp; obtain ⟨j, hj, e⟩ := (pB_iff n).1 hp; exact HN.out j (by omega) hj e), rfl⟩

set_option maxHeartbeats 400000 in
/-- zzs1849bpow, whole. -/
theorem pow_any (a : Int) (w : World) (h0 : 0 ≤ a) (h1 : a ≤ 18) :
    Calls Yba.prog 9 #[.int .i64 a] w fun e w' => e = .returned (.int .i64 (10 ^ a.toNat)) ∧ w' = w := by
  obtain ⟨m, rfl⟩ : ∃ m : Nat, a = m := ⟨a.toNat, by omega⟩
  have hm : m ≤ 18 := by omega
  clear h0 h1
  go_enter Yba.func9, Yba.ntmps9
  go_wp2
  go_loop [3, 4] (fun x i => ∃ (p : Int) (k : Nat), k ≤ m ∧ i = .int .i64 k ∧ x = .int .i64 p ∧ Hid (p = 10 ^ k)) (fun _ i => m - (intOf i).toNat)
  case atStart => exact ⟨1, 0, by omega, rfl, rfl, Hid.mk (by simp)⟩
  case round =>
    obtain ⟨p, k, hk, rfl, rfl, HP⟩ := hrel
    by_cases hlt : k < m
    · have h18 : k < 18 := by omega
      have b0 : 1 ≤ p := by rw [HP.out]; exact pow_pos10 _
      have b1 : p ≤ 100000000000000000 := by rw [HP.out]; exact pow17 (by omega)
      go_wp2
      go_round
      case rel => exact ⟨p * 10, k + 1, by omega, by go_num, rfl, Hid.mk (by rw [HP.out, Int.pow_succ])⟩
      case measure => simp [intOf]; omega
    · have hd : decide ((k : Int) < (m : Int)) = false := by simp; omega
      go_wp2
      go_ret
      exact ⟨by rw [HP.out, show k = m by omega]; rfl, rfl⟩
end Go.Proofs.Ybulkalgq
