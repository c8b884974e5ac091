import Derived.Test.YbulkalfoRows
import Derived.WalkKit
import Derived.ProofKit
import Derived.OpenShut
import Derived.WalkLawsBesides
import Derived.Outline
import Derived.LoopTactic
namespace Go.Proofs.Ybulkalfo
open Go.ChangeShapes Go.WideShapes Go.ChangeAt Go.RowKit

/-- The bit of the k-th day on weekday d. -/
def bitv (d k : Int) : Int := IntKind.u64.wrap (2 ^ (7 * (k - 1) + d % 7).toNat)

theorem ret_int {k : IntKind} {a b : Int} (h : a = b) : Ending.returned (.int k a) = .returned (.int k b) := by rw [h]

set_option maxHeartbeats 400000 in
theorem bit_any (d k : Int) (w : World) (h0 : 0 ≤ d) (h1 : d ≤ 7) (k0 : 1 ≤ k) (k1 : k ≤ 5) :
    Calls Yba.prog 9 #[.int .i64 d, .int .i64 k] w fun e w' => e = .returned (.int .u64 (bitv d k)) ∧ w' = w := by
  have hdd : (d == 7) = true ∧ d % 7 = 0 ∨ (d == 7) = false ∧ d % 7 = d := by
    by_cases h : d = 7
    · left; exact ⟨by simp [h], by omega⟩
    · right; exact ⟨by simp [h], by omega⟩
  rcases hdd with ⟨hd, hm⟩ | ⟨hd, hm⟩
  all_goals
    have HM : Hid (d % 7 = _) := hm
    clear hm
    go_enter Yba.func9, Yba.ntmps9
    go_wp2
    go_loop [6, 7] (fun p i => ∃ m : Int, 1 ≤ m ∧ m ≤ k ∧ i = .int .i64 m ∧ p = .int .i64 (7 * (m - 1) + d % 7)) (fun _ i => (5 - intOf i).toNat)
    case atStart => exact ⟨1, by omega, by omega, rfl, by rw [HM.out]; simp⟩
    case round =>
      obtain ⟨m, hm1, hm2, rfl, rfl⟩ := hrel
      by_cases hlt : m < k
      · go_wp2
        go_round
        case rel => exact ⟨m + 1, by omega, by omega, rfl, by congr 1; omega⟩
        case measure => simp [intOf]; omega
      · have hk : m = k := by omega
        subst hk
        go_wp2
        go_ret
        exact ⟨ret_int (by unfold bitv; rfl), rfl⟩

set_option maxHeartbeats 400000 in
theorem count_last (d k c : Int) (bl : Nat) (w : World) (h0 : 0 ≤ d) (h1 : d ≤ 7) (k0 : 1 ≤ k) (k1 : k ≤ 5)
   (c2 : w.cell? ⟨bl, 2, none⟩ = some (.int .u64 c)) (f2 : w.frozen? ⟨bl, 2, none⟩ = false) :
    Calls Yba.prog 8 #[.pointer (some ⟨bl, 0, none⟩), .int .i64 d, .int .i64 k, .bool true] w fun e w' => e = .returned (.tuple #[]) ∧ w' = w.setCell ⟨bl, 2, none⟩ (.int .u64 (bits .or .u64 c (bitv d k))) := by
  go_enter Yba.func8, Yba.ntmps8
  go_wp2
  go_end0
  exact ⟨rfl, rfl⟩

set_option maxHeartbeats 400000 in
theorem count_first (d k c : Int) (bl : Nat) (w : World) (h0 : 0 ≤ d) (h1 : d ≤ 7) (k0 : 1 ≤ k) (k1 : k ≤ 5)
   (c1 : w.cell? ⟨bl, 1, none⟩ = some (.int .u64 c)) (f1 : w.frozen? ⟨bl, 1, none⟩ = false) :
    Calls Yba.prog 8 #[.pointer (some ⟨bl, 0, none⟩), .int .i64 d, .int .i64 k, .bool false] w fun e w' => e = .returned (.tuple #[]) ∧ w' = w.setCell ⟨bl, 1, none⟩ (.int .u64 (bits .or .u64 c (bitv d k))) := by
  go_enter Yba.func8, Yba.ntmps8
  go_wp2
  go_end0
  exact ⟨rfl, rfl⟩
end Go.Proofs.Ybulkalfo
