import Derived.Test.YbulkalgqSignal
import Derived.Deep.QuietTactic
import Derived.BigQuiet
import Derived.LoopTactic
namespace Go.Proofs.Ybulkalgq
open Go.ChangeShapes Go.WideShapes Go.ChangeAt Go.RowKit Go.MuLone

theorem Hid.mk' {p : Prop} (h : p) : Hid p := h
theorem rets {a b c d : Int} (h : a = b) (k : c = d) : Ending.returned (.tuple #[.int .u32 a, .int .u32 c]) = .returned (.tuple #[.int .u32 b, .int .u32 d]) := by rw [h, k]
theorem retb {a b : Bool} (h : a = b) : Ending.returned (.bool a) = .returned (.bool b) := by rw [h]
theorem reti {k : IntKind} {a b : Int} (h : a = b) : Ending.returned (.int k a) = .returned (.int k b) := by rw [h]

set_option maxHeartbeats 400000 in
theorem split_any (top bot : Int) (w : World) (t0 : 0 ≤ top) (t1 : top < 4294967296) (b0 : 0 ≤ bot) (b1 : bot < 4294967296) :
    Calls Yba.prog 32 #[.int .u64 (top * 4294967296 + bot)] w fun e w' => e = .returned (.tuple #[.int .u32 top, .int .u32 bot]) ∧ w' = w := by
  go_enter Yba.func32, Yba.ntmps32
  go_wp2
  go_ret2
  exact ⟨rets (by omega) (by omega), rfl⟩

/-- What size hands back. -/
def szOf (top bot : Int) : Int := IntKind.u32.wrap (bot - top)
theorem szOf_pos (top bot : Int) (t0 : 0 ≤ top) (t1 : top < 4294967296) (b0 : 0 ≤ bot) (b1 : bot < 4294967296) : decide (0 < szOf top bot) = (top != bot) := by
  unfold szOf
  rw [show IntKind.u32.wrap (bot - top) = (bot - top) % 4294967296 by simp [IntKind.wrap, IntKind.bits, IntKind.signed]]
  by_cases h : top = bot
  · simp [h]
  · have : 0 < (bot - top) % 4294967296 := by omega
    simp [this, h]

set_option maxHeartbeats 400000 in
theorem size_any (b o : Nat) (top bot : Int) (w : World) (t0 : 0 ≤ top) (t1 : top < 4294967296) (b0 : 0 ≤ bot) (b1 : bot < 4294967296) (hc : w.cell? ⟨b, o, none⟩ = some (.int .u64 (top * 4294967296 + bot))) :
    Calls Yba.prog 27 #[.pointer (some ⟨b, o, none⟩)] w fun e w' => e = .returned (.int .i64 (szOf top bot)) ∧ w' = w := by
  go_enter Yba.func27, Yba.ntmps27
  go_wp2_with fail
  refine (loadU64 b o _ _ hc).mono ?_
  rintro e w' ⟨rfl, rfl⟩
  go_wp2_with fail
  refine (split_any top bot _ t0 t1 b0 b1).mono ?_
  rintro e w' ⟨rfl, rfl⟩
  go_wp2
  go_ret
  exact ⟨reti (by unfold szOf; simp [IntKind.wrap, IntKind.bits, IntKind.signed]), rfl⟩

set_option maxHeartbeats 400000 in
theorem overdue_none (b : Nat) (w : World) (c2 : w.cell? ⟨b, 2, none⟩ = some (.pointer none)) :
    Calls Yba.prog 28 #[.pointer (some ⟨b, 0, none⟩)] w fun e w' => e = .returned (.bool false) ∧ ∃ n, w' = w.drewN n := by
  have hne : ∀ w, Sem.run Yba.prog (Op.equalIn 9999 73 (.pointer none) (.pointer none)) w = .ok true w := fun _ => by kernel_rfl
  go_enter Yba.func28, Yba.ntmps28
  go_wp2_with fail
  go_quiet ((go_at_call 34; exact Calls.quiet_of_same (loadP_none _ _ _ (by simpa using c2))))
  go_wp2
  go_ret
  exact ⟨rfl, _, rfl⟩

set_option maxHeartbeats 400000 in
theorem overdue_some (b p : Nat) (fill over : Int) (w : World) (c2 : w.cell? ⟨b, 2, none⟩ = some (.pointer (some ⟨p, 0, none⟩))) (hp : w.shape? p = some (100, 8)) (c3 : w.cell? ⟨b, 3, none⟩ = some (.int .u64 fill)) (c5 : w.cell? ⟨b, 5, none⟩ = some (.int .u64 over)) :
    Calls Yba.prog 28 #[.pointer (some ⟨b, 0, none⟩)] w fun e w' => e = .returned (.bool (over == fill)) ∧ ∃ n, w' = w.drewN n := by
  have hne : ∀ w, Sem.run Yba.prog (Op.equalIn 9999 73 (.pointer (some ⟨p, 0, none⟩)) (.pointer none)) w = .ok false w := fun _ => by kernel_rfl
  go_enter Yba.func28, Yba.ntmps28
  go_wp2_with fail
  go_quiet ((first | (go_at_call 34; exact Calls.quiet_of_same (loadP_some _ _ p _ (by simpa using c2) (by exact hp))) | (go_at_call 33; exact Calls.quiet_of_same (loadU64 _ _ fill _ (by simpa using c3))) | (go_at_call 33; exact Calls.quiet_of_same (loadU64 _ _ over _ (by simpa using c5)))))
  go_wp2
  go_ret
  exact ⟨rfl, _, rfl⟩
end Go.Proofs.Ybulkalgq
