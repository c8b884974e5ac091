import Derived.Test.YbulkalyyComm
import Derived.WalkLawsBesides
import Derived.Outline
import Derived.LoopTactic
import Derived.Deep.QuietTactic
import Derived.BigQuiet
import Derived.Below
namespace Go.Proofs.Ybulkalyy
open Go.ChangeShapes Go.WideShapes Go.ChangeAt Go.RowKit Go.Conc

theorem Hid.mk' {p : Prop} (h : p) : Hid p := h

theorem cell_setChan (w : World) {b c cap s r : Nat} {buf : Array Value} {cl tm : Bool} (h : b ≠ c) {o : Nat} : (w.setChan c cap buf cl s r tm).cell? ⟨b, o, none⟩ = w.cell? ⟨b, o, none⟩ := by
  unfold World.cell? World.setChan
  simp only []
  rw [Array.getElem?_setIfInBounds_ne (Ne.symm h)]
theorem frozen_setChan (w : World) {b c cap s r : Nat} {buf : Array Value} {cl tm : Bool} (h : b ≠ c) {o : Nat} : (w.setChan c cap buf cl s r tm).frozen? ⟨b, o, none⟩ = w.frozen? ⟨b, o, none⟩ := by
  unfold World.frozen? World.setChan
  simp only []
  rw [Array.getElem?_setIfInBounds_ne (Ne.symm h)]

set_option maxHeartbeats 400000 in
theorem wake_none (cb : Nat) (why : Int) (ao : Option Addr) (cap : Nat) (w : World) (c14 : w.cell? ⟨cb, 14, none⟩ = some (.slice ao 0 cap)) :
    Calls Yba.prog 5 #[.pointer (some ⟨cb, 0, none⟩), .int .i64 why] w fun e w' => e = .returned (.tuple #[]) ∧ w' = w := by
  go_enter Yba.func5, Yba.ntmps5
  go_wp2
  go_end0
  exact ⟨rfl, rfl⟩

set_option maxHeartbeats 400000 in
theorem wake_some (cb ib wb k n cap j c s r : Nat) (why : Int) (w : World) (hk : 0 < k) (hkc : k ≤ cap) (hkk : k ≤ 1000) (_hn : n ≤ 16) (hj : j < n)
    (c14 : w.cell? ⟨cb, 14, none⟩ = some (.slice (some ⟨ib, 0, none⟩) k cap)) (c15 : w.cell? ⟨cb, 15, none⟩ = some (.slice (some ⟨wb, 0, none⟩) n n)) (f14 : w.frozen? ⟨cb, 14, none⟩ = false)
    (ci : w.cell? ⟨ib, k - 1, none⟩ = some (.int .i64 j)) (cw : w.cell? ⟨wb, j, none⟩ = some (.chan (some c))) (hc : w.heap[c]? = some (.chan 1 #[] false s r false)) :
    Calls Yba.prog 5 #[.pointer (some ⟨cb, 0, none⟩), .int .i64 why] w fun e w' => e = .returned (.tuple #[]) ∧
      ∃ n, w' = ((w.drewN n).setChan c 1 #[.int .i64 why] false (s + 1) r false).setCell ⟨cb, 14, none⟩ (.slice (some ⟨ib, 0, none⟩) (k - 1) cap) := by
  have hk' : (0 : Int) < (k : Int) := by omega
  go_enter Yba.func5, Yba.ntmps5
  go_wp2
  refine wp_region_last_lit (by simp) (by kernel_rfl) (by kernel_rfl) (by kernel_rfl) (by kernel_rfl) (by kernel_rfl) (by kernel_rfl) ?_
  dsimp only [List.dropLast]
  repeat (first | go_big_quiet_step (fail) | quiet_step (fail))
  refine wpQuiet_nil ?_
  intro _ hw'
  obtain ⟨nq, hw''⟩ := hw'
  subst hw''
  refine rest_send (i := 15) (c := c) (buf := #[]) (cap := 1) (s := s) (r := r) (tm := false) rfl rfl rfl rfl hc (by decide) ?_
  refine rest_nil ?_
  have ncb : cb ≠ c := fun e => by subst e; simp [World.cell?, hc] at c14
  have k14 : ((w.drewN nq).setChan c 1 #[.int .i64 why] false (s + 1) r false).cell? ⟨cb, 14, none⟩ = some (.slice (some ⟨ib, 0, none⟩) k cap) := by rw [cell_setChan _ ncb]; exact c14
  have kf : ((w.drewN nq).setChan c 1 #[.int .i64 why] false (s + 1) r false).frozen? ⟨cb, 14, none⟩ = false := by rw [frozen_setChan _ ncb]; exact f14
  go_wp2
  go_end0
  exact ⟨rfl, nq, rfl⟩
end Go.Proofs.Ybulkalyy
