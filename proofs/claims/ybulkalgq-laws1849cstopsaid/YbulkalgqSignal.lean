import Derived.Test.YbulkalgqAtomics
import Derived.Test.YbulkalgqLocks
import Derived.Conc.MuLone
namespace Go.Proofs.Ybulkalgq
open Go.ChangeShapes Go.WideShapes Go.ChangeAt Go.RowKit Go.MuLone

theorem run_check (b o : Nat) (w : World) (hc : w.cell? ⟨b, o, none⟩ = some (.int .u64 0)) (hz : w.frozen? ⟨b, o, none⟩ = false) :
    (callFunc 45 #[.pointer (some ⟨b, o, none⟩)]).run Yba.prog w = .ok (.value (.tuple #[])) (w.setCell ⟨b, o, none⟩ (.pointer (some ⟨b, o, none⟩))) := by
  rw [run_callFunc_extern Yba.func45 (by kernel_rfl) (by kernel_rfl) (by kernel_rfl) (e := Extern.SyncCond.check) (by kernel_rfl)]
  change (Sem.run Yba.prog (do
    let c ← asAddr (.pointer (some ⟨b, o, none⟩))
    if ← Extern.SyncCond.isSelf c (← load c) then return Extern.SyncCond.none_
    mark .disable
    let old ← load c .atomic
    if let .int .u64 0 := old then store c (.pointer (some c)) .atomic
    mark .enable
    if let .int .u64 0 := old then return Extern.SyncCond.none_
    if let .pointer (some a) := old then
      if a.block != c.block then unsupported (.noEntry _)
    panicString _) w).andThen _ = _
  have hs := run_store Yba.prog w ⟨b, o, none⟩ (.pointer (some ⟨b, o, none⟩)) .atomic rfl
  simp [hc, hz] at hs
  simp [asAddr, hc, Extern.SyncCond.isSelf, Result.andThen, Extern.SyncCond.none_, hs]
theorem run_notify (b o : Nat) (w : World) (h0 : w.cell? ⟨b, o, none⟩ = some (.int .u32 0)) (h1 : w.cell? ⟨b, o + 1, none⟩ = some (.int .u32 0)) :
    (callFunc 46 #[.pointer (some ⟨b, o, none⟩)]).run Yba.prog w = .ok (.value (.tuple #[])) w := by
  rw [run_callFunc_extern Yba.func46 (by kernel_rfl) (by kernel_rfl) (by kernel_rfl) (e := Extern.SyncCond.notifyOne) (by kernel_rfl)]
  unfold Extern.SyncCond.notifyOne
  simp [Extern.SyncCond.list, Extern.SyncCond.counter, h0, h1, Result.andThen, Extern.SyncCond.none_, Addr.add]

set_option maxHeartbeats 400000 in
theorem signal_any (b o : Nat) (w : World) (h0 : w.cell? ⟨b, o + 1, none⟩ = some (.int .u32 0)) (h1 : w.cell? ⟨b, o + 2, none⟩ = some (.int .u32 0)) (hc : w.cell? ⟨b, o + 6, none⟩ = some (.int .u64 0)) (hz : w.frozen? ⟨b, o + 6, none⟩ = false) :
    Calls Yba.prog 36 #[.pointer (some ⟨b, o, none⟩)] w fun e w' => e = .returned (.tuple #[]) ∧ w' = w.setCell ⟨b, o + 6, none⟩ (.pointer (some ⟨b, o + 6, none⟩)) := by
  have hk := run_check b (o + 6) w hc hz
  have hn := run_notify b (o + 1) (w.setCell ⟨b, o + 6, none⟩ (.pointer (some ⟨b, o + 6, none⟩))) (by rw [World.cell?_setCell_other _ _ _ _ (by simp)]; exact h0) (by rw [World.cell?_setCell_other _ _ _ _ (by simp)]; exact h1)
  go_enter Yba.func36, Yba.ntmps36
  go_wp2
  go_end0
  exact ⟨rfl, rfl⟩
end Go.Proofs.Ybulkalgq
