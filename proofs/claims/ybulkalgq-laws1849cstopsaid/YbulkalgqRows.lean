/-
  No cell of these rows narrows 'for every input' (looked for: loops, veiled, ifaces, maps, wideKeys, modest, calm, conditions, laid).
  DERIVED. THE GIVEN ROWS OF THIS SEAT. 4 by the template 'for every input the law returns true; each argument reads behind the call as it read before'; 0 by the template 'total and deterministic' (their statements: YbulkalgqTotals.lean).
  GIVEN WITH THE SEED: the statements are not yours to turn. If you find one false, say at which input.
  Laid BY PROGRAM, IN A SANDBOX (cutbox-rows.mjs): the forced cells as the released guide's own fill.sh prints them over the translation 9b38f98b1a5040de… (all of the seat's roots in one cut). By AI agents, Wed Nov 11 2026. No macro, syntax, notation, axiom, sorry.
-/
import Derived.Test.YbulkalgqChecked
import GoSem.Claim
import GoSem.ClaimJoined
import GoSem.ClaimMapViews
import Derived.JoinedTies
import Derived.KernelRfl
namespace Go.Proofs.Ybulkalgq
/- THE CELL 'sum', in the pinned program and in every row, IS THE sha256 OF THE DUMP (.gsa) THAT YbulkalgqProg.lean LOADS. Nothing in Lean hashes anything: it is a label: what it is worth is what the hold of that sum in a sandbox is worth. -/
noncomputable def Yba.pinned : Pinned := { name := "ybulkalgq", sum := "9b38f98b1a5040decc65002c3960ba2899b0bad235daae15a279115ff87f3f98", checked := Yba.checked }
namespace Rows
def none {H : Type} : Left H := { results := [], args := [] }

/-- 'skynet.LawS1849BTable': WHATEVER THE INPUT: true; the input reads as it did. -/
def lawS1849BTableSpec : ChangeSpec := { name := "lawS1849BTable", fn := fun _ => fun
  | [d] => { results := [.lit (.bool true)], args := [d] }
  | _ => none }
def lawS1849BTableRow : OpenClaim := { program := "ybulkalgq", sum := "9b38f98b1a5040decc65002c3960ba2899b0bad235daae15a279115ff87f3f98", func := "example.com/crisp-scheduler/crisp-scheduler/internal/skynet.LawS1849BTable", spec := "lawS1849BTable", apart := false }
def LawS1849BTableSaid : Prop := lawS1849BTableRow.holds Yba.pinned (OpenSpec.ofChange lawS1849BTableSpec)

/-- ITS FALSE NEIGHBOUR: 'it returns false'. Refute it at one input. -/
def lawS1849BTableWrong : ChangeSpec := { name := "lawS1849BTable", fn := fun _ => fun
  | [d] => { results := [.lit (.bool false)], args := [d] }
  | _ => none }
def LawS1849BTableWrongFalsely : Prop := lawS1849BTableRow.holds Yba.pinned (OpenSpec.ofChange lawS1849BTableWrong)

/-- 'skynet.LawS1849BPowers': WHATEVER THE INPUT: true; the input reads as it did. -/
def lawS1849BPowersSpec : ChangeSpec := { name := "lawS1849BPowers", fn := fun _ => fun
  | [d] => { results := [.lit (.bool true)], args := [d] }
  | _ => none }
def lawS1849BPowersRow : OpenClaim := { program := "ybulkalgq", sum := "9b38f98b1a5040decc65002c3960ba2899b0bad235daae15a279115ff87f3f98", func := "example.com/crisp-scheduler/crisp-scheduler/internal/skynet.LawS1849BPowers", spec := "lawS1849BPowers", apart := false }
def LawS1849BPowersSaid : Prop := lawS1849BPowersRow.holds Yba.pinned (OpenSpec.ofChange lawS1849BPowersSpec)

/-- ITS FALSE NEIGHBOUR: 'it returns false'. Refute it at one input. -/
def lawS1849BPowersWrong : ChangeSpec := { name := "lawS1849BPowers", fn := fun _ => fun
  | [d] => { results := [.lit (.bool false)], args := [d] }
  | _ => none }
def LawS1849BPowersWrongFalsely : Prop := lawS1849BPowersRow.holds Yba.pinned (OpenSpec.ofChange lawS1849BPowersWrong)

/-- 'skynet.LawS1849BTimesTen': WHATEVER THE INPUT: true; the input reads as it did. -/
def lawS1849BTimesTenSpec : ChangeSpec := { name := "lawS1849BTimesTen", fn := fun _ => fun
  | [d] => { results := [.lit (.bool true)], args := [d] }
  | _ => none }
def lawS1849BTimesTenRow : OpenClaim := { program := "ybulkalgq", sum := "9b38f98b1a5040decc65002c3960ba2899b0bad235daae15a279115ff87f3f98", func := "example.com/crisp-scheduler/crisp-scheduler/internal/skynet.LawS1849BTimesTen", spec := "lawS1849BTimesTen", apart := false }
def LawS1849BTimesTenSaid : Prop := lawS1849BTimesTenRow.holds Yba.pinned (OpenSpec.ofChange lawS1849BTimesTenSpec)

/-- ITS FALSE NEIGHBOUR: 'it returns false'. Refute it at one input. -/
def lawS1849BTimesTenWrong : ChangeSpec := { name := "lawS1849BTimesTen", fn := fun _ => fun
  | [d] => { results := [.lit (.bool false)], args := [d] }
  | _ => none }
def LawS1849BTimesTenWrongFalsely : Prop := lawS1849BTimesTenRow.holds Yba.pinned (OpenSpec.ofChange lawS1849BTimesTenWrong)

/-- 'crisp-scheduler.LawS1849CStop': WHATEVER THE INPUT: true; the input reads as it did. -/
def lawS1849CStopSpec : ChangeSpec := { name := "lawS1849CStop", fn := fun _ => fun
  | [d1, d2, d3, d4, d5, d6, d7] => { results := [.lit (.bool true)], args := [d1, d2, d3, d4, d5, d6, d7] }
  | _ => none }
def lawS1849CStopRow : OpenClaim := { program := "ybulkalgq", sum := "9b38f98b1a5040decc65002c3960ba2899b0bad235daae15a279115ff87f3f98", func := "example.com/crisp-scheduler/crisp-scheduler.LawS1849CStop", spec := "lawS1849CStop", inPlace := ["sync/atomic.StoreInt32", "sync/atomic.StoreInt64", "sync/atomic.StoreUint64", "sync/atomic.StorePointer", "sync/atomic.AddInt32", "sync/atomic.LoadInt64", "sync/atomic.LoadUint64", "sync/atomic.LoadPointer", "sync/atomic.LoadInt32", "(*internal/sync.Mutex).Lock", "internal/race.Disable", "sync/atomic.CompareAndSwapInt32", "internal/race.Enable", "internal/race.Acquire", "(*internal/sync.Mutex).lockSlow", "internal/sync.runtime_canSpin", "internal/sync.runtime_doSpin", "internal/sync.throw", "internal/sync.runtime_nanotime", "internal/sync.runtime_SemacquireMutex", "(*sync.Cond).Signal", "(*sync.copyChecker).check", "sync.runtime_notifyListNotifyOne", "(*internal/sync.Mutex).Unlock", "internal/race.ReleaseMerge", "(*internal/sync.Mutex).unlockSlow", "internal/sync.fatal", "internal/sync.runtime_Semrelease"], apart := false }
def LawS1849CStopSaid : Prop := lawS1849CStopRow.holds Yba.pinned (OpenSpec.ofChange lawS1849CStopSpec)

/-- ITS FALSE NEIGHBOUR: 'it returns false'. Refute it at one input. -/
def lawS1849CStopWrong : ChangeSpec := { name := "lawS1849CStop", fn := fun _ => fun
  | [d1, d2, d3, d4, d5, d6, d7] => { results := [.lit (.bool false)], args := [d1, d2, d3, d4, d5, d6, d7] }
  | _ => none }
def LawS1849CStopWrongFalsely : Prop := lawS1849CStopRow.holds Yba.pinned (OpenSpec.ofChange lawS1849CStopWrong)

end Rows
end Go.Proofs.Ybulkalgq
