/-
  No cell of these rows narrows 'for every input' (looked for: loops, veiled, ifaces, maps, wideKeys, modest, calm, conditions, laid).
  DERIVED. THE GIVEN ROWS OF THIS SEAT. 5 by the template 'for every input the law returns true; each argument reads behind the call as it read before'; 0 by the template 'total and deterministic' (their statements: YbulkalfoTotals.lean).
  GIVEN WITH THE SEED: the statements are not yours to turn. If you find one false, say at which input.
  Laid BY PROGRAM, IN A SANDBOX (cutbox-rows.mjs): the forced cells as the released guide's own fill.sh prints them over the translation 743a34b020835e43… (all of the seat's roots in one cut). By AI agents, Wed Nov 11 2026. No macro, syntax, notation, axiom, sorry.
-/
import Derived.Test.YbulkalfoChecked
import GoSem.Claim
import GoSem.ClaimJoined
import GoSem.ClaimMapViews
import Derived.JoinedTies
import Derived.KernelRfl
namespace Go.Proofs.Ybulkalfo
/- THE CELL 'sum', in the pinned program and in every row, IS THE sha256 OF THE DUMP (.gsa) THAT YbulkalfoProg.lean LOADS. Nothing in Lean hashes anything: it is a label: what it is worth is what the hold of that sum in a sandbox is worth. -/
noncomputable def Yba.pinned : Pinned := { name := "ybulkalfo", sum := "743a34b020835e43d0fceb19f99cefc543bd2e8f6a617fa96fc24e3b3e218582", checked := Yba.checked }
namespace Rows
def none {H : Type} : Left H := { results := [], args := [] }

/-- 'tickfield.LawS1847AExact': WHATEVER THE INPUT: true; the input reads as it did. -/
def lawS1847AExactSpec : ChangeSpec := { name := "lawS1847AExact", fn := fun _ => fun
  | [d1, d2, d3, d4, d5, d6] => { results := [.lit (.bool true)], args := [d1, d2, d3, d4, d5, d6] }
  | _ => none }
def lawS1847AExactRow : OpenClaim := { program := "ybulkalfo", sum := "743a34b020835e43d0fceb19f99cefc543bd2e8f6a617fa96fc24e3b3e218582", func := "example.com/tickfield/tickfield.LawS1847AExact", spec := "lawS1847AExact", apart := false }
def LawS1847AExactSaid : Prop := lawS1847AExactRow.holds Yba.pinned (OpenSpec.ofChange lawS1847AExactSpec)

/-- ITS FALSE NEIGHBOUR: 'it returns false'. Refute it at one input. -/
def lawS1847AExactWrong : ChangeSpec := { name := "lawS1847AExact", fn := fun _ => fun
  | [d1, d2, d3, d4, d5, d6] => { results := [.lit (.bool false)], args := [d1, d2, d3, d4, d5, d6] }
  | _ => none }
def LawS1847AExactWrongFalsely : Prop := lawS1847AExactRow.holds Yba.pinned (OpenSpec.ofChange lawS1847AExactWrong)

/-- 'tickfield.LawS1847ASunday': WHATEVER THE INPUT: true; the input reads as it did. -/
def lawS1847ASundaySpec : ChangeSpec := { name := "lawS1847ASunday", fn := fun _ => fun
  | [d1, d2, d3, d4] => { results := [.lit (.bool true)], args := [d1, d2, d3, d4] }
  | _ => none }
def lawS1847ASundayRow : OpenClaim := { program := "ybulkalfo", sum := "743a34b020835e43d0fceb19f99cefc543bd2e8f6a617fa96fc24e3b3e218582", func := "example.com/tickfield/tickfield.LawS1847ASunday", spec := "lawS1847ASunday", apart := false }
def LawS1847ASundaySaid : Prop := lawS1847ASundayRow.holds Yba.pinned (OpenSpec.ofChange lawS1847ASundaySpec)

/-- ITS FALSE NEIGHBOUR: 'it returns false'. Refute it at one input. -/
def lawS1847ASundayWrong : ChangeSpec := { name := "lawS1847ASunday", fn := fun _ => fun
  | [d1, d2, d3, d4] => { results := [.lit (.bool false)], args := [d1, d2, d3, d4] }
  | _ => none }
def LawS1847ASundayWrongFalsely : Prop := lawS1847ASundayRow.holds Yba.pinned (OpenSpec.ofChange lawS1847ASundayWrong)

/-- 'cron.LawS1847BStartShown': WHATEVER THE INPUT: true; the input reads as it did. -/
def lawS1847BStartShownSpec : ChangeSpec := { name := "lawS1847BStartShown", fn := fun _ => fun
  | [d] => { results := [.lit (.bool true)], args := [d] }
  | _ => none }
def lawS1847BStartShownRow : OpenClaim := { program := "ybulkalfo", sum := "743a34b020835e43d0fceb19f99cefc543bd2e8f6a617fa96fc24e3b3e218582", func := "example.com/tickfield/tickfield/cron.LawS1847BStartShown", spec := "lawS1847BStartShown", inPlace := ["(*internal/sync.Mutex).Lock", "internal/race.Disable", "sync/atomic.CompareAndSwapInt32", "internal/race.Enable", "internal/race.Acquire", "(*internal/sync.Mutex).lockSlow", "internal/sync.runtime_canSpin", "internal/sync.runtime_doSpin", "internal/sync.throw", "internal/sync.runtime_nanotime", "internal/sync.runtime_SemacquireMutex", "sync/atomic.AddInt32", "(*internal/sync.Mutex).Unlock", "internal/race.ReleaseMerge", "(*internal/sync.Mutex).unlockSlow", "internal/sync.fatal", "internal/sync.runtime_Semrelease"], apart := false }
def LawS1847BStartShownSaid : Prop := lawS1847BStartShownRow.holds Yba.pinned (OpenSpec.ofChange lawS1847BStartShownSpec)

/-- ITS FALSE NEIGHBOUR: 'it returns false'. Refute it at one input. -/
def lawS1847BStartShownWrong : ChangeSpec := { name := "lawS1847BStartShown", fn := fun _ => fun
  | [d] => { results := [.lit (.bool false)], args := [d] }
  | _ => none }
def LawS1847BStartShownWrongFalsely : Prop := lawS1847BStartShownRow.holds Yba.pinned (OpenSpec.ofChange lawS1847BStartShownWrong)

/-- 'cron.LawS1847BScript': WHATEVER THE INPUT: true; the input reads as it did. -/
def lawS1847BScriptSpec : ChangeSpec := { name := "lawS1847BScript", fn := fun _ => fun
  | [d1, d2] => { results := [.lit (.bool true)], args := [d1, d2] }
  | _ => none }
def lawS1847BScriptRow : OpenClaim := { program := "ybulkalfo", sum := "743a34b020835e43d0fceb19f99cefc543bd2e8f6a617fa96fc24e3b3e218582", func := "example.com/tickfield/tickfield/cron.LawS1847BScript", spec := "lawS1847BScript", inPlace := ["(*internal/sync.Mutex).Lock", "internal/race.Disable", "sync/atomic.CompareAndSwapInt32", "internal/race.Enable", "internal/race.Acquire", "(*internal/sync.Mutex).lockSlow", "internal/sync.runtime_canSpin", "internal/sync.runtime_doSpin", "internal/sync.throw", "internal/sync.runtime_nanotime", "internal/sync.runtime_SemacquireMutex", "sync/atomic.AddInt32", "(*internal/sync.Mutex).Unlock", "internal/race.ReleaseMerge", "(*internal/sync.Mutex).unlockSlow", "internal/sync.fatal", "internal/sync.runtime_Semrelease"], unfollowed := true, recurses := true, apart := false }
def LawS1847BScriptSaid : Prop := lawS1847BScriptRow.holds Yba.pinned (OpenSpec.ofChange lawS1847BScriptSpec)

/-- ITS FALSE NEIGHBOUR: 'it returns false'. Refute it at one input. -/
def lawS1847BScriptWrong : ChangeSpec := { name := "lawS1847BScript", fn := fun _ => fun
  | [d1, d2] => { results := [.lit (.bool false)], args := [d1, d2] }
  | _ => none }
def LawS1847BScriptWrongFalsely : Prop := lawS1847BScriptRow.holds Yba.pinned (OpenSpec.ofChange lawS1847BScriptWrong)

/-- 'cron.LawS1847BAlarmsSeeNow': WHATEVER THE INPUT: true; the input reads as it did. -/
def lawS1847BAlarmsSeeNowSpec : ChangeSpec := { name := "lawS1847BAlarmsSeeNow", fn := fun _ => fun
  | [d1, d2, d3] => { results := [.lit (.bool true)], args := [d1, d2, d3] }
  | _ => none }
def lawS1847BAlarmsSeeNowRow : OpenClaim := { program := "ybulkalfo", sum := "743a34b020835e43d0fceb19f99cefc543bd2e8f6a617fa96fc24e3b3e218582", func := "example.com/tickfield/tickfield/cron.LawS1847BAlarmsSeeNow", spec := "lawS1847BAlarmsSeeNow", inPlace := ["(*internal/sync.Mutex).Lock", "internal/race.Disable", "sync/atomic.CompareAndSwapInt32", "internal/race.Enable", "internal/race.Acquire", "(*internal/sync.Mutex).lockSlow", "internal/sync.runtime_canSpin", "internal/sync.runtime_doSpin", "internal/sync.throw", "internal/sync.runtime_nanotime", "internal/sync.runtime_SemacquireMutex", "sync/atomic.AddInt32", "(*internal/sync.Mutex).Unlock", "internal/race.ReleaseMerge", "(*internal/sync.Mutex).unlockSlow", "internal/sync.fatal", "internal/sync.runtime_Semrelease"], unfollowed := true, recurses := true, apart := false }
def LawS1847BAlarmsSeeNowSaid : Prop := lawS1847BAlarmsSeeNowRow.holds Yba.pinned (OpenSpec.ofChange lawS1847BAlarmsSeeNowSpec)

/-- ITS FALSE NEIGHBOUR: 'it returns false'. Refute it at one input. -/
def lawS1847BAlarmsSeeNowWrong : ChangeSpec := { name := "lawS1847BAlarmsSeeNow", fn := fun _ => fun
  | [d1, d2, d3] => { results := [.lit (.bool false)], args := [d1, d2, d3] }
  | _ => none }
def LawS1847BAlarmsSeeNowWrongFalsely : Prop := lawS1847BAlarmsSeeNowRow.holds Yba.pinned (OpenSpec.ofChange lawS1847BAlarmsSeeNowWrong)

end Rows
end Go.Proofs.Ybulkalfo
