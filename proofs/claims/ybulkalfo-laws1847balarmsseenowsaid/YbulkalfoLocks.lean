/- The numbers under which this dump holds the library's mutex, and that it holds them. -/
import Derived.Test.YbulkalfoRows
import Derived.Conc.RwLib
import Derived.Conc.MuData
import Derived.KernelRfl
namespace Go.Proofs
abbrev Yba.muLink : Go.Conc.Locks.MuLink := { lock := 22, unlock := 23, ilock := 28, iunlock := 29, lockSlow := 36, unlockSlow := 39, disable := 32, enable := 34, acquire := 35, relMerge := 37, cas32 := 33, add32 := 38, tMutex := 62, tIMutex := 60, tPMutex := 73, tPIMutex := 75, tPI32 := 77, tUP := 79, tNoCopy := 57, tU32 := 58 }
theorem Yba.muLib : Go.Conc.Locks.MuLib Yba.prog Yba.muLink :=
  ⟨Yba.func22, Yba.func23, Yba.func28, Yba.func29, Yba.func32, Yba.func34, Yba.func35, Yba.func37, Yba.func33, Yba.func38, Yba.underlying60, Yba.runUnderlying60, Yba.sizeOf60, Yba.isAgg60, Yba.zeroValue60, Yba.underlying62, Yba.runUnderlying62, Yba.sizeOf62, Yba.isAgg62, Yba.zeroValue62, Yba.underlying73, Yba.runUnderlying73, Yba.sizeOf73, Yba.isAgg73, Yba.zeroValue73, Yba.underlying75, Yba.runUnderlying75, Yba.sizeOf75, Yba.isAgg75, Yba.zeroValue75, Yba.underlying77, Yba.runUnderlying77, Yba.sizeOf77, Yba.isAgg77, Yba.zeroValue77, Yba.underlying79, Yba.runUnderlying79, Yba.sizeOf79, Yba.isAgg79, Yba.zeroValue79, Yba.underlying57, Yba.runUnderlying57, Yba.sizeOf57, Yba.isAgg57, Yba.zeroValue57, Yba.underlying21, Yba.runUnderlying21, Yba.sizeOf21, Yba.isAgg21, Yba.zeroValue21, (by kernel_rfl)⟩
end Go.Proofs
