/- The numbers under which this dump holds the library's mutex, and that it holds them. -/
import Derived.Test.YbulkalgqRows
import Derived.Conc.RwLib
import Derived.Conc.MuData
import Derived.KernelRfl
namespace Go.Proofs
abbrev Yba.muLink : Go.Conc.Locks.MuLink := { lock := 29, unlock := 31, ilock := 35, iunlock := 37, lockSlow := 44, unlockSlow := 48, disable := 40, enable := 42, acquire := 43, relMerge := 47, cas32 := 41, add32 := 26, tMutex := 52, tIMutex := 50, tPMutex := 127, tPIMutex := 130, tPI32 := 106, tUP := 55, tNoCopy := 48, tU32 := 40 }
theorem Yba.muLib : Go.Conc.Locks.MuLib Yba.prog Yba.muLink :=
  ⟨Yba.func29, Yba.func31, Yba.func35, Yba.func37, Yba.func40, Yba.func42, Yba.func43, Yba.func47, Yba.func41, Yba.func26, Yba.underlying50, Yba.runUnderlying50, Yba.sizeOf50, Yba.isAgg50, Yba.zeroValue50, Yba.underlying52, Yba.runUnderlying52, Yba.sizeOf52, Yba.isAgg52, Yba.zeroValue52, Yba.underlying127, Yba.runUnderlying127, Yba.sizeOf127, Yba.isAgg127, Yba.zeroValue127, Yba.underlying130, Yba.runUnderlying130, Yba.sizeOf130, Yba.isAgg130, Yba.zeroValue130, Yba.underlying106, Yba.runUnderlying106, Yba.sizeOf106, Yba.isAgg106, Yba.zeroValue106, Yba.underlying55, Yba.runUnderlying55, Yba.sizeOf55, Yba.isAgg55, Yba.zeroValue55, Yba.underlying48, Yba.runUnderlying48, Yba.sizeOf48, Yba.isAgg48, Yba.zeroValue48, Yba.underlying21, Yba.runUnderlying21, Yba.sizeOf21, Yba.isAgg21, Yba.zeroValue21, (by kernel_rfl)⟩
end Go.Proofs
