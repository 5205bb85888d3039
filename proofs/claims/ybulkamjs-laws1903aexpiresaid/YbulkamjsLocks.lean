/- The numbers under which this dump holds sync.Mutex's functions and types (after the guide's StatsLocks.lean); the kernel checks them. -/
import Derived.Test.YbulkamjsProg
import Derived.Conc.MuLib
import Derived.KernelRfl
namespace Go.Proofs
abbrev Yba.muLink : Go.Conc.Locks.MuLink := { lock := 32, unlock := 33, ilock := 50, iunlock := 51, lockSlow := 68, unlockSlow := 71, disable := 64, enable := 66, acquire := 67, relMerge := 69, cas32 := 65, add32 := 70, tMutex := 110, tIMutex := 108, tPMutex := 142, tPIMutex := 172, tPI32 := 174, tUP := 176, tNoCopy := 106, tU32 := 102 }
theorem Yba.muLib : Go.Conc.Locks.MuLib Yba.prog Yba.muLink :=
  ⟨Yba.func32, Yba.func33, Yba.func50, Yba.func51, Yba.func64, Yba.func66, Yba.func67, Yba.func69, Yba.func65, Yba.func70, Yba.underlying108, Yba.runUnderlying108, Yba.sizeOf108, Yba.isAgg108, Yba.zeroValue108, Yba.underlying110, Yba.runUnderlying110, Yba.sizeOf110, Yba.isAgg110, Yba.zeroValue110, Yba.underlying142, Yba.runUnderlying142, Yba.sizeOf142, Yba.isAgg142, Yba.zeroValue142, Yba.underlying172, Yba.runUnderlying172, Yba.sizeOf172, Yba.isAgg172, Yba.zeroValue172, Yba.underlying174, Yba.runUnderlying174, Yba.sizeOf174, Yba.isAgg174, Yba.zeroValue174, Yba.underlying176, Yba.runUnderlying176, Yba.sizeOf176, Yba.isAgg176, Yba.zeroValue176, Yba.underlying106, Yba.runUnderlying106, Yba.sizeOf106, Yba.isAgg106, Yba.zeroValue106, Yba.underlying21, Yba.runUnderlying21, Yba.sizeOf21, Yba.isAgg21, Yba.zeroValue21, (by kernel_rfl)⟩
end Go.Proofs
