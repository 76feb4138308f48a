/-
  The numbers under which this dump holds the library's mutex, and that it holds it (Derived/Conc/MuLib.lean): after the guide's StatsLocks.lean; checked by the kernel as it is compiled.
-/
import Derived.Test.YbulkjgqProg
import Derived.Conc.MuLone
import Derived.KernelRfl
namespace Go.Proofs
abbrev Yba.muLink : Go.Conc.Locks.MuLink := { lock := 23, unlock := 14, ilock := 31, iunlock := 26, lockSlow := 43, unlockSlow := 40, disable := 34, enable := 35, acquire := 37, relMerge := 38, cas32 := 36, add32 := 39, tMutex := 60, tIMutex := 58, tPMutex := 85, tPIMutex := 94, tPI32 := 96, tUP := 63, tNoCopy := 55, tU32 := 56 }
theorem Yba.muLib : Go.Conc.Locks.MuLib Yba.prog Yba.muLink :=
  ⟨Yba.func23, Yba.func14, Yba.func31, Yba.func26, Yba.func34, Yba.func35, Yba.func37, Yba.func38, Yba.func36, Yba.func39, Yba.underlying58, Yba.runUnderlying58, Yba.sizeOf58, Yba.isAgg58, Yba.zeroValue58, Yba.underlying60, Yba.runUnderlying60, Yba.sizeOf60, Yba.isAgg60, Yba.zeroValue60, Yba.underlying85, Yba.runUnderlying85, Yba.sizeOf85, Yba.isAgg85, Yba.zeroValue85, Yba.underlying94, Yba.runUnderlying94, Yba.sizeOf94, Yba.isAgg94, Yba.zeroValue94, Yba.underlying96, Yba.runUnderlying96, Yba.sizeOf96, Yba.isAgg96, Yba.zeroValue96, Yba.underlying63, Yba.runUnderlying63, Yba.sizeOf63, Yba.isAgg63, Yba.zeroValue63, Yba.underlying55, Yba.runUnderlying55, Yba.sizeOf55, Yba.isAgg55, Yba.zeroValue55, Yba.underlying21, Yba.runUnderlying21, Yba.sizeOf21, Yba.isAgg21, Yba.zeroValue21, (by kernel_rfl)⟩
end Go.Proofs
