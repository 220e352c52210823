/-
  The lock's functions and types at this dump (typed after the worked StatsLocks.lean: the tool that prints it is not laid here); checked by the kernel.
-/
import Derived.Test.YbulkdgzaProg
import Derived.Conc.RwLib
import Derived.Conc.MuLone
import Derived.KernelRfl
namespace Go.Proofs
abbrev Yba.muLink : Go.Conc.Locks.MuLink := { lock := 16, unlock := 17, ilock := 21, iunlock := 22, lockSlow := 33, unlockSlow := 36, disable := 29, enable := 31, acquire := 32, relMerge := 34, cas32 := 30, add32 := 35, tMutex := 45, tIMutex := 43, tPMutex := 77, tPIMutex := 85, tPI32 := 87, tUP := 89, tNoCopy := 40, tU32 := 41 }
theorem Yba.muLib : Go.Conc.Locks.MuLib Yba.prog Yba.muLink :=
  ⟨Yba.func16, Yba.func17, Yba.func21, Yba.func22, Yba.func29, Yba.func31, Yba.func32, Yba.func34, Yba.func30, Yba.func35, Yba.underlying43, Yba.runUnderlying43, Yba.sizeOf43, Yba.isAgg43, Yba.zeroValue43, Yba.underlying45, Yba.runUnderlying45, Yba.sizeOf45, Yba.isAgg45, Yba.zeroValue45, Yba.underlying77, Yba.runUnderlying77, Yba.sizeOf77, Yba.isAgg77, Yba.zeroValue77, Yba.underlying85, Yba.runUnderlying85, Yba.sizeOf85, Yba.isAgg85, Yba.zeroValue85, Yba.underlying87, Yba.runUnderlying87, Yba.sizeOf87, Yba.isAgg87, Yba.zeroValue87, Yba.underlying89, Yba.runUnderlying89, Yba.sizeOf89, Yba.isAgg89, Yba.zeroValue89, Yba.underlying40, Yba.runUnderlying40, Yba.sizeOf40, Yba.isAgg40, Yba.zeroValue40, Yba.underlying21, Yba.runUnderlying21, Yba.sizeOf21, Yba.isAgg21, Yba.zeroValue21, (by kernel_rfl)⟩
end Go.Proofs
