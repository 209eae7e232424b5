import Derived.Test.YbulkaamRows
import Derived.Conc.MuLone
import Derived.WalkKit
import Derived.KernelRfl
namespace Go.Proofs.Ybulkaam
abbrev Yba.muLink : Go.Conc.Locks.MuLink := { lock := 21, unlock := 17, ilock := 26, iunlock := 24, lockSlow := 35, unlockSlow := 34, disable := 28, enable := 29, acquire := 31, relMerge := 32, cas32 := 30, add32 := 33, tMutex := 80, tIMutex := 78, tPMutex := 94, tPIMutex := 96, tPI32 := 98, tUP := 100, tNoCopy := 75, tU32 := 76 }
theorem Yba.muLib : Go.Conc.Locks.MuLib Yba.prog Yba.muLink :=
  ⟨Yba.func21, Yba.func17, Yba.func26, Yba.func24, Yba.func28, Yba.func29, Yba.func31, Yba.func32, Yba.func30, Yba.func33, Yba.underlying78, Yba.runUnderlying78, Yba.sizeOf78, Yba.isAgg78, Yba.zeroValue78, Yba.underlying80, Yba.runUnderlying80, Yba.sizeOf80, Yba.isAgg80, Yba.zeroValue80, Yba.underlying94, Yba.runUnderlying94, Yba.sizeOf94, Yba.isAgg94, Yba.zeroValue94, Yba.underlying96, Yba.runUnderlying96, Yba.sizeOf96, Yba.isAgg96, Yba.zeroValue96, Yba.underlying98, Yba.runUnderlying98, Yba.sizeOf98, Yba.isAgg98, Yba.zeroValue98, Yba.underlying100, Yba.runUnderlying100, Yba.sizeOf100, Yba.isAgg100, Yba.zeroValue100, Yba.underlying75, Yba.runUnderlying75, Yba.sizeOf75, Yba.isAgg75, Yba.zeroValue75, Yba.underlying21, Yba.runUnderlying21, Yba.sizeOf21, Yba.isAgg21, Yba.zeroValue21, (by kernel_rfl)⟩
end Go.Proofs.Ybulkaam
