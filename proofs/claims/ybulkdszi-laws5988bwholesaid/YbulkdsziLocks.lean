import Derived.Test.YbulkdsziProg
import Derived.Conc.MuLone
import Derived.KernelRfl
namespace Go.Proofs
abbrev Yba.muLink : Go.Conc.Locks.MuLink := { lock := 16, unlock := 17, ilock := 23, iunlock := 24, lockSlow := 31, unlockSlow := 34, disable := 27, enable := 29, acquire := 30, relMerge := 32, cas32 := 28, add32 := 33, tMutex := 48, tIMutex := 46, tPMutex := 75, tPIMutex := 79, tPI32 := 81, tUP := 76, tNoCopy := 43, tU32 := 44 }
theorem Yba.muLib : Go.Conc.Locks.MuLib Yba.prog Yba.muLink :=
  ⟨Yba.func16, Yba.func17, Yba.func23, Yba.func24, Yba.func27, Yba.func29, Yba.func30, Yba.func32, Yba.func28, Yba.func33, Yba.underlying46, Yba.runUnderlying46, Yba.sizeOf46, Yba.isAgg46, Yba.zeroValue46, Yba.underlying48, Yba.runUnderlying48, Yba.sizeOf48, Yba.isAgg48, Yba.zeroValue48, Yba.underlying75, Yba.runUnderlying75, Yba.sizeOf75, Yba.isAgg75, Yba.zeroValue75, Yba.underlying79, Yba.runUnderlying79, Yba.sizeOf79, Yba.isAgg79, Yba.zeroValue79, Yba.underlying81, Yba.runUnderlying81, Yba.sizeOf81, Yba.isAgg81, Yba.zeroValue81, Yba.underlying76, Yba.runUnderlying76, Yba.sizeOf76, Yba.isAgg76, Yba.zeroValue76, Yba.underlying43, Yba.runUnderlying43, Yba.sizeOf43, Yba.isAgg43, Yba.zeroValue43, Yba.underlying21, Yba.runUnderlying21, Yba.sizeOf21, Yba.isAgg21, Yba.zeroValue21, (by kernel_rfl)⟩
end Go.Proofs
