/- The numbers under which this dump holds sync.Mutex's functions and types, and that it holds them: each a closed fact of the loaded program. -/
import Derived.Test.YbulkdooProg
import Derived.Conc.MuLib
import Derived.Conc.MuData
import Derived.KernelRfl
namespace Go.Proofs.Ybulkdoo
abbrev muLink : Go.Conc.Locks.MuLink := { lock := 16, unlock := 17, ilock := 22, iunlock := 23, lockSlow := 32, unlockSlow := 35, disable := 28, enable := 30, acquire := 31, relMerge := 33, cas32 := 29, add32 := 34, tMutex := 29, tIMutex := 27, tPMutex := 57, tPIMutex := 64, tPI32 := 66, tUP := 68, tNoCopy := 24, tU32 := 25 }
theorem muLib : Go.Conc.Locks.MuLib Yba.prog muLink :=
  ⟨Yba.func16, Yba.func17, Yba.func22, Yba.func23, Yba.func28, Yba.func30, Yba.func31, Yba.func33, Yba.func29, Yba.func34, Yba.underlying27, Yba.runUnderlying27, Yba.sizeOf27, Yba.isAgg27, Yba.zeroValue27, Yba.underlying29, Yba.runUnderlying29, Yba.sizeOf29, Yba.isAgg29, Yba.zeroValue29, Yba.underlying57, Yba.runUnderlying57, Yba.sizeOf57, Yba.isAgg57, Yba.zeroValue57, Yba.underlying64, Yba.runUnderlying64, Yba.sizeOf64, Yba.isAgg64, Yba.zeroValue64, Yba.underlying66, Yba.runUnderlying66, Yba.sizeOf66, Yba.isAgg66, Yba.zeroValue66, Yba.underlying68, Yba.runUnderlying68, Yba.sizeOf68, Yba.isAgg68, Yba.zeroValue68, Yba.underlying24, Yba.runUnderlying24, Yba.sizeOf24, Yba.isAgg24, Yba.zeroValue24, Yba.underlying21, Yba.runUnderlying21, Yba.sizeOf21, Yba.isAgg21, Yba.zeroValue21, (by kernel_rfl)⟩
end Go.Proofs.Ybulkdoo
