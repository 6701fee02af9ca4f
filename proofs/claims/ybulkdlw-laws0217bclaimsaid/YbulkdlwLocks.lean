/- The numbers under which this dump holds sync.Mutex's functions and types, and that it holds them: each a closed fact of the loaded program. -/
import Derived.Test.YbulkdlwProg
import Derived.Conc.MuLib
import Derived.Conc.MuData
import Derived.KernelRfl
namespace Go.Proofs.Ybulkdlw
abbrev muLink : Go.Conc.Locks.MuLink := { lock := 9, unlock := 10, ilock := 17, iunlock := 18, lockSlow := 26, unlockSlow := 29, disable := 22, enable := 24, acquire := 25, relMerge := 27, cas32 := 23, add32 := 28, tMutex := 70, tIMutex := 68, tPMutex := 157, tPIMutex := 161, tPI32 := 163, tUP := 36, tNoCopy := 66, tU32 := 24 }
theorem muLib : Go.Conc.Locks.MuLib Yba.prog muLink :=
  ⟨Yba.func9, Yba.func10, Yba.func17, Yba.func18, Yba.func22, Yba.func24, Yba.func25, Yba.func27, Yba.func23, Yba.func28, Yba.underlying68, Yba.runUnderlying68, Yba.sizeOf68, Yba.isAgg68, Yba.zeroValue68, Yba.underlying70, Yba.runUnderlying70, Yba.sizeOf70, Yba.isAgg70, Yba.zeroValue70, Yba.underlying157, Yba.runUnderlying157, Yba.sizeOf157, Yba.isAgg157, Yba.zeroValue157, Yba.underlying161, Yba.runUnderlying161, Yba.sizeOf161, Yba.isAgg161, Yba.zeroValue161, Yba.underlying163, Yba.runUnderlying163, Yba.sizeOf163, Yba.isAgg163, Yba.zeroValue163, Yba.underlying36, Yba.runUnderlying36, Yba.sizeOf36, Yba.isAgg36, Yba.zeroValue36, Yba.underlying66, Yba.runUnderlying66, Yba.sizeOf66, Yba.isAgg66, Yba.zeroValue66, Yba.underlying21, Yba.runUnderlying21, Yba.sizeOf21, Yba.isAgg21, Yba.zeroValue21, (by kernel_rfl)⟩
end Go.Proofs.Ybulkdlw
