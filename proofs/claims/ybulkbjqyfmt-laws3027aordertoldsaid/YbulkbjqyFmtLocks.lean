import Derived.Test.YbulkbjqyFmtRows
import Derived.Conc.MuLone
import Derived.KernelRfl
namespace Go.Proofs.YbulkbjqyFmt
/-- The numbers under which this dump holds sync.Mutex's functions and types. -/
abbrev muLink : Go.Conc.Locks.MuLink := { lock := 9, unlock := 10, ilock := 11, iunlock := 12, lockSlow := 17, unlockSlow := 20, disable := 13, enable := 15, acquire := 16, relMerge := 18, cas32 := 14, add32 := 19, tMutex := 38, tIMutex := 36, tPMutex := 61, tPIMutex := 62, tPI32 := 64, tUP := 66, tNoCopy := 33, tU32 := 34 }
theorem muLib : Go.Conc.Locks.MuLib Ybaf.prog muLink :=
  ⟨Ybaf.func9, Ybaf.func10, Ybaf.func11, Ybaf.func12, Ybaf.func13, Ybaf.func15, Ybaf.func16, Ybaf.func18, Ybaf.func14, Ybaf.func19, Ybaf.underlying36, Ybaf.runUnderlying36, Ybaf.sizeOf36, Ybaf.isAgg36, Ybaf.zeroValue36, Ybaf.underlying38, Ybaf.runUnderlying38, Ybaf.sizeOf38, Ybaf.isAgg38, Ybaf.zeroValue38, Ybaf.underlying61, Ybaf.runUnderlying61, Ybaf.sizeOf61, Ybaf.isAgg61, Ybaf.zeroValue61, Ybaf.underlying62, Ybaf.runUnderlying62, Ybaf.sizeOf62, Ybaf.isAgg62, Ybaf.zeroValue62, Ybaf.underlying64, Ybaf.runUnderlying64, Ybaf.sizeOf64, Ybaf.isAgg64, Ybaf.zeroValue64, Ybaf.underlying66, Ybaf.runUnderlying66, Ybaf.sizeOf66, Ybaf.isAgg66, Ybaf.zeroValue66, Ybaf.underlying33, Ybaf.runUnderlying33, Ybaf.sizeOf33, Ybaf.isAgg33, Ybaf.zeroValue33, Ybaf.underlying21, Ybaf.runUnderlying21, Ybaf.sizeOf21, Ybaf.isAgg21, Ybaf.zeroValue21, (by kernel_rfl)⟩
end Go.Proofs.YbulkbjqyFmt
