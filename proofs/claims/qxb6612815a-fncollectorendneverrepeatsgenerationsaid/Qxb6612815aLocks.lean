import Derived.Test.Qxb6612815aProg
import Derived.Conc.RwLib
import Derived.Conc.MuData
import Derived.KernelRfl
namespace Go.Proofs
/-- The numbers under which this dump holds sync.Mutex's functions and types. -/
abbrev Try.muLink : Go.Conc.Locks.MuLink := { lock := 9, unlock := 11, ilock := 12, iunlock := 13, lockSlow := 18, unlockSlow := 21, disable := 14, enable := 16, acquire := 17, relMerge := 19, cas32 := 15, add32 := 20, tMutex := 57, tIMutex := 55, tPMutex := 60, tPIMutex := 61, tPI32 := 63, tUP := 65, tNoCopy := 52, tU32 := 53 }
theorem Try.muLib : Go.Conc.Locks.MuLib Try.prog Try.muLink :=
  ⟨Try.func9, Try.func11, Try.func12, Try.func13, Try.func14, Try.func16, Try.func17, Try.func19, Try.func15, Try.func20, Try.underlying55, Try.runUnderlying55, Try.sizeOf55, Try.isAgg55, Try.zeroValue55, Try.underlying57, Try.runUnderlying57, Try.sizeOf57, Try.isAgg57, Try.zeroValue57, Try.underlying60, Try.runUnderlying60, Try.sizeOf60, Try.isAgg60, Try.zeroValue60, Try.underlying61, Try.runUnderlying61, Try.sizeOf61, Try.isAgg61, Try.zeroValue61, Try.underlying63, Try.runUnderlying63, Try.sizeOf63, Try.isAgg63, Try.zeroValue63, Try.underlying65, Try.runUnderlying65, Try.sizeOf65, Try.isAgg65, Try.zeroValue65, Try.underlying52, Try.runUnderlying52, Try.sizeOf52, Try.isAgg52, Try.zeroValue52, Try.underlying21, Try.runUnderlying21, Try.sizeOf21, Try.isAgg21, Try.zeroValue21, (by kernel_rfl)⟩
end Go.Proofs
