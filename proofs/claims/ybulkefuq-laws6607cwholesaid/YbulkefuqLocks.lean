/-
  The numbers under which this dump holds sync.Mutex's functions and types, and that it holds them.
-/
import Derived.Test.YbulkefuqRows
import Derived.Conc.MuLone
import Derived.WalkKit
namespace Go.Proofs.Ybulkefuq
open Go.MuLone
abbrev muLink : Go.Conc.Locks.MuLink := { lock := 16, unlock := 10, ilock := 21, iunlock := 19, lockSlow := 29, unlockSlow := 28, disable := 22, enable := 23, acquire := 25, relMerge := 26, cas32 := 24, add32 := 27, tMutex := 64, tIMutex := 62, tPMutex := 84, tPIMutex := 86, tPI32 := 88, tUP := 29, tNoCopy := 59, tU32 := 60 }
theorem muLib : Go.Conc.Locks.MuLib Yba.prog muLink :=
  ⟨Yba.func16, Yba.func10, Yba.func21, Yba.func19, Yba.func22, Yba.func23, Yba.func25, Yba.func26, Yba.func24, Yba.func27, Yba.underlying62, Yba.runUnderlying62, Yba.sizeOf62, Yba.isAgg62, Yba.zeroValue62, Yba.underlying64, Yba.runUnderlying64, Yba.sizeOf64, Yba.isAgg64, Yba.zeroValue64, Yba.underlying84, Yba.runUnderlying84, Yba.sizeOf84, Yba.isAgg84, Yba.zeroValue84, Yba.underlying86, Yba.runUnderlying86, Yba.sizeOf86, Yba.isAgg86, Yba.zeroValue86, Yba.underlying88, Yba.runUnderlying88, Yba.sizeOf88, Yba.isAgg88, Yba.zeroValue88, Yba.underlying29, Yba.runUnderlying29, Yba.sizeOf29, Yba.isAgg29, Yba.zeroValue29, Yba.underlying59, Yba.runUnderlying59, Yba.sizeOf59, Yba.isAgg59, Yba.zeroValue59, Yba.underlying21, Yba.runUnderlying21, Yba.sizeOf21, Yba.isAgg21, Yba.zeroValue21, (by kernel_rfl)⟩
end Go.Proofs.Ybulkefuq
