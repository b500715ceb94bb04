/-
  The numbers under which this dump holds sync.Mutex's functions and types, and that it holds them.
-/
import Derived.Test.YbulkefvsProg
import Derived.Conc.MuLone
import Derived.WalkKit
namespace Go.Proofs.Ybulkefvs
open Go.MuLone
abbrev muLink : Go.Conc.Locks.MuLink := { lock := 26, unlock := 27, ilock := 33, iunlock := 34, lockSlow := 40, unlockSlow := 43, disable := 36, enable := 38, acquire := 39, relMerge := 41, cas32 := 37, add32 := 42, tMutex := 40, tIMutex := 38, tPMutex := 115, tPIMutex := 117, tPI32 := 119, tUP := 112, tNoCopy := 35, tU32 := 36 }
theorem muLib : Go.Conc.Locks.MuLib Yba.prog muLink :=
  ⟨Yba.func26, Yba.func27, Yba.func33, Yba.func34, Yba.func36, Yba.func38, Yba.func39, Yba.func41, Yba.func37, Yba.func42, Yba.underlying38, Yba.runUnderlying38, Yba.sizeOf38, Yba.isAgg38, Yba.zeroValue38, Yba.underlying40, Yba.runUnderlying40, Yba.sizeOf40, Yba.isAgg40, Yba.zeroValue40, Yba.underlying115, Yba.runUnderlying115, Yba.sizeOf115, Yba.isAgg115, Yba.zeroValue115, Yba.underlying117, Yba.runUnderlying117, Yba.sizeOf117, Yba.isAgg117, Yba.zeroValue117, Yba.underlying119, Yba.runUnderlying119, Yba.sizeOf119, Yba.isAgg119, Yba.zeroValue119, Yba.underlying112, Yba.runUnderlying112, Yba.sizeOf112, Yba.isAgg112, Yba.zeroValue112, Yba.underlying35, Yba.runUnderlying35, Yba.sizeOf35, Yba.isAgg35, Yba.zeroValue35, Yba.underlying21, Yba.runUnderlying21, Yba.sizeOf21, Yba.isAgg21, Yba.zeroValue21, (by kernel_rfl)⟩
end Go.Proofs.Ybulkefvs
