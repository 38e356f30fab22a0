/-
  The numbers under which this dump holds sync.Mutex's functions and types, and that it holds them (after the kit's RegLocks text, turned to this program). The kernel checks each.
-/
import Derived.Test.YbulkahauProg
import Derived.Conc.MuLone
import Derived.KernelRfl
namespace Go.Proofs
abbrev Yba.muLink : Go.Conc.Locks.MuLink := { lock := 10, unlock := 11, ilock := 13, iunlock := 14, lockSlow := 21, unlockSlow := 24, disable := 17, enable := 19, acquire := 20, relMerge := 22, cas32 := 18, add32 := 23, tMutex := 45, tIMutex := 43, tPMutex := 51, tPIMutex := 57, tPI32 := 59, tUP := 61, tNoCopy := 40, tU32 := 41 }
theorem Yba.muLib : Go.Conc.Locks.MuLib Yba.prog Yba.muLink :=
  ⟨Yba.func10, Yba.func11, Yba.func13, Yba.func14, Yba.func17, Yba.func19, Yba.func20, Yba.func22, Yba.func18, Yba.func23, Yba.underlying43, Yba.runUnderlying43, Yba.sizeOf43, Yba.isAgg43, Yba.zeroValue43, Yba.underlying45, Yba.runUnderlying45, Yba.sizeOf45, Yba.isAgg45, Yba.zeroValue45, Yba.underlying51, Yba.runUnderlying51, Yba.sizeOf51, Yba.isAgg51, Yba.zeroValue51, Yba.underlying57, Yba.runUnderlying57, Yba.sizeOf57, Yba.isAgg57, Yba.zeroValue57, Yba.underlying59, Yba.runUnderlying59, Yba.sizeOf59, Yba.isAgg59, Yba.zeroValue59, Yba.underlying61, Yba.runUnderlying61, Yba.sizeOf61, Yba.isAgg61, Yba.zeroValue61, Yba.underlying40, Yba.runUnderlying40, Yba.sizeOf40, Yba.isAgg40, Yba.zeroValue40, Yba.underlying21, Yba.runUnderlying21, Yba.sizeOf21, Yba.isAgg21, Yba.zeroValue21, (by kernel_rfl)⟩
end Go.Proofs
