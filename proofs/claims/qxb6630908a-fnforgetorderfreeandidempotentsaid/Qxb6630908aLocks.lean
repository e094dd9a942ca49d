/-
  The numbers under which this program's dump holds sync.Mutex's functions and types, and that it holds them (after the guide's RegLocks.lean).
-/
import Derived.Test.Qxb6630908aProg
import Derived.Conc.MuLib
import Derived.KernelRfl
namespace Go.Proofs.Qxb6630908a
abbrev muLink : Go.Conc.Locks.MuLink := { lock := 13, unlock := 14, ilock := 17, iunlock := 18, lockSlow := 23, unlockSlow := 26, disable := 19, enable := 21, acquire := 22, relMerge := 24, cas32 := 20, add32 := 25, tMutex := 38, tIMutex := 36, tPMutex := 45, tPIMutex := 46, tPI32 := 48, tUP := 50, tNoCopy := 33, tU32 := 34 }
theorem muLib : Go.Conc.Locks.MuLib Try.prog muLink :=
  ⟨Try.func13, Try.func14, Try.func17, Try.func18, Try.func19, Try.func21, Try.func22, Try.func24, Try.func20, Try.func25, Try.underlying36, Try.runUnderlying36, Try.sizeOf36, Try.isAgg36, Try.zeroValue36, Try.underlying38, Try.runUnderlying38, Try.sizeOf38, Try.isAgg38, Try.zeroValue38, Try.underlying45, Try.runUnderlying45, Try.sizeOf45, Try.isAgg45, Try.zeroValue45, Try.underlying46, Try.runUnderlying46, Try.sizeOf46, Try.isAgg46, Try.zeroValue46, Try.underlying48, Try.runUnderlying48, Try.sizeOf48, Try.isAgg48, Try.zeroValue48, Try.underlying50, Try.runUnderlying50, Try.sizeOf50, Try.isAgg50, Try.zeroValue50, Try.underlying33, Try.runUnderlying33, Try.sizeOf33, Try.isAgg33, Try.zeroValue33, Try.underlying21, Try.runUnderlying21, Try.sizeOf21, Try.isAgg21, Try.zeroValue21, (by kernel_rfl)⟩
end Go.Proofs.Qxb6630908a
