/-
  THE NUMBERS under which this dump holds sync.Mutex's functions and types, and that it holds them (typed by hand after the guide's worked StatsLocks; the kernel checks every number).
-/
import Derived.Test.Qxb6614354aRows
import Derived.Conc.MuLib
import Derived.Conc.MuLone
import Derived.KernelRfl
namespace Go.Proofs.Qxb6614354a
abbrev muLink : Go.Conc.Locks.MuLink := { lock := 18, unlock := 19, ilock := 20, iunlock := 21, lockSlow := 26, unlockSlow := 29, disable := 22, enable := 24, acquire := 25, relMerge := 27, cas32 := 23, add32 := 28, tMutex := 38, tIMutex := 36, tPMutex := 42, tPIMutex := 43, tPI32 := 45, tUP := 47, tNoCopy := 33, tU32 := 34 }
theorem muLib : Go.Conc.Locks.MuLib Try.prog muLink :=
  ⟨Try.func18, Try.func19, Try.func20, Try.func21, Try.func22, Try.func24, Try.func25, Try.func27, Try.func23, Try.func28,
   Try.underlying36, Try.runUnderlying36, Try.sizeOf36, Try.isAgg36, Try.zeroValue36,
   Try.underlying38, Try.runUnderlying38, Try.sizeOf38, Try.isAgg38, Try.zeroValue38,
   Try.underlying42, Try.runUnderlying42, Try.sizeOf42, Try.isAgg42, Try.zeroValue42,
   Try.underlying43, Try.runUnderlying43, Try.sizeOf43, Try.isAgg43, Try.zeroValue43,
   Try.underlying45, Try.runUnderlying45, Try.sizeOf45, Try.isAgg45, Try.zeroValue45,
   Try.underlying47, Try.runUnderlying47, Try.sizeOf47, Try.isAgg47, Try.zeroValue47,
   Try.underlying33, Try.runUnderlying33, Try.sizeOf33, Try.isAgg33, Try.zeroValue33,
   Try.underlying21, Try.runUnderlying21, Try.sizeOf21, Try.isAgg21, Try.zeroValue21, (by kernel_rfl)⟩
end Go.Proofs.Qxb6614354a
