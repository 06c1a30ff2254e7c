/-
  The numbers under which this dump holds the library's mutex, and that it holds them (Derived/Conc/MuLib.lean): after the guide's LockinLocks; checked by the kernel.
-/
import Derived.Test.Qxb6616696aRows
import Derived.Conc.MuLone
import Derived.KernelRfl
namespace Go.Proofs.Qxb6616696a
abbrev muLink : Go.Conc.Locks.MuLink := { lock := 32, unlock := 33, ilock := 35, iunlock := 36, lockSlow := 43, unlockSlow := 46, disable := 39, enable := 41, acquire := 42, relMerge := 44, cas32 := 40, add32 := 45, tMutex := 74, tIMutex := 72, tPMutex := 88, tPIMutex := 92, tPI32 := 94, tUP := 96, tNoCopy := 70, tU32 := 31 }
theorem muLib : Go.Conc.Locks.MuLib Try.prog muLink :=
  ⟨Try.func32, Try.func33, Try.func35, Try.func36, Try.func39, Try.func41, Try.func42, Try.func44, Try.func40, Try.func45, Try.underlying72, Try.runUnderlying72, Try.sizeOf72, Try.isAgg72, Try.zeroValue72, Try.underlying74, Try.runUnderlying74, Try.sizeOf74, Try.isAgg74, Try.zeroValue74, Try.underlying88, Try.runUnderlying88, Try.sizeOf88, Try.isAgg88, Try.zeroValue88, Try.underlying92, Try.runUnderlying92, Try.sizeOf92, Try.isAgg92, Try.zeroValue92, Try.underlying94, Try.runUnderlying94, Try.sizeOf94, Try.isAgg94, Try.zeroValue94, Try.underlying96, Try.runUnderlying96, Try.sizeOf96, Try.isAgg96, Try.zeroValue96, Try.underlying70, Try.runUnderlying70, Try.sizeOf70, Try.isAgg70, Try.zeroValue70, Try.underlying21, Try.runUnderlying21, Try.sizeOf21, Try.isAgg21, Try.zeroValue21, (by kernel_rfl)⟩
end Go.Proofs.Qxb6616696a
