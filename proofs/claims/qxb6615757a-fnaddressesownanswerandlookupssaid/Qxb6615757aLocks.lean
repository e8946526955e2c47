/-
  The numbers under which this seat's dump holds sync.Mutex's functions and types, and that it holds them. Checked by the kernel as it is compiled.
-/
import Derived.Test.Qxb6615757aProg
import Derived.Conc.MuLib
import Derived.KernelRfl
namespace Go.Proofs
abbrev Try.muLink : Go.Conc.Locks.MuLink := { lock := 40, unlock := 41, ilock := 48, iunlock := 49, lockSlow := 58, unlockSlow := 61, disable := 54, enable := 56, acquire := 57, relMerge := 59, cas32 := 55, add32 := 60, tMutex := 86, tIMutex := 84, tPMutex := 134, tPIMutex := 139, tPI32 := 141, tUP := 143, tNoCopy := 81, tU32 := 82 }
theorem Try.muLib : Go.Conc.Locks.MuLib Try.prog Try.muLink :=
  ⟨Try.func40, Try.func41, Try.func48, Try.func49, Try.func54, Try.func56, Try.func57, Try.func59, Try.func55, Try.func60, Try.underlying84, Try.runUnderlying84, Try.sizeOf84, Try.isAgg84, Try.zeroValue84, Try.underlying86, Try.runUnderlying86, Try.sizeOf86, Try.isAgg86, Try.zeroValue86, Try.underlying134, Try.runUnderlying134, Try.sizeOf134, Try.isAgg134, Try.zeroValue134, Try.underlying139, Try.runUnderlying139, Try.sizeOf139, Try.isAgg139, Try.zeroValue139, Try.underlying141, Try.runUnderlying141, Try.sizeOf141, Try.isAgg141, Try.zeroValue141, Try.underlying143, Try.runUnderlying143, Try.sizeOf143, Try.isAgg143, Try.zeroValue143, Try.underlying81, Try.runUnderlying81, Try.sizeOf81, Try.isAgg81, Try.zeroValue81, Try.underlying21, Try.runUnderlying21, Try.sizeOf21, Try.isAgg21, Try.zeroValue21, (by kernel_rfl)⟩
end Go.Proofs
