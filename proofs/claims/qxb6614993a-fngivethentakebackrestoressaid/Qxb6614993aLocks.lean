/-
  The numbers under which this seat's dump holds sync.Mutex's functions and types, and that it holds them. Checked by the kernel as it is compiled.
-/
import Derived.Test.Qxb6614993aProg
import Derived.Conc.MuLib
import Derived.KernelRfl
namespace Go.Proofs
abbrev Try.muLink : Go.Conc.Locks.MuLink := { lock := 9, unlock := 10, ilock := 12, iunlock := 13, lockSlow := 20, unlockSlow := 23, disable := 16, enable := 18, acquire := 19, relMerge := 21, cas32 := 17, add32 := 22, tMutex := 34, tIMutex := 32, tPMutex := 45, tPIMutex := 50, tPI32 := 52, tUP := 37, tNoCopy := 29, tU32 := 30 }
theorem Try.muLib : Go.Conc.Locks.MuLib Try.prog Try.muLink :=
  ⟨Try.func9, Try.func10, Try.func12, Try.func13, Try.func16, Try.func18, Try.func19, Try.func21, Try.func17, Try.func22, Try.underlying32, Try.runUnderlying32, Try.sizeOf32, Try.isAgg32, Try.zeroValue32, Try.underlying34, Try.runUnderlying34, Try.sizeOf34, Try.isAgg34, Try.zeroValue34, Try.underlying45, Try.runUnderlying45, Try.sizeOf45, Try.isAgg45, Try.zeroValue45, Try.underlying50, Try.runUnderlying50, Try.sizeOf50, Try.isAgg50, Try.zeroValue50, Try.underlying52, Try.runUnderlying52, Try.sizeOf52, Try.isAgg52, Try.zeroValue52, Try.underlying37, Try.runUnderlying37, Try.sizeOf37, Try.isAgg37, Try.zeroValue37, Try.underlying29, Try.runUnderlying29, Try.sizeOf29, Try.isAgg29, Try.zeroValue29, Try.underlying21, Try.runUnderlying21, Try.sizeOf21, Try.isAgg21, Try.zeroValue21, (by kernel_rfl)⟩
end Go.Proofs
