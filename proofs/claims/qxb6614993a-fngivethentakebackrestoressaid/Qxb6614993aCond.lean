/-
  sync.Cond.Broadcast's two body-less callees, in a run of one goroutine on a Cond at which nobody waits: what a call of each does, as a call's law.
-/
import Derived.Test.Qxb6614993aLocks
import Derived.Laws.Externs
import Derived.Laws.LoneSync
import Derived.WalkKit
namespace Go.Proofs.Qxb6614993a

/-- '(*sync.copyChecker).check' at a checker that was never used: it holds its own address from then on. -/
theorem run_check_fresh {a : Addr} {w : World} (hc : w.cell? a = some (.int .u64 0)) (hz : w.frozen? a = false) :
    (callFunc 14 #[.pointer (some a)]).run Try.prog w = .ok (.value (.tuple #[])) (w.setCell a (.pointer (some a))) := by
  rw [run_callFunc_extern Try.func14 (by kernel_rfl) (by kernel_rfl) (by kernel_rfl) (e := Extern.SyncCond.check) (by kernel_rfl)]
  change (Sem.run Try.prog (asAddr (.pointer (some a)) >>= _) w).andThen _ = _
  simp [Extern.SyncCond.isSelf, Extern.SyncCond.none_, asAddr, hc, hz, run_store Try.prog w a (.pointer (some a)) .atomic rfl, Result.andThen]

/-- the same at a checker that holds its own address: nothing is written. -/
theorem run_check_self {a : Addr} {w : World} (hc : w.cell? a = some (.pointer (some a))) :
    (callFunc 14 #[.pointer (some a)]).run Try.prog w = .ok (.value (.tuple #[])) w := by
  rw [run_callFunc_extern Try.func14 (by kernel_rfl) (by kernel_rfl) (by kernel_rfl) (e := Extern.SyncCond.check) (by kernel_rfl)]
  change (Sem.run Try.prog (asAddr (.pointer (some a)) >>= _) w).andThen _ = _
  simp [Extern.SyncCond.isSelf, Extern.SyncCond.none_, asAddr, hc, Result.andThen]

/-- 'sync.runtime_notifyListNotifyAll' where nobody waits (both counters 0): nothing is written. -/
theorem run_notifyAll_none {b o : Nat} {w : World} (h0 : w.cell? ⟨b, o, none⟩ = some (.int .u32 0)) (h1 : w.cell? ⟨b, o + 1, none⟩ = some (.int .u32 0)) :
    (callFunc 15 #[.pointer (some ⟨b, o, none⟩)]).run Try.prog w = .ok (.value (.tuple #[])) w := by
  rw [run_callFunc_extern Try.func15 (by kernel_rfl) (by kernel_rfl) (by kernel_rfl) (e := Extern.SyncCond.notifyAll) (by kernel_rfl)]
  simp [Extern.SyncCond.notifyAll, Extern.SyncCond.list, Extern.SyncCond.counter, Extern.SyncCond.none_, Addr.add, h0, h1, Result.andThen, show (IntKind.u32.wrap 0).toNat = 0 from rfl]
end Go.Proofs.Qxb6614993a
