/-
  No cell of these rows narrows 'for every input' (looked for: loops, veiled, ifaces, maps, wideKeys, modest, calm, conditions, laid).
  DERIVED. THE GIVEN ROWS OF THIS SEAT. 2 by the template 'for every input the law returns true; each argument reads behind the call as it read before'; 0 by the template 'total and deterministic' (their statements: Qxb6614993aTotals.lean).
  GIVEN WITH THE SEED: the statements are not yours to turn. If you find one false, say at which input.
  Laid BY PROGRAM, IN A SANDBOX (cutbox-rows.mjs): the forced cells as the released guide's own fill.sh prints them over the translation 7bfb1b36711cbd57… (all of the seat's roots in one cut). By AI agents, Wed Nov 11 2026. No macro, syntax, notation, axiom, sorry.
-/
import Derived.Test.Qxb6614993aChecked
import GoSem.Claim
import GoSem.ClaimJoined
import GoSem.ClaimMapViews
import Derived.JoinedTies
import Derived.KernelRfl
namespace Go.Proofs.Qxb6614993a
/- THE CELL 'sum', in the pinned program and in every row, IS THE sha256 OF THE DUMP (.gsa) THAT Qxb6614993aProg.lean LOADS. Nothing in Lean hashes anything: it is a label: what it is worth is what the hold of that sum in a sandbox is worth. -/
noncomputable def Try.pinned : Pinned := { name := "qxb6614993a", sum := "7bfb1b36711cbd573daad82ecd5c10958053174fed09e17abaf35dab3c37557f", checked := Try.checked }
namespace Rows
def none {H : Type} : Left H := { results := [], args := [] }

/-- 'zzlaws_pkg_git_b1.FnGiveSumsInAnyOrder': WHATEVER THE INPUT: true; the input reads as it did. -/
def fnGiveSumsInAnyOrderSpec : ChangeSpec := { name := "fnGiveSumsInAnyOrder", fn := fun _ => fun
  | [d1, d2, d3] => { results := [.lit (.bool true)], args := [d1, d2, d3] }
  | _ => none }
def fnGiveSumsInAnyOrderRow : OpenClaim := { program := "qxb6614993a", sum := "7bfb1b36711cbd573daad82ecd5c10958053174fed09e17abaf35dab3c37557f", func := "example.com/rootstock/rootstock/zzlaws_pkg_git_b1.FnGiveSumsInAnyOrder", spec := "fnGiveSumsInAnyOrder", inPlace := ["(*internal/sync.Mutex).Lock", "internal/race.Disable", "sync/atomic.CompareAndSwapInt32", "internal/race.Enable", "internal/race.Acquire", "(*internal/sync.Mutex).lockSlow", "internal/sync.runtime_canSpin", "internal/sync.runtime_doSpin", "internal/sync.throw", "internal/sync.runtime_nanotime", "internal/sync.runtime_SemacquireMutex", "sync/atomic.AddInt32", "(*internal/sync.Mutex).Unlock", "internal/race.ReleaseMerge", "(*internal/sync.Mutex).unlockSlow", "internal/sync.fatal", "internal/sync.runtime_Semrelease", "(*sync.Cond).Broadcast", "(*sync.copyChecker).check", "sync.runtime_notifyListNotifyAll"], apart := false }
def FnGiveSumsInAnyOrderSaid : Prop := fnGiveSumsInAnyOrderRow.holds Try.pinned (OpenSpec.ofChange fnGiveSumsInAnyOrderSpec)

/-- ITS FALSE NEIGHBOUR: 'it returns false'. Refute it at one input. -/
def fnGiveSumsInAnyOrderWrong : ChangeSpec := { name := "fnGiveSumsInAnyOrder", fn := fun _ => fun
  | [d1, d2, d3] => { results := [.lit (.bool false)], args := [d1, d2, d3] }
  | _ => none }
def FnGiveSumsInAnyOrderWrongFalsely : Prop := fnGiveSumsInAnyOrderRow.holds Try.pinned (OpenSpec.ofChange fnGiveSumsInAnyOrderWrong)

/-- 'zzlaws_pkg_git_b1.FnGiveThenTakeBackRestores': WHATEVER THE INPUT: true; the input reads as it did. -/
def fnGiveThenTakeBackRestoresSpec : ChangeSpec := { name := "fnGiveThenTakeBackRestores", fn := fun _ => fun
  | [d1, d2] => { results := [.lit (.bool true)], args := [d1, d2] }
  | _ => none }
def fnGiveThenTakeBackRestoresRow : OpenClaim := { program := "qxb6614993a", sum := "7bfb1b36711cbd573daad82ecd5c10958053174fed09e17abaf35dab3c37557f", func := "example.com/rootstock/rootstock/zzlaws_pkg_git_b1.FnGiveThenTakeBackRestores", spec := "fnGiveThenTakeBackRestores", inPlace := ["(*internal/sync.Mutex).Lock", "internal/race.Disable", "sync/atomic.CompareAndSwapInt32", "internal/race.Enable", "internal/race.Acquire", "(*internal/sync.Mutex).lockSlow", "internal/sync.runtime_canSpin", "internal/sync.runtime_doSpin", "internal/sync.throw", "internal/sync.runtime_nanotime", "internal/sync.runtime_SemacquireMutex", "sync/atomic.AddInt32", "(*internal/sync.Mutex).Unlock", "internal/race.ReleaseMerge", "(*internal/sync.Mutex).unlockSlow", "internal/sync.fatal", "internal/sync.runtime_Semrelease", "(*sync.Cond).Broadcast", "(*sync.copyChecker).check", "sync.runtime_notifyListNotifyAll"], apart := false }
def FnGiveThenTakeBackRestoresSaid : Prop := fnGiveThenTakeBackRestoresRow.holds Try.pinned (OpenSpec.ofChange fnGiveThenTakeBackRestoresSpec)

/-- ITS FALSE NEIGHBOUR: 'it returns false'. Refute it at one input. -/
def fnGiveThenTakeBackRestoresWrong : ChangeSpec := { name := "fnGiveThenTakeBackRestores", fn := fun _ => fun
  | [d1, d2] => { results := [.lit (.bool false)], args := [d1, d2] }
  | _ => none }
def FnGiveThenTakeBackRestoresWrongFalsely : Prop := fnGiveThenTakeBackRestoresRow.holds Try.pinned (OpenSpec.ofChange fnGiveThenTakeBackRestoresWrong)

end Rows
end Go.Proofs.Qxb6614993a
