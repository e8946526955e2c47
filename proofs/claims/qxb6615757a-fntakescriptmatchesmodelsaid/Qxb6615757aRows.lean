/-
  No cell of these rows narrows 'for every input' (looked for: loops, veiled, ifaces, maps, wideKeys, modest, calm, conditions, laid).
  DERIVED. THE GIVEN ROWS OF THIS SEAT. 4 by the template 'for every input the law returns true; each argument reads behind the call as it read before'; 0 by the template 'total and deterministic' (their statements: Qxb6615757aTotals.lean).
  GIVEN WITH THE SEED: the statements are not yours to turn. If you find one false, say at which input.
  Laid BY PROGRAM, IN A SANDBOX (cutbox-rows.mjs): the forced cells as the released guide's own fill.sh prints them over the translation c98ee9dcc766d69d… (all of the seat's roots in one cut). By AI agents, Wed Nov 11 2026. No macro, syntax, notation, axiom, sorry.
-/
import Derived.Test.Qxb6615757aChecked
import GoSem.Claim
import GoSem.ClaimJoined
import GoSem.ClaimMapViews
import Derived.JoinedTies
import Derived.KernelRfl
namespace Go.Proofs.Qxb6615757a
/- THE CELL 'sum', in the pinned program and in every row, IS THE sha256 OF THE DUMP (.gsa) THAT Qxb6615757aProg.lean LOADS. Nothing in Lean hashes anything: it is a label: what it is worth is what the hold of that sum in a sandbox is worth. -/
noncomputable def Try.pinned : Pinned := { name := "qxb6615757a", sum := "c98ee9dcc766d69da8ee06105432bd62fde98d44ad5258551db54baae364cfa9", checked := Try.checked }
namespace Rows
def none {H : Type} : Left H := { results := [], args := [] }

/-- 'zzlaws_internal_node_b1.FnTakeScriptMatchesModel': WHATEVER THE INPUT: true; the input reads as it did. -/
def fnTakeScriptMatchesModelSpec : ChangeSpec := { name := "fnTakeScriptMatchesModel", fn := fun _ => fun
  | [d1, d2, d3] => { results := [.lit (.bool true)], args := [d1, d2, d3] }
  | _ => none }
def fnTakeScriptMatchesModelRow : OpenClaim := { program := "qxb6615757a", sum := "c98ee9dcc766d69da8ee06105432bd62fde98d44ad5258551db54baae364cfa9", func := "example.com/quorumlog/quorumlog/zzlaws_internal_node_b1.FnTakeScriptMatchesModel", spec := "fnTakeScriptMatchesModel", unfollowed := true, recurses := true, apart := false }
def FnTakeScriptMatchesModelSaid : Prop := fnTakeScriptMatchesModelRow.holds Try.pinned (OpenSpec.ofChange fnTakeScriptMatchesModelSpec)

/-- ITS FALSE NEIGHBOUR: 'it returns false'. Refute it at one input. -/
def fnTakeScriptMatchesModelWrong : ChangeSpec := { name := "fnTakeScriptMatchesModel", fn := fun _ => fun
  | [d1, d2, d3] => { results := [.lit (.bool false)], args := [d1, d2, d3] }
  | _ => none }
def FnTakeScriptMatchesModelWrongFalsely : Prop := fnTakeScriptMatchesModelRow.holds Try.pinned (OpenSpec.ofChange fnTakeScriptMatchesModelWrong)

/-- 'zzlaws_internal_node_b1.FnTakeSecondRequestLandsOnlyIfLater': WHATEVER THE INPUT: true; the input reads as it did. -/
def fnTakeSecondRequestLandsOnlyIfLaterSpec : ChangeSpec := { name := "fnTakeSecondRequestLandsOnlyIfLater", fn := fun _ => fun
  | [d1, d2, d3, d4, d5, d6, d7, d8, d9] => { results := [.lit (.bool true)], args := [d1, d2, d3, d4, d5, d6, d7, d8, d9] }
  | _ => none }
def fnTakeSecondRequestLandsOnlyIfLaterRow : OpenClaim := { program := "qxb6615757a", sum := "c98ee9dcc766d69da8ee06105432bd62fde98d44ad5258551db54baae364cfa9", func := "example.com/quorumlog/quorumlog/zzlaws_internal_node_b1.FnTakeSecondRequestLandsOnlyIfLater", spec := "fnTakeSecondRequestLandsOnlyIfLater", unfollowed := true, recurses := true, apart := false }
def FnTakeSecondRequestLandsOnlyIfLaterSaid : Prop := fnTakeSecondRequestLandsOnlyIfLaterRow.holds Try.pinned (OpenSpec.ofChange fnTakeSecondRequestLandsOnlyIfLaterSpec)

/-- ITS FALSE NEIGHBOUR: 'it returns false'. Refute it at one input. -/
def fnTakeSecondRequestLandsOnlyIfLaterWrong : ChangeSpec := { name := "fnTakeSecondRequestLandsOnlyIfLater", fn := fun _ => fun
  | [d1, d2, d3, d4, d5, d6, d7, d8, d9] => { results := [.lit (.bool false)], args := [d1, d2, d3, d4, d5, d6, d7, d8, d9] }
  | _ => none }
def FnTakeSecondRequestLandsOnlyIfLaterWrongFalsely : Prop := fnTakeSecondRequestLandsOnlyIfLaterRow.holds Try.pinned (OpenSpec.ofChange fnTakeSecondRequestLandsOnlyIfLaterWrong)

/-- 'zzlaws_internal_node_b1.FnAddressesFirstOfEachID': WHATEVER THE INPUT: true; the input reads as it did. -/
def fnAddressesFirstOfEachIDSpec : ChangeSpec := { name := "fnAddressesFirstOfEachID", fn := fun _ => fun
  | [d1, d2] => { results := [.lit (.bool true)], args := [d1, d2] }
  | _ => none }
def fnAddressesFirstOfEachIDRow : OpenClaim := { program := "qxb6615757a", sum := "c98ee9dcc766d69da8ee06105432bd62fde98d44ad5258551db54baae364cfa9", func := "example.com/quorumlog/quorumlog/zzlaws_internal_node_b1.FnAddressesFirstOfEachID", spec := "fnAddressesFirstOfEachID", inPlace := ["(*internal/sync.Mutex).Lock", "internal/race.Disable", "sync/atomic.CompareAndSwapInt32", "internal/race.Enable", "internal/race.Acquire", "(*internal/sync.Mutex).lockSlow", "internal/sync.runtime_canSpin", "internal/sync.runtime_doSpin", "internal/sync.throw", "internal/sync.runtime_nanotime", "internal/sync.runtime_SemacquireMutex", "sync/atomic.AddInt32", "(*internal/sync.Mutex).Unlock", "internal/race.ReleaseMerge", "(*internal/sync.Mutex).unlockSlow", "internal/sync.fatal", "internal/sync.runtime_Semrelease"], unfollowed := true, recurses := true, apart := false }
def FnAddressesFirstOfEachIDSaid : Prop := fnAddressesFirstOfEachIDRow.holds Try.pinned (OpenSpec.ofChange fnAddressesFirstOfEachIDSpec)

/-- ITS FALSE NEIGHBOUR: 'it returns false'. Refute it at one input. -/
def fnAddressesFirstOfEachIDWrong : ChangeSpec := { name := "fnAddressesFirstOfEachID", fn := fun _ => fun
  | [d1, d2] => { results := [.lit (.bool false)], args := [d1, d2] }
  | _ => none }
def FnAddressesFirstOfEachIDWrongFalsely : Prop := fnAddressesFirstOfEachIDRow.holds Try.pinned (OpenSpec.ofChange fnAddressesFirstOfEachIDWrong)

/-- 'zzlaws_internal_node_b1.FnAddressesOwnAnswerAndLookups': WHATEVER THE INPUT: true; the input reads as it did. -/
def fnAddressesOwnAnswerAndLookupsSpec : ChangeSpec := { name := "fnAddressesOwnAnswerAndLookups", fn := fun _ => fun
  | [d1, d2, d3] => { results := [.lit (.bool true)], args := [d1, d2, d3] }
  | _ => none }
def fnAddressesOwnAnswerAndLookupsRow : OpenClaim := { program := "qxb6615757a", sum := "c98ee9dcc766d69da8ee06105432bd62fde98d44ad5258551db54baae364cfa9", func := "example.com/quorumlog/quorumlog/zzlaws_internal_node_b1.FnAddressesOwnAnswerAndLookups", spec := "fnAddressesOwnAnswerAndLookups", inPlace := ["(*internal/sync.Mutex).Lock", "internal/race.Disable", "sync/atomic.CompareAndSwapInt32", "internal/race.Enable", "internal/race.Acquire", "(*internal/sync.Mutex).lockSlow", "internal/sync.runtime_canSpin", "internal/sync.runtime_doSpin", "internal/sync.throw", "internal/sync.runtime_nanotime", "internal/sync.runtime_SemacquireMutex", "sync/atomic.AddInt32", "(*internal/sync.Mutex).Unlock", "internal/race.ReleaseMerge", "(*internal/sync.Mutex).unlockSlow", "internal/sync.fatal", "internal/sync.runtime_Semrelease"], unfollowed := true, recurses := true, apart := false }
def FnAddressesOwnAnswerAndLookupsSaid : Prop := fnAddressesOwnAnswerAndLookupsRow.holds Try.pinned (OpenSpec.ofChange fnAddressesOwnAnswerAndLookupsSpec)

/-- ITS FALSE NEIGHBOUR: 'it returns false'. Refute it at one input. -/
def fnAddressesOwnAnswerAndLookupsWrong : ChangeSpec := { name := "fnAddressesOwnAnswerAndLookups", fn := fun _ => fun
  | [d1, d2, d3] => { results := [.lit (.bool false)], args := [d1, d2, d3] }
  | _ => none }
def FnAddressesOwnAnswerAndLookupsWrongFalsely : Prop := fnAddressesOwnAnswerAndLookupsRow.holds Try.pinned (OpenSpec.ofChange fnAddressesOwnAnswerAndLookupsWrong)

end Rows
end Go.Proofs.Qxb6615757a
