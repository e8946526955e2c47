/-
  No cell of these rows narrows 'for every input' (looked for: loops, veiled, ifaces, maps, wideKeys, modest, calm, conditions, laid).
  DERIVED. THE GIVEN ROWS OF THIS SEAT. 2 by the template 'for every input the law returns true; each argument reads behind the call as it read before'; 0 by the template 'total and deterministic' (their statements: Qxb6615505aTotals.lean).
  GIVEN WITH THE SEED: the statements are not yours to turn. If you find one false, say at which input.
  Laid BY PROGRAM, IN A SANDBOX (cutbox-rows.mjs): the forced cells as the released guide's own fill.sh prints them over the translation 5a7d8977041cabfe… (all of the seat's roots in one cut). By AI agents, Wed Nov 11 2026. No macro, syntax, notation, axiom, sorry.
-/
import Derived.Test.Qxb6615505aChecked
import GoSem.Claim
import GoSem.ClaimJoined
import GoSem.ClaimMapViews
import Derived.JoinedTies
import Derived.KernelRfl
namespace Go.Proofs.Qxb6615505a
/- THE CELL 'sum', in the pinned program and in every row, IS THE sha256 OF THE DUMP (.gsa) THAT Qxb6615505aProg.lean LOADS. Nothing in Lean hashes anything: it is a label: what it is worth is what the hold of that sum in a sandbox is worth. -/
noncomputable def Try.pinned : Pinned := { name := "qxb6615505a", sum := "5a7d8977041cabfe7a6b92a74dc25635261451acb920b4cc2e1cccb40a5da1ec", checked := Try.checked }
namespace Rows
def none {H : Type} : Left H := { results := [], args := [] }

/-- 'zzlaws_store_b1.FnMoveClaimScriptLastTaker': WHATEVER THE INPUT: true; the input reads as it did. -/
def fnMoveClaimScriptLastTakerSpec : ChangeSpec := { name := "fnMoveClaimScriptLastTaker", fn := fun _ => fun
  | [d] => { results := [.lit (.bool true)], args := [d] }
  | _ => none }
def fnMoveClaimScriptLastTakerRow : OpenClaim := { program := "qxb6615505a", sum := "5a7d8977041cabfe7a6b92a74dc25635261451acb920b4cc2e1cccb40a5da1ec", func := "example.com/moorline/moorline/zzlaws_store_b1.FnMoveClaimScriptLastTaker", spec := "fnMoveClaimScriptLastTaker", plainKeys := false, apart := false }
def FnMoveClaimScriptLastTakerSaid : Prop := fnMoveClaimScriptLastTakerRow.holds Try.pinned (OpenSpec.ofChange fnMoveClaimScriptLastTakerSpec)

/-- ITS FALSE NEIGHBOUR: 'it returns false'. Refute it at one input. -/
def fnMoveClaimScriptLastTakerWrong : ChangeSpec := { name := "fnMoveClaimScriptLastTaker", fn := fun _ => fun
  | [d] => { results := [.lit (.bool false)], args := [d] }
  | _ => none }
def FnMoveClaimScriptLastTakerWrongFalsely : Prop := fnMoveClaimScriptLastTakerRow.holds Try.pinned (OpenSpec.ofChange fnMoveClaimScriptLastTakerWrong)

/-- 'zzlaws_store_b1.FnMoveClaimOnceTwiceFrame': WHATEVER THE INPUT: true; the input reads as it did. -/
def fnMoveClaimOnceTwiceFrameSpec : ChangeSpec := { name := "fnMoveClaimOnceTwiceFrame", fn := fun _ => fun
  | [d1, d2, d3] => { results := [.lit (.bool true)], args := [d1, d2, d3] }
  | _ => none }
def fnMoveClaimOnceTwiceFrameRow : OpenClaim := { program := "qxb6615505a", sum := "5a7d8977041cabfe7a6b92a74dc25635261451acb920b4cc2e1cccb40a5da1ec", func := "example.com/moorline/moorline/zzlaws_store_b1.FnMoveClaimOnceTwiceFrame", spec := "fnMoveClaimOnceTwiceFrame", plainKeys := false, apart := false }
def FnMoveClaimOnceTwiceFrameSaid : Prop := fnMoveClaimOnceTwiceFrameRow.holds Try.pinned (OpenSpec.ofChange fnMoveClaimOnceTwiceFrameSpec)

/-- ITS FALSE NEIGHBOUR: 'it returns false'. Refute it at one input. -/
def fnMoveClaimOnceTwiceFrameWrong : ChangeSpec := { name := "fnMoveClaimOnceTwiceFrame", fn := fun _ => fun
  | [d1, d2, d3] => { results := [.lit (.bool false)], args := [d1, d2, d3] }
  | _ => none }
def FnMoveClaimOnceTwiceFrameWrongFalsely : Prop := fnMoveClaimOnceTwiceFrameRow.holds Try.pinned (OpenSpec.ofChange fnMoveClaimOnceTwiceFrameWrong)

end Rows
end Go.Proofs.Qxb6615505a
