/-
  THE STEPS as they lie in memory; the walk of zzBytes_FnMoveClaimScriptLastTaker.
-/
import Derived.Test.Qxb6615505aLeaf
import Derived.WalkKit
import Derived.WalkSpells
import Derived.WalkLawsBesides
import Derived.Deep.LoopGhost
namespace Go.Proofs.Qxb6615505a
open Go.RowKit
open Pl (CRec Key Tab)

/-- Element i of a slice of ClaimRec whose row begins at ⟨b, off⟩. -/
structure StepAt (w : World) (b off i : Nat) (r : CRec) (mp : Option Addr) : Prop where
  c0 : w.cell? ⟨b, off + i * 5, none⟩ = some (.string r.id)
  c1 : w.cell? ⟨b, off + i * 5 + 1, none⟩ = some (.string r.ten)
  c2 : w.cell? ⟨b, off + i * 5 + 2, none⟩ = some (.pointer mp)
  c3 : w.cell? ⟨b, off + i * 5 + 3, none⟩ = some (.bool r.excl)
  c4 : w.cell? ⟨b, off + i * 5 + 4, none⟩ = some (.string r.st)
  m : MachIs w mp r.mach

/-- some bool came back -/
def IsBool (e : Ending) : Prop := ∃ x : Bool, e = .returned (.bool x)
theorem isBool_mk (x : Bool) : IsBool (.returned (.bool x)) := ⟨x, rfl⟩

set_option maxHeartbeats 400000 in
theorem bytes_empty (a : Option Addr) (cap : Nat) (w : World) :
    Calls Try.prog 5 #[.slice a 0 cap] w fun e w' => IsBool e ∧ w' = w := by
  go_enter Try.func5, Try.ntmps5
  go_wp2
  go_loop [3, 4] (fun z i => i = .int .i64 0) (fun _ _ => 0)
  case atStart => rfl
  case round =>
    obtain rfl := hrel
    go_wp2
    go_ret
    exact ⟨isBool_mk _, rfl⟩
set_option maxRecDepth 100000 in
set_option maxHeartbeats 1000000 in
theorem bytes_any (b off len cap : Nat) (S : Nat → CRec) (MP : Nat → Option Addr) (w : World) (hs : ∀ i, i < len → StepAt w b off i (S i) (MP i)) (hl : len ≤ maxLen) :
    Calls Try.prog 5 #[.slice (some ⟨b, off, none⟩) len cap] w fun e w' => IsBool e ∧ w' = w := by
  have HS : Hid (∀ i, i < len → StepAt w b off i (S i) (MP i)) := hs
  clear hs
  unfold maxLen at hl
  by_cases hbig : (len : Int) > 1048576
  · go_enter Try.func5, Try.ntmps5
    go_wp2
    go_ret
    exact ⟨isBool_mk _, rfl⟩
  go_enter Try.func5, Try.ntmps5
  go_wp2
  go_loop [3, 4] (fun z i => ∃ (k : Nat) (t : Int), k ≤ len ∧ i = .int .i64 k ∧ z = .int .i64 t) (fun _ i => len - (intOf i).toNat)
  case atStart => exact ⟨0, _, Nat.zero_le _, rfl, rfl⟩
  case round =>
    obtain ⟨k, t, hk, rfl, rfl⟩ := hrel
    by_cases hlt : k < len
    · obtain ⟨c0, c1, c2, c3, c4, hm⟩ := HS.out k hlt
      rcases hm with ⟨hmp, hr⟩ | ⟨p, s, hmp, hr, hc⟩
      · rw [hmp] at c2
        clear hmp hr
        go_wp2
        all_goals first
          | (go_ret; exact ⟨isBool_mk _, rfl⟩)
          | exact ⟨⟨k + 1, _, by omega, by go_num, rfl⟩, by simp [intOf]; omega⟩
      · rw [hmp] at c2
        clear hmp hr
        go_wp2
        all_goals first
          | (go_ret; exact ⟨isBool_mk _, rfl⟩)
          | exact ⟨⟨k + 1, _, by omega, by go_num, rfl⟩, by simp [intOf]; omega⟩
    · go_wp2
      go_ret
      exact ⟨isBool_mk _, rfl⟩
end Go.Proofs.Qxb6615505a
