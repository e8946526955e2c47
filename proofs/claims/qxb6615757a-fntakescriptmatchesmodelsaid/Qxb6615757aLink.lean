/-
  THE WALKS of (*Requests).push and (*Requests).unlink, said of cells.
-/
import Derived.Test.Qxb6615757aMap
import Derived.WalkKit
import Derived.WalkSpells
import Derived.WalkLawsBesides
import Derived.Deep.QuietTactic
import Derived.BigQuiet
import Derived.BigRegion
import Derived.RegionTactic
namespace Go.Proofs.Qxb6615757a
open Go.RowKit

set_option maxHeartbeats 800000 in
/-- push into an empty list -/
theorem push_nil (sb b : Nat) (v1 v5 : Value) (w : World) (c1 : w.cell? ⟨sb, 1, none⟩ = some v1) (c2 : w.cell? ⟨sb, 2, none⟩ = some (.pointer none)) (c5 : w.cell? ⟨b, 5, none⟩ = some v5)
    (fs : ∀ o, w.frozen? ⟨sb, o, none⟩ = false) (fb : ∀ o, w.frozen? ⟨b, o, none⟩ = false) :
    Calls Try.prog 51 #[.pointer (some ⟨sb, 0, none⟩), .pointer (some ⟨b, 0, none⟩)] w fun e w' => e = .returned (.tuple #[]) ∧
      w' = ((w.setCell ⟨b, 5, none⟩ (.pointer none)).setCell ⟨sb, 1, none⟩ (.pointer (some ⟨b, 0, none⟩))).setCell ⟨sb, 2, none⟩ (.pointer (some ⟨b, 0, none⟩)) := by
  go_enter Try.func51, Try.ntmps51
  go_wp2
  go_end0
  exact ⟨rfl, rfl⟩

set_option maxHeartbeats 800000 in
/-- push behind the last one -/
theorem push_last (sb b l : Nat) (v5 v6 : Value) (w : World) (c2 : w.cell? ⟨sb, 2, none⟩ = some (.pointer (some ⟨l, 0, none⟩))) (c5 : w.cell? ⟨b, 5, none⟩ = some v5) (c6 : w.cell? ⟨l, 6, none⟩ = some v6)
    (fs : ∀ o, w.frozen? ⟨sb, o, none⟩ = false) (fb : ∀ o, w.frozen? ⟨b, o, none⟩ = false) (fl : ∀ o, w.frozen? ⟨l, o, none⟩ = false) :
    Calls Try.prog 51 #[.pointer (some ⟨sb, 0, none⟩), .pointer (some ⟨b, 0, none⟩)] w fun e w' => e = .returned (.tuple #[]) ∧
      w' = ((w.setCell ⟨b, 5, none⟩ (.pointer (some ⟨l, 0, none⟩))).setCell ⟨l, 6, none⟩ (.pointer (some ⟨b, 0, none⟩))).setCell ⟨sb, 2, none⟩ (.pointer (some ⟨b, 0, none⟩)) := by
  go_enter Try.func51, Try.ntmps51
  go_wp2
  go_end0
  exact ⟨rfl, rfl⟩

set_option maxHeartbeats 800000 in
/-- unlink the only one -/
theorem unlink_only (sb b : Nat) (v1 v2 : Value) (w : World) (c1 : w.cell? ⟨sb, 1, none⟩ = some v1) (c2 : w.cell? ⟨sb, 2, none⟩ = some v2)
    (c5 : w.cell? ⟨b, 5, none⟩ = some (.pointer none)) (c6 : w.cell? ⟨b, 6, none⟩ = some (.pointer none))
    (fs : ∀ o, w.frozen? ⟨sb, o, none⟩ = false) (fb : ∀ o, w.frozen? ⟨b, o, none⟩ = false) :
    Calls Try.prog 50 #[.pointer (some ⟨sb, 0, none⟩), .pointer (some ⟨b, 0, none⟩)] w fun e w' => e = .returned (.tuple #[]) ∧
      w' = (((w.setCell ⟨sb, 1, none⟩ (.pointer none)).setCell ⟨sb, 2, none⟩ (.pointer none)).setCell ⟨b, 5, none⟩ (.pointer none)).setCell ⟨b, 6, none⟩ (.pointer none) := by
  go_enter Try.func50, Try.ntmps50
  go_wp2
  go_end0
  exact ⟨rfl, rfl⟩

set_option maxHeartbeats 800000 in
/-- unlink the first of several -/
theorem unlink_first (sb b n : Nat) (v1 v5 : Value) (w : World) (hnb : n ≠ b) (c1 : w.cell? ⟨sb, 1, none⟩ = some v1)
    (c5 : w.cell? ⟨b, 5, none⟩ = some (.pointer none)) (c6 : w.cell? ⟨b, 6, none⟩ = some (.pointer (some ⟨n, 0, none⟩))) (n5 : w.cell? ⟨n, 5, none⟩ = some v5)
    (fs : ∀ o, w.frozen? ⟨sb, o, none⟩ = false) (fb : ∀ o, w.frozen? ⟨b, o, none⟩ = false) (fn : ∀ o, w.frozen? ⟨n, o, none⟩ = false) :
    Calls Try.prog 50 #[.pointer (some ⟨sb, 0, none⟩), .pointer (some ⟨b, 0, none⟩)] w fun e w' => e = .returned (.tuple #[]) ∧ ∃ m,
      w' = ((((w.setCell ⟨sb, 1, none⟩ (.pointer (some ⟨n, 0, none⟩))).setCell ⟨n, 5, none⟩ (.pointer none)).setCell ⟨b, 5, none⟩ (.pointer none)).setCell ⟨b, 6, none⟩ (.pointer none)).drewN m := by
  go_enter Try.func50, Try.ntmps50
  go_wp2
  go_region
  go_wp2
  go_end0
  exact ⟨rfl, 1, rfl⟩

set_option maxHeartbeats 800000 in
/-- unlink the last of several -/
theorem unlink_last (sb b p : Nat) (v2 v6 : Value) (w : World) (hpb : p ≠ b) (c2 : w.cell? ⟨sb, 2, none⟩ = some v2)
    (c5 : w.cell? ⟨b, 5, none⟩ = some (.pointer (some ⟨p, 0, none⟩))) (c6 : w.cell? ⟨b, 6, none⟩ = some (.pointer none)) (p6 : w.cell? ⟨p, 6, none⟩ = some v6)
    (fs : ∀ o, w.frozen? ⟨sb, o, none⟩ = false) (fb : ∀ o, w.frozen? ⟨b, o, none⟩ = false) (fp : ∀ o, w.frozen? ⟨p, o, none⟩ = false) :
    Calls Try.prog 50 #[.pointer (some ⟨sb, 0, none⟩), .pointer (some ⟨b, 0, none⟩)] w fun e w' => e = .returned (.tuple #[]) ∧ ∃ m,
      w' = ((((w.setCell ⟨p, 6, none⟩ (.pointer none)).setCell ⟨sb, 2, none⟩ (.pointer (some ⟨p, 0, none⟩))).setCell ⟨b, 5, none⟩ (.pointer none)).setCell ⟨b, 6, none⟩ (.pointer none)).drewN m := by
  have h6 : (w.setCell ⟨p, 6, none⟩ (.pointer none)).cell? ⟨b, 6, none⟩ = some (.pointer none) := (World.cell?_setCell_other w ⟨p, 6, none⟩ ⟨b, 6, none⟩ _ (fun e => hpb (by injection e))).trans c6
  go_enter Try.func50, Try.ntmps50
  go_wp2
  go_region
  go_wp2
  go_end0
  exact ⟨rfl, 1, rfl⟩

set_option maxHeartbeats 800000 in
/-- unlink one in the middle -/
theorem unlink_mid (sb b p n : Nat) (v5 v6 : Value) (w : World) (hpb : p ≠ b) (hnb : n ≠ b)
    (c5 : w.cell? ⟨b, 5, none⟩ = some (.pointer (some ⟨p, 0, none⟩))) (c6 : w.cell? ⟨b, 6, none⟩ = some (.pointer (some ⟨n, 0, none⟩))) (p6 : w.cell? ⟨p, 6, none⟩ = some v6) (n5 : w.cell? ⟨n, 5, none⟩ = some v5)
    (fb : ∀ o, w.frozen? ⟨b, o, none⟩ = false) (fp : ∀ o, w.frozen? ⟨p, o, none⟩ = false) (fn : ∀ o, w.frozen? ⟨n, o, none⟩ = false) :
    Calls Try.prog 50 #[.pointer (some ⟨sb, 0, none⟩), .pointer (some ⟨b, 0, none⟩)] w fun e w' => e = .returned (.tuple #[]) ∧ ∃ m,
      w' = ((((w.setCell ⟨p, 6, none⟩ (.pointer (some ⟨n, 0, none⟩))).setCell ⟨n, 5, none⟩ (.pointer (some ⟨p, 0, none⟩))).setCell ⟨b, 5, none⟩ (.pointer none)).setCell ⟨b, 6, none⟩ (.pointer none)).drewN m := by
  have h6 : (w.setCell ⟨p, 6, none⟩ (.pointer (some ⟨n, 0, none⟩))).cell? ⟨b, 6, none⟩ = some (.pointer (some ⟨n, 0, none⟩)) := (World.cell?_setCell_other w ⟨p, 6, none⟩ ⟨b, 6, none⟩ _ (fun e => hpb (by injection e))).trans c6
  go_enter Try.func50, Try.ntmps50
  go_wp2
  go_region
  go_wp2
  go_region
  go_wp2
  go_end0
  exact ⟨rfl, 2, rfl⟩
end Go.Proofs.Qxb6615757a
