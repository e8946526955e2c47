/-
  THE WALK of (*records).moveClaim.
-/
import Derived.Test.Qxb6615505aLeaf
import Derived.WalkKit
import Derived.WalkSpells
import Derived.WalkLawsBesides
import Derived.Deep.QuietTactic
import Derived.BigQuiet
import Derived.BigRegion
import Derived.RegionTactic
import Derived.Deep.CutBlock
import Derived.Deep.DeepCutAuto
namespace Go.Proofs.Qxb6615505a
open Go.RowKit
open Pl (CRec Key Tab)

theorem grown_but {w w' : World} (h : w.grownBy w' none) (row : Option Nat) : w.grownBy w' row := ⟨h.os, h.tape, h.output, h.size, fun k a _ => h.block k a (by simp)⟩
theorem MapIs.drewN {w : World} {b n : Nat} {l : Tab} (h : MapIs w b n l) (m : Nat) : MapIs (w.drewN m) b n l := h.kept (grown_drewN ⟨rfl, rfl, rfl, Nat.le_refl _, fun _ _ _ => rfl⟩ m : w.grownBy (w.drewN m) none) (by simp)

/-- WHAT THE WALK OF moveClaim IS TOLD. -/
structure In (S M n : Nat) (l : Tab) (rb : Nat) (x : ByteArray) (w : World) : Prop where
  cS : w.cell? ⟨S, 2, none⟩ = some (.map (some M))
  m : MapIs w M n l
  cR : w.cell? ⟨rb, 0, none⟩ = some (.string x)
theorem In.kept {S M n : Nat} {l : Tab} {rb : Nat} {x : ByteArray} {w w' : World} (h : In S M n l rb x w) (hg : w.grownBy w' none) : In S M n l rb x w' :=
  ⟨hg.cell h.cS (by simp), h.m.kept hg (by simp), hg.cell h.cR (by simp)⟩

/-- the table behind the first half -/
def half (l : Tab) (a b : ByteArray) (had : Bool) (x : ByteArray) : Tab := if had && decide ((Pl.get l (a, b)).getD ByteArray.empty = x) then Pl.del l (a, b) else l
/-- .. and behind the second -/
def whole (l : Tab) (a b : ByteArray) (has : Bool) (x : ByteArray) : Tab := if has then Pl.put l (a, b) x else l

set_option maxHeartbeats 1000000 in
theorem move_core (S M n : Nat) (l : Tab) (pv : Value) (rb : Nat) (x a b a2 b2 : ByteArray) (had has : Bool) (w : World) (h : In S M n l rb x w) (hSM : S ≠ M) (hRM : rb ≠ M)
    (hk : Ok (a, b)) (hk2 : Ok (a2, b2)) (hx : x.size ≤ maxLen) (hn : n < maxLen)
    (h1 : Calls Try.prog 17 #[pv] w fun e w'' => e = .returned (.tuple #[.agg #[.string a, .string b], .bool had]) ∧ w.grownBy w'' none)
    (h2 : ∀ w', w.grownBy w' (some M) → Calls Try.prog 17 #[.pointer (some ⟨rb, 0, none⟩)] w' fun e w'' => e = .returned (.tuple #[.agg #[.string a2, .string b2], .bool has]) ∧ w'.grownBy w'' none) :
    Calls Try.prog 16 #[.pointer (some ⟨S, 0, none⟩), pv, .pointer (some ⟨rb, 0, none⟩)] w
      fun e w' => e = .returned (.tuple #[]) ∧ MapIs w' M (n + 1) (whole (half l a b had x) a2 b2 has x) ∧ w.grownBy w' (some M) := by
  have H : Hid (In S M n l rb x w) := h
  have H1 : Hid (Calls Try.prog 17 #[pv] w fun e w'' => e = .returned (.tuple #[.agg #[.string a, .string b], .bool had]) ∧ w.grownBy w'' none) := h1
  have H2 : Hid (∀ w', w.grownBy w' (some M) → Calls Try.prog 17 #[.pointer (some ⟨rb, 0, none⟩)] w' fun e w'' => e = .returned (.tuple #[.agg #[.string a2, .string b2], .bool has]) ∧ w'.grownBy w'' none) := h2
  have HN : Hid (S ≠ M ∧ rb ≠ M ∧ Ok (a, b) ∧ Ok (a2, b2) ∧ x.size ≤ maxLen ∧ n < maxLen) := ⟨hSM, hRM, hk, hk2, hx, hn⟩
  clear h h1 h2 hSM hRM hk hk2 hx hn
  go_enter Try.func16, Try.ntmps16
  go_wp2_with fail
  refine H1.out.mono ?_
  rintro e w1 ⟨rfl, g1⟩
  have I1 : Hid (In S M n l rb x w1 ∧ w.grownBy w1 none) := ⟨H.out.kept g1, g1⟩
  clear g1 H1
  go_upto_region 1 with fail
  go_cut [28] (fun s wc => s = .bool (had && decide ((Pl.get l (a, b)).getD ByteArray.empty = x)) ∧ ∃ m, wc = (w1.alloc (Obj.cells #[.string a, .string b] 38)).drewN m)
  case first =>
    cases had
    · go_quiet (fail)
      go_wp2_with fail
      go_meet
      case rel => exact ⟨rfl, nq, rfl⟩
    · have cS := I1.out.1.cS
      have cR := I1.out.1.cR
      have bS := World.block_lt_of_cell? w1 _ cS
      have bR := World.block_lt_of_cell? w1 _ cR
      have hl : ∀ m, (Instr.lookup 28 (.map (some M)) (.agg #[.string a, .string b]) false).run Try.prog ((w1.alloc (Obj.cells #[.string a, .string b] 38)).drewN m) = .ok (.string ((Pl.get l (a, b)).getD ByteArray.empty)) ((w1.alloc (Obj.cells #[.string a, .string b] 38)).drewN m) :=
        fun m => MapIs.look ((I1.out.1.m.kept (below_box w1 _) (by simp)).drewN m) (k := (a, b)) HN.out.2.2.1
      go_quiet (fail)
      go_wp2_with fail
      go_meet
      case rel => exact ⟨by rw [str_beq]; simp, nq, rfl⟩
  case rest =>
    obtain ⟨h28, m, hwc⟩ := hcut
    have J : Hid (In S M n l rb x wc ∧ w.grownBy wc none ∧ wc.cell? ⟨w1.heap.size, 0, none⟩ = some (.string a) ∧ wc.cell? ⟨w1.heap.size, 1, none⟩ = some (.string b)) := by
      rw [hwc]
      have g := grown_drewN (below_box w1 (Obj.cells #[.string a, .string b] 38)) m
      exact ⟨I1.out.1.kept g, I1.out.2.trans g, by simp [go_sem], by simp [go_sem]⟩
    clear hwc
    rw [h28]
    clear h28
    go_upto_if 28 with fail
    have HH : Hid (half l a b had x = if (had && decide ((Pl.get l (a, b)).getD ByteArray.empty = x)) then Pl.del l (a, b) else l) := rfl
    go_cut [] (fun wd => MapIs wd M n (half l a b had x) ∧ w.grownBy wd (some M))
    case first =>
      generalize (had && decide ((Pl.get l (a, b)).getD ByteArray.empty = x)) = del at *
      cases del
      · go_wp2_with fail
        go_meet
        case rel => exact ⟨by rw [HH.out]; exact J.out.1.m, grown_but J.out.2.1 _⟩
      · have cS := J.out.1.cS
        have k0 := J.out.2.2.1
        have k1 := J.out.2.2.2
        have hd := MapIs.drop (J.out.1.m.drewN 1) (k := (a, b)) HN.out.2.2.1 0
        obtain ⟨w3, hrun, h3, g3⟩ := hd
        have hrun1 : (Builtin.delete_ #[28, 38] 0 #[.map (some M), .agg #[.string a, .string b]]).run Try.prog wc.drew = .ok (.tuple #[]) w3 := hrun
        have J3 : Hid (MapIs w3 M n (Pl.del l (a, b)) ∧ w.grownBy w3 (some M)) := ⟨h3, (grown_drewN (grown_but J.out.2.1 (some M)) 1).trans g3⟩
        clear h3 g3 hrun
        go_wp2_with fail
        go_region
        go_wp2_with fail
        go_meet
        case rel => exact ⟨by rw [HH.out]; exact J3.out.1, J3.out.2⟩
    case rest =>
      have JD : Hid (MapIs wc M n (half l a b had x) ∧ w.grownBy wc (some M)) := hcut
      clear hcut J
      go_wp2_with fail
      refine (H2.out _ JD.out.2).mono ?_
      rintro e w4 ⟨rfl, g4⟩
      have J4 : Hid (MapIs w4 M n (half l a b had x) ∧ w.grownBy w4 (some M)) := ⟨JD.out.1.kept g4 (by simp), JD.out.2.trans (grown_but g4 _)⟩
      clear g4 JD
      cases has
      · go_wp2
        go_end0
        exact ⟨rfl, (J4.out.1.kept (below_box w4 _) (by simp)).more (Nat.le_succ _), J4.out.2.trans (grown_but (below_box w4 _) _)⟩
      · have cS : w4.cell? ⟨S, 2, none⟩ = some (.map (some M)) := J4.out.2.cell H.out.cS (by simpa using HN.out.1)
        have cR : w4.cell? ⟨rb, 0, none⟩ = some (.string x) := J4.out.2.cell H.out.cR (by simpa using HN.out.2.1)
        have bS := World.block_lt_of_cell? w4 _ cS
        have bR := World.block_lt_of_cell? w4 _ cR
        obtain ⟨w5, hrun, h5, g5⟩ := MapIs.store ((J4.out.1.kept (below_box w4 (Obj.cells #[.string a2, .string b2] 38)) (by simp)).drewN 1) (k := (a2, b2)) HN.out.2.2.2.1 HN.out.2.2.2.2.1 HN.out.2.2.2.2.2
        have hrun1 : (Instr.mapUpdate 28 (.map (some M)) (.agg #[.string a2, .string b2]) (.string x)).run Try.prog (w4.alloc (Obj.cells #[.string a2, .string b2] 38)).drew = .ok () w5 := hrun
        have J5 : Hid (MapIs w5 M (n + 1) (Pl.put (half l a b had x) (a2, b2) x) ∧ w.grownBy w5 (some M)) := ⟨h5, (J4.out.2.trans (grown_drewN (grown_but (below_box w4 (Obj.cells #[.string a2, .string b2] 38)) (some M)) 1)).trans g5⟩
        clear h5 g5 hrun
        go_wp2_with fail
        go_region
        go_wp2
        go_end0
        exact ⟨rfl, J5.out.1, J5.out.2⟩

theorem half_eq (l : Tab) (prev : Option CRec) (x : ByteArray) : ∃ a b had, claimV (prev.bind Pl.claim) = .tuple #[.agg #[.string a, .string b], .bool had] ∧ half l a b had x = Pl.drop1 l prev x ∧
    (had = true → prev.bind Pl.claim = some (a, b)) ∧ (had = false → a = ByteArray.empty ∧ b = ByteArray.empty) := by
  unfold Pl.drop1
  cases h : prev.bind Pl.claim with
  | none => exact ⟨_, _, _, rfl, rfl, by simp, fun _ => ⟨rfl, rfl⟩⟩
  | some k => exact ⟨k.1, k.2, true, rfl, by simp [half], fun _ => rfl, by simp⟩

/-- ONE CALL OF moveClaim. -/
theorem move_any (X : Nat → Prop) (S M n : Nat) (l : Tab) (pv : Value) (prev : Option CRec) (rb : Nat) (r : CRec) (w : World)
    (cS : w.cell? ⟨S, 2, none⟩ = some (.map (some M))) (hm : MapIs w M n l) (hp : PrevAt X w pv prev) (hr : RecAt X w rb r) (hXM : X M) (hSM : S ≠ M)
    (hok : ∀ k, prev.bind Pl.claim = some k → Ok k) (hok2 : ∀ k, Pl.claim r = some k → Ok k) (hx : r.id.size ≤ maxLen) (hn : n < maxLen) :
    Calls Try.prog 16 #[.pointer (some ⟨S, 0, none⟩), pv, .pointer (some ⟨rb, 0, none⟩)] w
      fun e w' => e = .returned (.tuple #[]) ∧ MapIs w' M (n + 1) (Pl.move l prev r) ∧ w.grownBy w' (some M) := by
  obtain ⟨a, b, had, e1, e2, e3, e4⟩ := half_eq l prev r.id
  obtain ⟨a2, b2, has, f1, f2, f3⟩ : ∃ a b has, claimV (Pl.claim r) = .tuple #[.agg #[.string a, .string b], .bool has] ∧ (∀ l', whole l' a b has r.id = match Pl.claim r with | some k => Pl.put l' k r.id | none => l') ∧ Ok (a, b) := by
    cases h : Pl.claim r with
    | none => exact ⟨ByteArray.empty, ByteArray.empty, false, rfl, fun _ => rfl, by simp [Ok]⟩
    | some k => exact ⟨k.1, k.2, true, rfl, fun _ => rfl, hok2 k h⟩
  have hok1 : Ok (a, b) := by
    cases had
    · obtain ⟨rfl, rfl⟩ := e4 rfl
      simp [Ok]
    · exact hok _ (e3 rfl)
  have hRM : rb ≠ M := fun e => hr.off (e ▸ hXM)
  have := move_core S M n l pv rb r.id a b a2 b2 had has w ⟨cS, hm, hr.c0⟩ hSM hRM hok1 f3 hx hn (by rw [← e1]; exact claim_prev X pv prev w hp)
    (fun w' g => by rw [← f1]; exact claim_rec X rb r w' (hr.kept g (fun k e => by cases e; exact hXM)))
  refine this.mono ?_
  rintro e w' ⟨he, h1, h2⟩
  refine ⟨he, ?_, h2⟩
  rw [f2, e2] at h1
  exact h1

set_option maxHeartbeats 400000 in
/-- ZZmoveClaim -/
theorem zzmove_any (X : Nat → Prop) (S M n : Nat) (l : Tab) (pv : Value) (prev : Option CRec) (rb : Nat) (r : CRec) (w : World)
    (cS : w.cell? ⟨S, 2, none⟩ = some (.map (some M))) (hm : MapIs w M n l) (hp : PrevAt X w pv prev) (hr : RecAt X w rb r) (hXM : X M) (hSM : S ≠ M)
    (hok : ∀ k, prev.bind Pl.claim = some k → Ok k) (hok2 : ∀ k, Pl.claim r = some k → Ok k) (hx : r.id.size ≤ maxLen) (hn : n < maxLen) :
    Calls Try.prog 9 #[.pointer (some ⟨S, 0, none⟩), pv, .pointer (some ⟨rb, 0, none⟩)] w
      fun e w' => e = .returned (.tuple #[]) ∧ MapIs w' M (n + 1) (Pl.move l prev r) ∧ w.grownBy w' (some M) := by
  have H : Hid (Calls Try.prog 16 #[.pointer (some ⟨S, 0, none⟩), pv, .pointer (some ⟨rb, 0, none⟩)] w
      fun e w' => e = .returned (.tuple #[]) ∧ MapIs w' M (n + 1) (Pl.move l prev r) ∧ w.grownBy w' (some M)) := move_any X S M n l pv prev rb r w cS hm hp hr hXM hSM hok hok2 hx hn
  clear cS hm hp hr hXM hSM hok hok2 hx hn
  go_enter Try.func9, Try.ntmps9
  go_wp2_with fail
  refine H.out.mono ?_
  rintro e w' ⟨rfl, h1, h2⟩
  go_wp2
  go_end0
  exact ⟨rfl, h1, h2⟩
end Go.Proofs.Qxb6615505a
