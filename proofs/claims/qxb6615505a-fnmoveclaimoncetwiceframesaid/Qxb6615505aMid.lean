/-
  The world in the middle of FnMoveClaimScriptLastTaker: the map, the records' struct, the row of the records made so far.
-/
import Derived.Test.Qxb6615505aMove
import Derived.Test.Qxb6615505aBytes
import Derived.Deep.OwnRows
namespace Go.Proofs.Qxb6615505a
open Go.RowKit
open Pl (CRec Key Tab)

theorem StepAt.kept {w w' : World} {b off i : Nat} {r : CRec} {mp : Option Addr} (h : StepAt w b off i r mp) (g : w.grownBy w' none) : StepAt w' b off i r mp :=
  ⟨g.cell h.c0 (by simp), g.cell h.c1 (by simp), g.cell h.c2 (by simp), g.cell h.c3 (by simp), g.cell h.c4 (by simp), h.m.kept g (by simp)⟩
theorem grown_refl (w : World) (row : Option Nat) : w.grownBy w row := ⟨rfl, rfl, rfl, Nat.le_refl _, fun _ _ _ => rfl⟩
theorem below_of_grown {w w' : World} (h : w.grownBy w' none) : Below w.heap.size w w' := ⟨h.os, h.tape, h.output, h.size, fun k hk => h.block k hk (by simp)⟩
theorem grown_past {w0 w w' : World} {R : Nat} (h : w0.grownBy w none) (g : w.grownBy w' (some R)) (hR : w0.heap.size ≤ R) : w0.grownBy w' none :=
  ⟨g.os.trans h.os, g.tape.trans h.tape, g.output.trans h.output, Nat.le_trans h.size g.size, fun k hk _ => (g.block k (Nat.lt_of_lt_of_le hk h.size) (fun e => by cases e; omega)).trans (h.block k hk (by simp))⟩
theorem grown_set (w : World) (a : Addr) (v : Value) : w.grownBy (w.setCell a v) (some a.block) :=
  ⟨rfl, rfl, rfl, by simp, fun k _ hne => Below.heap_setCell w a v k (fun e => hne (by rw [e]))⟩
theorem rowIs_kept {w w' : World} {R : Nat} {t : TypeId} {n : Nat} {f : Nat → Value} {row : Option Nat} (h : w.rowIs R t n f) (g : w.grownBy w' row) (hne : some R ≠ row) : w'.rowIs R t n f := by
  obtain ⟨c, h1, h2⟩ := h
  exact ⟨c, (g.block R (Array.getElem?_eq_some_iff.1 h1).1 hne).trans h1, h2⟩

/-- the two blocks that the script writes -/
def Xs (M R : Nat) (k : Nat) : Prop := k = M ∨ k = R

structure Mid (w0 : World) (M Sx R len : Nat) (S : Nat → CRec) (k : Nat) (l : Tab) (n : Nat) (w : World) : Prop where
  g : w0.grownBy w none
  cS : w.cell? ⟨Sx, 2, none⟩ = some (.map (some M))
  m : MapIs w M n l
  row : ∃ F, w.rowIs R 32 len F ∧ ∀ j, j < k → ∃ rb, F j = .pointer (some ⟨rb, 0, none⟩) ∧ RecAt (Xs M R) w rb (S j)
  hM : w0.heap.size ≤ M
  hR : w0.heap.size ≤ R
  hMR : M ≠ R
  hSM : Sx ≠ M
  hSR : Sx ≠ R

theorem Mid.lt {w0 : World} {M Sx R len : Nat} {S : Nat → CRec} {k : Nat} {l : Tab} {n : Nat} {w : World} (h : Mid w0 M Sx R len S k l n w) : ∀ x, w.heap.size ≤ x → ¬ Xs M R x := by
  intro x hx e
  have h1 := h.m.lt
  obtain ⟨F, ⟨c, h2, _⟩, _⟩ := h.row
  have h2 := (Array.getElem?_eq_some_iff.1 h2).1
  rcases e with rfl | rfl <;> omega
theorem Mid.grow {w0 : World} {M Sx R len : Nat} {S : Nat → CRec} {k : Nat} {l : Tab} {n : Nat} {w w' : World} (h : Mid w0 M Sx R len S k l n w) (g : w.grownBy w' none) : Mid w0 M Sx R len S k l n w' := by
  obtain ⟨F, hF, hr⟩ := h.row
  exact ⟨h.g.trans g, g.cell h.cS (by simp), h.m.kept g (by simp), ⟨F, rowIs_kept hF g (by simp), fun j hj => let ⟨rb, e, r⟩ := hr j hj; ⟨rb, e, r.kept g (by simp)⟩⟩, h.hM, h.hR, h.hMR, h.hSM, h.hSR⟩
theorem Mid.moved {w0 : World} {M Sx R len : Nat} {S : Nat → CRec} {k : Nat} {l l' : Tab} {n n' : Nat} {w w' : World} (h : Mid w0 M Sx R len S k l n w) (g : w.grownBy w' (some M)) (hm : MapIs w' M n' l') : Mid w0 M Sx R len S k l' n' w' := by
  obtain ⟨F, hF, hr⟩ := h.row
  exact ⟨grown_past h.g g h.hM, g.cell h.cS (by simpa using h.hSM), hm, ⟨F, rowIs_kept hF g (by simpa using fun e => h.hMR e.symm), fun j hj => let ⟨rb, e, r⟩ := hr j hj; ⟨rb, e, r.kept g (fun x e => by cases e; exact Or.inl rfl)⟩⟩, h.hM, h.hR, h.hMR, h.hSM, h.hSR⟩
theorem Mid.push {w0 : World} {M Sx R len : Nat} {S : Nat → CRec} {k : Nat} {l : Tab} {n : Nat} {w : World} {rb : Nat} (h : Mid w0 M Sx R len S k l n w) (hr : RecAt (Xs M R) w rb (S k)) :
    Mid w0 M Sx R len S (k + 1) l n (w.setCell ⟨R, k, none⟩ (.pointer (some ⟨rb, 0, none⟩))) := by
  obtain ⟨F, hF, hrs⟩ := h.row
  have g := grown_set w ⟨R, k, none⟩ (.pointer (some ⟨rb, 0, none⟩))
  refine ⟨grown_past h.g g h.hR, g.cell h.cS (by simpa using h.hSR), h.m.kept g (by simpa using h.hMR), ⟨_, hF.set (i := k) (v := .pointer (some ⟨rb, 0, none⟩)), fun j hj => ?_⟩, h.hM, h.hR, h.hMR, h.hSM, h.hSR⟩
  by_cases e : j = k
  · subst e
    exact ⟨rb, by simp, hr.kept g (fun x e => by cases e; exact Or.inr rfl)⟩
  · obtain ⟨rb', e', r⟩ := hrs j (by omega)
    exact ⟨rb', by simp [e, e'], r.kept g (fun x e => by cases e; exact Or.inr rfl)⟩
/-- the record that step j made, as a previous one -/
theorem Mid.recOf {w0 : World} {M Sx R len : Nat} {S : Nat → CRec} {k : Nat} {l : Tab} {n : Nat} {w : World} (h : Mid w0 M Sx R len S k l n w) {j : Nat} (hj : j < k) (hk : j < len) :
    ∃ rb, w.cell? ⟨R, j, none⟩ = some (.pointer (some ⟨rb, 0, none⟩)) ∧ RecAt (Xs M R) w rb (S j) := by
  obtain ⟨F, hF, hr⟩ := h.row
  obtain ⟨rb, e, r⟩ := hr j hj
  exact ⟨rb, by rw [← e]; exact hF.cell hk, r⟩
theorem Mid.free {w0 : World} {M Sx R len : Nat} {S : Nat → CRec} {k : Nat} {l : Tab} {n : Nat} {w : World} (h : Mid w0 M Sx R len S k l n w) {j : Nat} (hj : j < len) :
    ∃ v, w.cell? ⟨R, j, none⟩ = some v ∧ w.frozen? ⟨R, j, none⟩ = false := by
  obtain ⟨F, hF, _⟩ := h.row
  exact ⟨F j, hF.cell hj, hF.frozen j⟩
end Go.Proofs.Qxb6615505a
