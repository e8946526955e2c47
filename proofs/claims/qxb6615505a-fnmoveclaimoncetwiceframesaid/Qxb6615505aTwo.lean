/-
  The world in the middle of FnMoveClaimOnceTwiceFrame: two maps of the call's own. '==' on two Claims.
-/
import Derived.Test.Qxb6615505aBytes2
import Derived.Laws.StructEq
namespace Go.Proofs.Qxb6615505a
open Go.RowKit
open Pl (CRec CRow Key Tab)

structure Two (w1 : World) (M M2 n1 n2 : Nat) (l1 l2 : Tab) (w : World) : Prop where
  m1 : MapIs w M n1 l1
  m2 : MapIs w M2 n2 l2
  g : w1.grownBy w none
  hM : w1.heap.size ≤ M
  hM2 : w1.heap.size ≤ M2
  hlt : M < M2
section
variable {w1 w w' : World} {M M2 n1 n2 n : Nat} {l1 l2 l : Tab}
theorem Two.grow (h : Two w1 M M2 n1 n2 l1 l2 w) (g : w.grownBy w' none) : Two w1 M M2 n1 n2 l1 l2 w' :=
  ⟨h.m1.kept g (by simp), h.m2.kept g (by simp), h.g.trans g, h.hM, h.hM2, h.hlt⟩
theorem Two.move1 (h : Two w1 M M2 n1 n2 l1 l2 w) (g : w.grownBy w' (some M)) (hm : MapIs w' M n l) : Two w1 M M2 n n2 l l2 w' :=
  ⟨hm, h.m2.kept g (by have := h.hlt; simp; omega), grown_past h.g g h.hM, h.hM, h.hM2, h.hlt⟩
theorem Two.move2 (h : Two w1 M M2 n1 n2 l1 l2 w) (g : w.grownBy w' (some M2)) (hm : MapIs w' M2 n l) : Two w1 M M2 n1 n l1 l w' :=
  ⟨h.m1.kept g (by have := h.hlt; simp; omega), hm, grown_past h.g g h.hM2, h.hM, h.hM2, h.hlt⟩
theorem Two.free (h : Two w1 M M2 n1 n2 l1 l2 w) : ∀ x, w.heap.size ≤ x → ¬ Xs M M2 x := by
  intro x hx e
  have h1 := h.m1.lt
  have h2 := h.m2.lt
  rcases e with rfl | rfl <;> omega
end

theorem store2 {w0 W : World} {B : Nat} {x y : Value} (u v : Value) (g : w0.grownBy W none) (hB : w0.heap.size ≤ B) (h0 : W.cell? ⟨B, 0, none⟩ = some x) (h1 : W.cell? ⟨B, 1, none⟩ = some y) :
    w0.grownBy ((W.setCell ⟨B, 0, none⟩ u).setCell ⟨B, 1, none⟩ v) none ∧ ((W.setCell ⟨B, 0, none⟩ u).setCell ⟨B, 1, none⟩ v).cell? ⟨B, 0, none⟩ = some u ∧
      ((W.setCell ⟨B, 0, none⟩ u).setCell ⟨B, 1, none⟩ v).cell? ⟨B, 1, none⟩ = some v ∧ ∀ a : Addr, a.block ≠ B → ((W.setCell ⟨B, 0, none⟩ u).setCell ⟨B, 1, none⟩ v).cell? a = W.cell? a := by
  refine ⟨grown_past (grown_past g (grown_set W ⟨B, 0, none⟩ u) hB) (grown_set _ ⟨B, 1, none⟩ v) hB, ?_, ?_, fun a ha => ?_⟩
  · rw [World.cell?_setCell_other _ ⟨B, 1, none⟩ ⟨B, 0, none⟩ v (by simp)]
    exact World.cell?_setCell_same W _ _ h0
  · exact World.cell?_setCell_same _ _ _ ((World.cell?_setCell_other W ⟨B, 0, none⟩ ⟨B, 1, none⟩ u (by simp)).trans h1)
  · rw [World.cell?_setCell_other _ ⟨B, 1, none⟩ a v (fun e => ha (by rw [← e])), World.cell?_setCell_other W ⟨B, 0, none⟩ a u (fun e => ha (by rw [← e]))]

theorem run_eql38 (w : World) (a b c d : ByteArray) : (binOp .eql 38 (.agg #[.string a, .string b]) (.agg #[.string c, .string d])).run Try.prog w = .ok (.bool (decide ((a, b) = (c, d)))) w := by
  have hu := Try.underlying38
  have hf : Try.prog.underlying 38 = some (.struct (Try.prog.fieldsOf 38)) := by unfold Program.fieldsOf; rw [hu]
  have hst : Try.prog.stoodInHeld 38 = false := by kernel_rfl
  simp only [binOp]
  simp [Op.equal, Op.maxDepth, run_equalIn_struct w 9999 38 _ _ hf hst, Program.fieldsOf, hu, Op.eqFields, part, run_equalIn_string, Try.underlying9, go_sem]
  simp only [str_eq]
  by_cases h1 : a = c <;> by_cases h2 : b = d <;> simp [h1, h2]
end Go.Proofs.Qxb6615505a
