/-
  The walk of (*Log).Begin.
-/
import Derived.Test.Qxb6615757aLog
import Derived.Test.Qxb6615757aLocks
import Derived.Conc.MuLone
namespace Go.Proofs.Qxb6615757a
open Go.RowKit
open Go.MuLone

theorem grown_self {w u : World} {b : Nat} (h : w.grownBy u (some b)) (k : Nat) (v : Value) : w.grownBy (u.setCell ⟨b, k, none⟩ v) (some b) :=
  ⟨h.os, h.tape, h.output, Nat.le_trans h.size (by simp [World.setCell]), fun i hi hn => (Below.heap_setCell _ _ _ _ (fun e => hn (by rw [e]))).trans (h.block i hi hn)⟩
theorem grown_refl_b (w : World) (b : Nat) : w.grownBy w (some b) := ⟨rfl, rfl, rfl, Nat.le_refl _, fun _ _ _ => rfl⟩
theorem set_other (W : World) (b k o : Nat) (v : Value) (h : o ≠ k) : (W.setCell ⟨b, k, none⟩ v).cell? ⟨b, o, none⟩ = W.cell? ⟨b, o, none⟩ := World.cell?_setCell_other W ⟨b, k, none⟩ ⟨b, o, none⟩ v (fun e => h (by injection e with _ e2 _; exact e2.symm))
theorem set_same (W : World) (b k : Nat) (v u : Value) (h : W.cell? ⟨b, k, none⟩ = some u) : (W.setCell ⟨b, k, none⟩ v).cell? ⟨b, k, none⟩ = some v := World.cell?_setCell_same W _ _ h

set_option maxRecDepth 100000 in
set_option maxHeartbeats 1000000 in
theorem begin_c (lb : Nat) (pend : Value) (a : Option Addr) (l c : Nat) (w : World) (h : LogIs w lb (.slice none 0 0) pend) :
    Calls Try.prog 32 #[.pointer (some ⟨lb, 0, none⟩), .slice a l c] w fun e w' => e = .returned (.tuple #[]) ∧ LogIs w' lb (.slice a l c) pend ∧ w.grownBy w' (some lb) := by
  obtain ⟨c3, c24, c30, ⟨n32, c32⟩, ⟨v38, c38⟩, f⟩ := h
  have f3 := f 3
  have HF : Hid (∀ o, w.frozen? ⟨lb, o, none⟩ = false) := f
  have heq := eql29
  go_enter_defers Try.func32, Try.ntmps32
  go_wp2_with (go_at_call 40; refine (lock_free Try.muLib ⟨lb, 3, none⟩ _ c3 f3).mono ?_; rintro e w' ⟨rfl, rfl⟩)
  have k3 := set_same w lb 3 (.int .i32 1) _ c3
  generalize hw1 : (((w.setCell ⟨lb, 3, none⟩ (Value.int .i32 1)).setCell ⟨lb, 30, none⟩ (Value.slice a l c)).setCell ⟨lb, 38, none⟩ (Value.slice a l c)).setCell ⟨lb, 32, none⟩ (Value.int .u64 (IntKind.u64.wrap (n32 + 1))) = w1
  have g1 : w.grownBy w1 (some lb) := hw1 ▸ grown_self (grown_self (grown_self (grown_self (grown_refl_b w lb) _ _) _ _) _ _) _ _
  have z3 : w1.cell? ⟨lb, 3, none⟩ = some (.int .i32 1) := by rw [← hw1, set_other _ _ _ _ _ (by omega), set_other _ _ _ _ _ (by omega), set_other _ _ _ _ _ (by omega)]; exact k3
  have z24 : w1.cell? ⟨lb, 24, none⟩ = some pend := by rw [← hw1, set_other _ _ _ _ _ (by omega), set_other _ _ _ _ _ (by omega), set_other _ _ _ _ _ (by omega), set_other _ _ _ _ _ (by omega)]; exact c24
  have z30 : w1.cell? ⟨lb, 30, none⟩ = some (.slice a l c) := by
    rw [← hw1, set_other _ _ _ _ _ (by omega), set_other _ _ _ _ _ (by omega)]
    exact set_same _ _ _ _ (.slice none 0 0) (by rw [set_other _ _ _ _ _ (by omega)]; exact c30)
  have z38 : w1.cell? ⟨lb, 38, none⟩ = some (.slice a l c) := by
    rw [← hw1, set_other _ _ _ _ _ (by omega)]
    exact set_same _ _ _ _ v38 (by rw [set_other _ _ _ _ _ (by omega), set_other _ _ _ _ _ (by omega)]; exact c38)
  have z32 : w1.cell? ⟨lb, 32, none⟩ = some (.int .u64 (IntKind.u64.wrap (n32 + 1))) := by
    rw [← hw1]
    exact set_same _ _ _ _ (.int .u64 n32) (by rw [set_other _ _ _ _ _ (by omega), set_other _ _ _ _ _ (by omega), set_other _ _ _ _ _ (by omega)]; exact c32)
  have zf : ∀ o, w1.frozen? ⟨lb, o, none⟩ = false := fun o => by rw [← hw1]; simpa using HF.out o
  clear hw1
  refine leaves_cons (f := 41) (args := #[.pointer (some ⟨lb, 3, none⟩)]) (by simp) (by simp [go_sem]) ?_
  refine (unlock_deferred Try.muLib ⟨lb, 3, none⟩ .returning _ z3 (zf 3)).mono ?_
  rintro e u' w'' ⟨rfl, rfl, rfl⟩
  refine ⟨_, results_none rfl _ _ _, rfl, ⟨set_same _ _ _ _ _ z3, ?_, ?_, ⟨IntKind.u64.wrap (n32 + 1), ?_⟩, ⟨.slice a l c, ?_⟩, fun o => by simpa using zf o⟩, grown_self g1 _ _⟩
  · rw [set_other _ _ _ _ _ (by omega)]; exact z24
  · rw [set_other _ _ _ _ _ (by omega)]; exact z30
  · rw [set_other _ _ _ _ _ (by omega)]; exact z32
  · rw [set_other _ _ _ _ _ (by omega)]; exact z38
end Go.Proofs.Qxb6615757a
