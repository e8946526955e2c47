/-
  WHAT A CALL MAY HAVE TURNED ('Turn F w w''), AND push AND unlink SAID OF THE LIST.
-/
import Derived.Test.Qxb6615757aLink
import Derived.Test.Qxb6615757aList
import Derived.Below
namespace Go.Proofs.Qxb6615757a
open Go.RowKit

/-- w' is w but for the blocks of F and new ones -/
structure Turn (F : List Nat) (w w' : World) : Prop where
  os : w'.os = w.os
  tape : w'.tape = w.tape
  output : w'.output = w.output
  size : w.heap.size ≤ w'.heap.size
  block : ∀ k, k < w.heap.size → k ∉ F → w'.heap[k]? = w.heap[k]?
theorem Turn.refl (F : List Nat) (w : World) : Turn F w w := ⟨rfl, rfl, rfl, Nat.le_refl _, fun _ _ _ => rfl⟩
theorem Turn.trans {F G : List Nat} {a b c : World} (h : Turn F a b) (k : Turn G b c) (s : ∀ x, x ∈ G → x < a.heap.size → x ∈ F) : Turn F a c :=
  ⟨k.os.trans h.os, k.tape.trans h.tape, k.output.trans h.output, Nat.le_trans h.size k.size, fun i hi hf =>
    (k.block i (Nat.lt_of_lt_of_le hi h.size) (fun e => hf (s i e hi))).trans (h.block i hi hf)⟩
theorem Turn.mono {F G : List Nat} {a b : World} (h : Turn F a b) (s : ∀ x, x ∈ F → x < a.heap.size → x ∈ G) : Turn G a b :=
  ⟨h.os, h.tape, h.output, h.size, fun i hi hf => h.block i hi (fun e => hf (s i e hi))⟩
theorem Turn.drewN {F : List Nat} {a b : World} (h : Turn F a b) (n : Nat) : Turn F a (b.drewN n) := ⟨h.os, h.tape, h.output, h.size, h.block⟩
theorem Turn.drew {F : List Nat} {a b : World} (h : Turn F a b) : Turn F a b.drew := ⟨h.os, h.tape, h.output, h.size, h.block⟩
theorem Turn.alloc {F : List Nat} {a b : World} (h : Turn F a b) (o : Obj) : Turn F a (b.alloc o) :=
  h.trans (G := []) ⟨rfl, rfl, rfl, by simp, fun k hk _ => Below.heap_alloc _ _ _ hk⟩ (fun _ e => by simp at e)
theorem Turn.setCell {F : List Nat} {a b : World} (h : Turn F a b) {p : Addr} (hp : p.block < a.heap.size → p.block ∈ F) (u : Value) : Turn F a (b.setCell p u) :=
  h.trans (G := [p.block]) ⟨rfl, rfl, rfl, by simp [World.setCell], fun k hk hn => Below.heap_setCell _ _ _ _ (by simpa using hn)⟩ (fun x e hx => by
    simp at e; subst e; exact hp hx)
theorem Turn.map {F : List Nat} {a b c : World} (h : Turn F a b) {m : Nat} (ht : b.mapTurned c m) (hm : m < a.heap.size → m ∈ F) : Turn F a c := by
  have g := ht.grown
  exact h.trans (G := [m]) ⟨g.os, g.tape, g.output, g.size, fun k hk hn => g.block k hk (fun e => by cases e; simp at hn)⟩ (fun x e hx => by
    simp at e; subst e; exact hm hx)
theorem Turn.below {F : List Nat} {w w' : World} (h : Turn F w w') {n : Nat} (hn : n ≤ w.heap.size) (hF : ∀ x ∈ F, n ≤ x) : Below n w w' :=
  ⟨h.os, h.tape, h.output, h.size, fun k hk => h.block k (by omega) (fun e => by have := hF k e; omega)⟩

def cellsOf (w : World) : Cells := fun b o => w.cell? ⟨b, o, none⟩
theorem cells_set {w : World} {b o : Nat} {u : Value} (h : w.cell? ⟨b, o, none⟩ = some u) (v : Value) : cellsOf (w.setCell ⟨b, o, none⟩ v) = upd (cellsOf w) b o v := by
  funext b' o'
  unfold cellsOf upd
  by_cases e : b' = b ∧ o' = o
  · obtain ⟨rfl, rfl⟩ := e
    rw [if_pos ⟨rfl, rfl⟩]
    exact World.cell?_setCell_same _ _ _ h
  · rw [if_neg e]
    exact World.cell?_setCell_other w _ _ v (fun e2 => e (by injection e2 with e3 e4; exact ⟨e3.symm, e4.symm⟩))
theorem cells_drewN (w : World) (n : Nat) : cellsOf (w.drewN n) = cellsOf w := rfl

theorem before_some {B : List Nat} {k p : Nat} (h : before B k = some p) : ∃ j, k = j + 1 ∧ B[j]? = some p := by
  unfold before at h
  split at h
  · cases h
  · exact ⟨k - 1, by omega, h⟩

set_option maxHeartbeats 2000000 in
/-- unlink, said of the list -/
theorem unlink_step {sb : Nat} {B : List Nat} {k b : Nat} {w : World} (lk : Lk (cellsOf w) sb B) (hn : B.Nodup) (hb : B[k]? = some b) (fz : ∀ a, a = sb ∨ a ∈ B → ∀ o, w.frozen? ⟨a, o, none⟩ = false) :
    Calls Try.prog 50 #[.pointer (some ⟨sb, 0, none⟩), .pointer (some ⟨b, 0, none⟩)] w fun e w' => e = .returned (.tuple #[]) ∧
      cellsOf w' = cutOut (cellsOf w) sb (before B k) B[k + 1]? b ∧ Turn (sb :: B) w w' ∧ ∀ a, w'.frozen? a = w.frozen? a := by
  have c1 : w.cell? ⟨sb, 1, none⟩ = some (ptr B[0]?) := lk.old
  have c2 : w.cell? ⟨sb, 2, none⟩ = some (ptr B[B.length - 1]?) := lk.new
  have c5 : w.cell? ⟨b, 5, none⟩ = some (ptr (before B k)) := lk.prv k b hb
  have c6 : w.cell? ⟨b, 6, none⟩ = some (ptr B[k + 1]?) := lk.nxt k b hb
  have mb : b ∈ B := List.mem_of_getElem? hb
  have fs := fz sb (.inl rfl)
  have fb := fz b (.inr mb)
  have t0 := Turn.refl (sb :: B) w
  cases hp : before B k with
  | none =>
    rw [hp] at c5
    cases hx : B[k + 1]? with
    | none =>
      rw [hx] at c6
      refine (unlink_only sb b _ _ w c1 c2 c5 c6 fs fb).mono ?_
      rintro e w' ⟨he, rfl⟩
      refine ⟨he, ?_, (((t0.setCell (fun _ => by simp) _).setCell (fun _ => by simp) _).setCell (fun _ => by simp [mb]) _).setCell (fun _ => by simp [mb]) _, fun a => by simp⟩
      have k1 := cells_set c1 (ptr none)
      have k2 := cells_set (w := w.setCell ⟨sb, 1, none⟩ (ptr none)) (b := sb) (o := 2) (u := ptr B[B.length - 1]?) ((congrFun (congrFun k1 sb) 2).trans ((upd_off _ _ (by omega)).trans c2)) (ptr none)
      have k3 := cells_set (w := (w.setCell ⟨sb, 1, none⟩ (ptr none)).setCell ⟨sb, 2, none⟩ (ptr none)) (b := b) (o := 5) (u := ptr none) ((congrFun (congrFun k2 b) 5).trans ((upd_off _ _ (by omega)).trans ((congrFun (congrFun k1 b) 5).trans ((upd_off _ _ (by omega)).trans c5)))) (ptr none)
      have k4 := cells_set (w := ((w.setCell ⟨sb, 1, none⟩ (ptr none)).setCell ⟨sb, 2, none⟩ (ptr none)).setCell ⟨b, 5, none⟩ (ptr none)) (b := b) (o := 6) (u := ptr none) ((congrFun (congrFun k3 b) 6).trans ((upd_off _ _ (by omega)).trans ((congrFun (congrFun k2 b) 6).trans ((upd_off _ _ (by omega)).trans ((congrFun (congrFun k1 b) 6).trans ((upd_off _ _ (by omega)).trans c6)))))) (ptr none)
      rw [k3, k2, k1] at k4
      exact k4
    | some n =>
      rw [hx] at c6
      have mn : n ∈ B := List.mem_of_getElem? hx
      have hnb : n ≠ b := fun e => by have := place_inj hn hx (e ▸ hb); omega
      have n5 : w.cell? ⟨n, 5, none⟩ = some (ptr (before B (k + 1))) := lk.prv _ _ hx
      refine (unlink_first sb b n _ _ w hnb c1 c5 c6 n5 fs fb (fz n (.inr mn))).mono ?_
      rintro e w' ⟨he, m, rfl⟩
      refine ⟨he, ?_, ((((t0.setCell (fun _ => by simp) _).setCell (fun _ => by simp [mn]) _).setCell (fun _ => by simp [mb]) _).setCell (fun _ => by simp [mb]) _).drewN m, fun a => by simp⟩
      have k1 := cells_set c1 (ptr (some n))
      have k2 := cells_set (w := w.setCell ⟨sb, 1, none⟩ (ptr (some n))) (b := n) (o := 5) (u := ptr (before B (k + 1))) ((congrFun (congrFun k1 n) 5).trans ((upd_off _ _ (by omega)).trans n5)) (ptr none)
      have k3 := cells_set (w := (w.setCell ⟨sb, 1, none⟩ (ptr (some n))).setCell ⟨n, 5, none⟩ (ptr none)) (b := b) (o := 5) (u := ptr none) ((congrFun (congrFun k2 b) 5).trans ((upd_blk _ _ hnb.symm).trans ((congrFun (congrFun k1 b) 5).trans ((upd_off _ _ (by omega)).trans c5)))) (ptr none)
      have k4 := cells_set (w := ((w.setCell ⟨sb, 1, none⟩ (ptr (some n))).setCell ⟨n, 5, none⟩ (ptr none)).setCell ⟨b, 5, none⟩ (ptr none)) (b := b) (o := 6) (u := ptr (some n)) ((congrFun (congrFun k3 b) 6).trans ((upd_off _ _ (by omega)).trans ((congrFun (congrFun k2 b) 6).trans ((upd_off _ _ (by omega)).trans ((congrFun (congrFun k1 b) 6).trans ((upd_off _ _ (by omega)).trans c6)))))) (ptr none)
      rw [k3, k2, k1] at k4
      exact k4
  | some p =>
    rw [hp] at c5
    obtain ⟨j, rfl, hj⟩ := before_some hp
    have mp : p ∈ B := List.mem_of_getElem? hj
    have hpb : p ≠ b := fun e => by have := place_inj hn hj (e ▸ hb); omega
    have p6 : w.cell? ⟨p, 6, none⟩ = some (ptr B[j + 1]?) := lk.nxt _ _ hj
    cases hx : B[j + 1 + 1]? with
    | none =>
      rw [hx] at c6
      refine (unlink_last sb b p _ _ w hpb c2 c5 c6 p6 fs fb (fz p (.inr mp))).mono ?_
      rintro e w' ⟨he, m, rfl⟩
      refine ⟨he, ?_, ((((t0.setCell (fun _ => by simp [mp]) _).setCell (fun _ => by simp) _).setCell (fun _ => by simp [mb]) _).setCell (fun _ => by simp [mb]) _).drewN m, fun a => by simp⟩
      have k1 := cells_set p6 (ptr none)
      have k2 := cells_set (w := w.setCell ⟨p, 6, none⟩ (ptr none)) (b := sb) (o := 2) (u := ptr B[B.length - 1]?) ((congrFun (congrFun k1 sb) 2).trans ((upd_off _ _ (by omega)).trans c2)) (ptr (some p))
      have k3 := cells_set (w := (w.setCell ⟨p, 6, none⟩ (ptr none)).setCell ⟨sb, 2, none⟩ (ptr (some p))) (b := b) (o := 5) (u := ptr (some p)) ((congrFun (congrFun k2 b) 5).trans ((upd_off _ _ (by omega)).trans ((congrFun (congrFun k1 b) 5).trans ((upd_off _ _ (by omega)).trans c5)))) (ptr none)
      have k4 := cells_set (w := ((w.setCell ⟨p, 6, none⟩ (ptr none)).setCell ⟨sb, 2, none⟩ (ptr (some p))).setCell ⟨b, 5, none⟩ (ptr none)) (b := b) (o := 6) (u := ptr none) ((congrFun (congrFun k3 b) 6).trans ((upd_off _ _ (by omega)).trans ((congrFun (congrFun k2 b) 6).trans ((upd_off _ _ (by omega)).trans ((congrFun (congrFun k1 b) 6).trans ((upd_blk _ _ hpb.symm).trans c6)))))) (ptr none)
      rw [k3, k2, k1] at k4
      exact k4
    | some n =>
      rw [hx] at c6
      have mn : n ∈ B := List.mem_of_getElem? hx
      have hnb : n ≠ b := fun e => by have := place_inj hn hx (e ▸ hb); omega
      have n5 : w.cell? ⟨n, 5, none⟩ = some (ptr (before B (j + 1 + 1))) := lk.prv _ _ hx
      refine (unlink_mid sb b p n _ _ w hpb hnb c5 c6 p6 n5 fb (fz p (.inr mp)) (fz n (.inr mn))).mono ?_
      rintro e w' ⟨he, m, rfl⟩
      refine ⟨he, ?_, ((((t0.setCell (fun _ => by simp [mp]) _).setCell (fun _ => by simp [mn]) _).setCell (fun _ => by simp [mb]) _).setCell (fun _ => by simp [mb]) _).drewN m, fun a => by simp⟩
      have k1 := cells_set p6 (ptr (some n))
      have k2 := cells_set (w := w.setCell ⟨p, 6, none⟩ (ptr (some n))) (b := n) (o := 5) (u := ptr (before B (j + 1 + 1))) ((congrFun (congrFun k1 n) 5).trans ((upd_off _ _ (by omega)).trans n5)) (ptr (some p))
      have k3 := cells_set (w := (w.setCell ⟨p, 6, none⟩ (ptr (some n))).setCell ⟨n, 5, none⟩ (ptr (some p))) (b := b) (o := 5) (u := ptr (some p)) ((congrFun (congrFun k2 b) 5).trans ((upd_blk _ _ hnb.symm).trans ((congrFun (congrFun k1 b) 5).trans ((upd_off _ _ (by omega)).trans c5)))) (ptr none)
      have k4 := cells_set (w := ((w.setCell ⟨p, 6, none⟩ (ptr (some n))).setCell ⟨n, 5, none⟩ (ptr (some p))).setCell ⟨b, 5, none⟩ (ptr none)) (b := b) (o := 6) (u := ptr (some n)) ((congrFun (congrFun k3 b) 6).trans ((upd_off _ _ (by omega)).trans ((congrFun (congrFun k2 b) 6).trans ((upd_off _ _ (by omega)).trans ((congrFun (congrFun k1 b) 6).trans ((upd_blk _ _ hpb.symm).trans c6)))))) (ptr none)
      rw [k3, k2, k1] at k4
      exact k4

set_option maxHeartbeats 2000000 in
/-- push, said of the list -/
theorem push_step {sb : Nat} {B : List Nat} {b : Nat} {v5 : Value} {w : World} (lk : Lk (cellsOf w) sb B) (hb : b ∉ B) (c5 : w.cell? ⟨b, 5, none⟩ = some v5) (fz : ∀ a, a = sb ∨ a = b ∨ a ∈ B → ∀ o, w.frozen? ⟨a, o, none⟩ = false) :
    Calls Try.prog 51 #[.pointer (some ⟨sb, 0, none⟩), .pointer (some ⟨b, 0, none⟩)] w fun e w' => e = .returned (.tuple #[]) ∧
      cellsOf w' = pushed (cellsOf w) sb B b ∧ Turn (sb :: b :: B) w w' ∧ ∀ a, w'.frozen? a = w.frozen? a := by
  have c1 : w.cell? ⟨sb, 1, none⟩ = some (ptr B[0]?) := lk.old
  have c2 : w.cell? ⟨sb, 2, none⟩ = some (ptr B[B.length - 1]?) := lk.new
  have fs := fz sb (.inl rfl)
  have fb := fz b (.inr (.inl rfl))
  have t0 := Turn.refl (sb :: b :: B) w
  unfold pushed
  cases hl : B[B.length - 1]? with
  | none =>
    rw [hl] at c2
    refine (push_nil sb b _ _ w c1 c2 c5 fs fb).mono ?_
    rintro e w' ⟨he, rfl⟩
    refine ⟨he, ?_, ((t0.setCell (fun _ => by simp) _).setCell (fun _ => by simp) _).setCell (fun _ => by simp) _, fun a => by simp⟩
    have k1 := cells_set c5 (ptr none)
    have k2 := cells_set (w := w.setCell ⟨b, 5, none⟩ (ptr none)) (b := sb) (o := 1) (u := ptr B[0]?) ((congrFun (congrFun k1 sb) 1).trans ((upd_off _ _ (by omega)).trans c1)) (ptr (some b))
    have k3 := cells_set (w := (w.setCell ⟨b, 5, none⟩ (ptr none)).setCell ⟨sb, 1, none⟩ (ptr (some b))) (b := sb) (o := 2) (u := ptr none) ((congrFun (congrFun k2 sb) 2).trans ((upd_off _ _ (by omega)).trans ((congrFun (congrFun k1 sb) 2).trans ((upd_off _ _ (by omega)).trans c2)))) (ptr (some b))
    rw [k2, k1] at k3
    exact k3
  | some l =>
    rw [hl] at c2
    have ml : l ∈ B := List.mem_of_getElem? hl
    have hlb : l ≠ b := fun e => hb (e ▸ ml)
    have l6 : w.cell? ⟨l, 6, none⟩ = some (ptr B[B.length - 1 + 1]?) := lk.nxt _ _ hl
    refine (push_last sb b l _ _ w c2 c5 l6 fs fb (fz l (.inr (.inr ml)))).mono ?_
    rintro e w' ⟨he, rfl⟩
    refine ⟨he, ?_, ((t0.setCell (fun _ => by simp) _).setCell (fun _ => by simp [ml]) _).setCell (fun _ => by simp) _, fun a => by simp⟩
    have k1 := cells_set c5 (ptr (some l))
    have k2 := cells_set (w := w.setCell ⟨b, 5, none⟩ (ptr (some l))) (b := l) (o := 6) (u := ptr B[B.length - 1 + 1]?) ((congrFun (congrFun k1 l) 6).trans ((upd_off _ _ (by omega)).trans l6)) (ptr (some b))
    have k3 := cells_set (w := (w.setCell ⟨b, 5, none⟩ (ptr (some l))).setCell ⟨l, 6, none⟩ (ptr (some b))) (b := sb) (o := 2) (u := ptr (some l)) ((congrFun (congrFun k2 sb) 2).trans ((upd_off _ _ (by omega)).trans ((congrFun (congrFun k1 sb) 2).trans ((upd_off _ _ (by omega)).trans c2)))) (ptr (some b))
    rw [k2, k1] at k3
    exact k3
end Go.Proofs.Qxb6615757a
