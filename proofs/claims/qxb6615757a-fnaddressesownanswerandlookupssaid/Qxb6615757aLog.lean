/-
  The walks of restart, memoryRows, NewLog.
-/
import Derived.Test.Qxb6615757aCfg4
import Derived.Laws.Append
namespace Go.Proofs.Qxb6615757a
open Go.RowKit

theorem info5 : ∃ i, Try.prog.info? 5 = some i ∧ i.zero = some (.int .u8 0) ∧ i.size = 1 ∧ i.bytes = 1 := by
  have h : (Try.prog.info? 5).map (fun i => (i.zero, i.size, i.bytes)) = some (some (.int .u8 0), 1, 1) := by kernel_rfl
  cases e : Try.prog.info? 5 with
  | none => rw [e] at h; cases h
  | some i => rw [e] at h; simp at h; exact ⟨i, rfl, h.1, h.2.1, h.2.2⟩
theorem lt_of_cell2 {w : World} {a : Addr} {v : Value} (h : w.cell? a = some v) : a.block < w.heap.size := by
  unfold World.cell? at h
  cases e : w.heap[a.block]? with
  | none => rw [e] at h; simp at h
  | some o => exact (Array.getElem?_eq_some_iff.1 e).1

theorem grown_b {w u : World} {b : Nat} (h : w.grownBy u (some b)) (k : Nat) (v : Value) (o : Obj) : w.grownBy ((u.setCell ⟨b, k, none⟩ v).alloc o).drew (some b) :=
  ⟨h.os, h.tape, h.output, Nat.le_trans h.size (by simp [World.setCell]), fun i hi hn => (Below.heap_alloc _ _ _ (by simp [World.setCell]; have := h.size; omega)).trans ((Below.heap_setCell _ _ _ _ (fun e => hn (by rw [e]))).trans (h.block i hi hn))⟩

set_option maxRecDepth 100000 in
set_option maxHeartbeats 2000000 in
theorem restart_c (b : Nat) (per v10 v11 v13 v14 : Int) (w : World) (hp : per = 204 ∨ per = 255) (c2 : w.cell? ⟨b, 2, none⟩ = some (.int .u64 per)) (c10 : w.cell? ⟨b, 10, none⟩ = some (.int .u64 v10)) (c11 : w.cell? ⟨b, 11, none⟩ = some (.int .u64 v11))
    (c12 : w.cell? ⟨b, 12, none⟩ = some (.slice none 0 0)) (c13 : w.cell? ⟨b, 13, none⟩ = some (.int .u64 v13)) (c14 : w.cell? ⟨b, 14, none⟩ = some (.int .u64 v14)) (fz : ∀ o, w.frozen? ⟨b, o, none⟩ = false) :
    Calls Try.prog 47 #[.pointer (some ⟨b, 0, none⟩), .int .u64 0] w fun e w' => e = .returned (.tuple #[]) ∧ w.grownBy w' (some b) := by
  have hf : ∀ (x y : Value), w.grownBy ((w.setCell ⟨b, 13, none⟩ x).setCell ⟨b, 14, none⟩ y) (some b) := fun x y => ⟨rfl, rfl, rfl, by simp [World.setCell], fun i _ hn => (Below.heap_setCell _ _ _ _ (fun e => hn (by rw [e]))).trans (Below.heap_setCell _ _ _ _ (fun e => hn (by rw [e])))⟩
  have HF : Hid _ := hf
  clear hf
  go_enter Try.func47, Try.ntmps47
  go_upto_region 1 with fail
  generalize hu : ((w.setCell ⟨b, 13, none⟩ (Value.int .u64 0)).setCell ⟨b, 14, none⟩ (Value.int .u64 0)) = u
  have g0 : Hid (w.grownBy u (some b)) := by subst hu; exact HF.out _ _
  have o : ∀ k, k ≠ 13 → k ≠ 14 → u.cell? ⟨b, k, none⟩ = w.cell? ⟨b, k, none⟩ := fun k h1 h2 => by
    subst hu
    exact (World.cell?_setCell_other _ _ _ _ (fun e => by injection e; omega)).trans (World.cell?_setCell_other _ _ _ _ (fun e => by injection e; omega))
  have d2 := (o 2 (by omega) (by omega)).trans c2
  have d10 := (o 10 (by omega) (by omega)).trans c10
  have d11 := (o 11 (by omega) (by omega)).trans c11
  have d12 := (o 12 (by omega) (by omega)).trans c12
  have df : ∀ k, u.frozen? ⟨b, k, none⟩ = false := fun k => by subst hu; simpa using fz k
  clear hu o c2 c10 c11 c12 c13 c14 fz HF
  rcases hp with rfl | rfl
  · go_region
    generalize hu2 : ((u.setCell ⟨b, 10, none⟩ (Value.int .u64 0)).setCell ⟨b, 11, none⟩ (Value.int .u64 0)).drew = u2
    have g2 : Hid (w.grownBy u2 (some b)) := by
      subst hu2
      have g := g0.out
      exact ⟨g.os, g.tape, g.output, by simp [World.setCell]; exact g.size, fun i hi hn => (Below.heap_setCell _ _ _ _ (fun e => hn (by rw [e]))).trans ((Below.heap_setCell _ _ _ _ (fun e => hn (by rw [e]))).trans (g.block i hi hn))⟩
    have e12 : u2.cell? ⟨b, 12, none⟩ = some (.slice none 0 0) := by
      subst hu2
      exact (World.cell?_setCell_other _ _ _ _ (fun e => by injection e; omega)).trans ((World.cell?_setCell_other _ _ _ _ (fun e => by injection e; omega)).trans d12)
    have ef : ∀ k, u2.frozen? ⟨b, k, none⟩ = false := fun k => by subst hu2; simpa using df k
    have hb : b < u2.heap.size := lt_of_cell2 e12
    clear hu2 d2 d10 d11 d12 df g0
    go_wp2
    go_end0
    exact ⟨rfl, grown_b g2.out _ _ _⟩
  · go_region
    generalize hu2 : ((u.setCell ⟨b, 10, none⟩ (Value.int .u64 0)).setCell ⟨b, 11, none⟩ (Value.int .u64 0)).drew = u2
    have g2 : Hid (w.grownBy u2 (some b)) := by
      subst hu2
      have g := g0.out
      exact ⟨g.os, g.tape, g.output, by simp [World.setCell]; exact g.size, fun i hi hn => (Below.heap_setCell _ _ _ _ (fun e => hn (by rw [e]))).trans ((Below.heap_setCell _ _ _ _ (fun e => hn (by rw [e]))).trans (g.block i hi hn))⟩
    have e12 : u2.cell? ⟨b, 12, none⟩ = some (.slice none 0 0) := by
      subst hu2
      exact (World.cell?_setCell_other _ _ _ _ (fun e => by injection e; omega)).trans ((World.cell?_setCell_other _ _ _ _ (fun e => by injection e; omega)).trans d12)
    have ef : ∀ k, u2.frozen? ⟨b, k, none⟩ = false := fun k => by subst hu2; simpa using df k
    have hb : b < u2.heap.size := lt_of_cell2 e12
    clear hu2 d2 d10 d11 d12 df g0
    go_wp2
    go_end0
    exact ⟨rfl, grown_b g2.out _ _ _⟩

set_option maxRecDepth 100000 in
set_option maxHeartbeats 2000000 in
theorem memoryRows_c (nm : ByteArray) (wd : Int) (hw : wd = 20 ∨ wd = 16) (w : World) :
    Calls Try.prog 39 #[.string nm, .int .i64 wd, .int .u64 0] w fun e w' => ∃ b, e = .returned (.pointer (some ⟨b, 0, none⟩)) ∧ w.grownBy w' none := by
  rcases hw with rfl | rfl
  · go_enter Try.func39, Try.ntmps39
    go_wp2_with fail
    refine (restart_c w.heap.size 204 0 0 0 0 _ (.inl rfl) (World.cell?_alloc_at _ _ _ _ rfl) (World.cell?_alloc_at _ _ _ _ rfl) (World.cell?_alloc_at _ _ _ _ rfl) (World.cell?_alloc_at _ _ _ _ rfl) (World.cell?_alloc_at _ _ _ _ rfl) (World.cell?_alloc_at _ _ _ _ rfl) (fun o => World.frozen?_alloc_at _ _ _ _ rfl)).mono ?_
    rintro e1 w1 ⟨rfl, hg⟩
    have HG : Hid (w.grownBy w1 none) := grown_row (World.grownBy_alloc w _ none) hg (fun k e => by cases e; exact Nat.le_refl _)
    clear hg
    go_wp2
    go_ret
    exact ⟨_, rfl, HG.out⟩
  · go_enter Try.func39, Try.ntmps39
    go_wp2_with fail
    refine (restart_c w.heap.size 255 0 0 0 0 _ (.inr rfl) (World.cell?_alloc_at _ _ _ _ rfl) (World.cell?_alloc_at _ _ _ _ rfl) (World.cell?_alloc_at _ _ _ _ rfl) (World.cell?_alloc_at _ _ _ _ rfl) (World.cell?_alloc_at _ _ _ _ rfl) (World.cell?_alloc_at _ _ _ _ rfl) (fun o => World.frozen?_alloc_at _ _ _ _ rfl)).mono ?_
    rintro e1 w1 ⟨rfl, hg⟩
    have HG : Hid (w.grownBy w1 none) := grown_row (World.grownBy_alloc w _ none) hg (fun k e => by cases e; exact Nat.le_refl _)
    clear hg
    go_wp2
    go_ret
    exact ⟨_, rfl, HG.out⟩

/-- A log in block lb: its mutex free, its configuration cfg, its pending slots pend. -/
structure LogIs (w : World) (lb : Nat) (cfg pend : Value) : Prop where
  c3 : w.cell? ⟨lb, 3, none⟩ = some (.int .i32 0)
  c24 : w.cell? ⟨lb, 24, none⟩ = some pend
  c30 : w.cell? ⟨lb, 30, none⟩ = some cfg
  c32 : ∃ n, w.cell? ⟨lb, 32, none⟩ = some (.int .u64 n)
  c38 : ∃ v, w.cell? ⟨lb, 38, none⟩ = some v
  f : ∀ o, w.frozen? ⟨lb, o, none⟩ = false

end Go.Proofs.Qxb6615757a
