/-
  THE WALKS of the counter: ZZnewPipeCount, (*pipeCount).give, ZZgive, ZZheld. A counter is ten cells of one block: 0, 1: the mutex; 2 .. 8: the Cond (2: L; 3, 4: the two counters of its list; 8: its copy check); 9: held.
-/
import Derived.Test.Qxb6614993aRows
import Derived.Test.Qxb6614993aCond
import Derived.Conc.MuLone
import Derived.WalkKit
import Derived.OpenShut
namespace Go.Proofs.Qxb6614993a
open Go.RowKit
open Go.MuLone

/-- Of the world nothing but cells of block b has turned. -/
structure Step (b : Nat) (w w' : World) : Prop where
  grown : ∀ W : World, W.heap.size ≤ b → Grown W w → Grown W w'
  cell : ∀ a : Addr, a.block ≠ b → w'.cell? a = w.cell? a
  frozen : ∀ a : Addr, w'.frozen? a = w.frozen? a
  size : w'.heap.size = w.heap.size

theorem Step.refl (b : Nat) (w : World) : Step b w w := ⟨fun _ _ h => h, fun _ _ => rfl, fun _ => rfl, rfl⟩
theorem Step.set {b : Nat} {w w' : World} (h : Step b w w') (o : Nat) (v : Value) : Step b w (w'.setCell ⟨b, o, none⟩ v) :=
  ⟨fun W hb hg => (h.grown W hb hg).setCell hb v, fun a ha => (World.cell?_setCell_other w' ⟨b, o, none⟩ a v (fun e => ha (by rw [← e]))).trans (h.cell a ha),
    fun a => by simp [h.frozen a], by simp [h.size]⟩

theorem Step.trans {b : Nat} {w w' w2 : World} (h : Step b w w') (k : Step b w' w2) : Step b w w2 :=
  ⟨fun W hb hg => k.grown W hb (h.grown W hb hg), fun a ha => (k.cell a ha).trans (h.cell a ha), fun a => (k.frozen a).trans (h.frozen a), k.size.trans h.size⟩

/-- Block b is a counter that holds h, its mutex free, nobody waiting at its Cond. -/
structure Ctr (b : Nat) (h : Int) (w : World) : Prop where
  c0 : w.cell? ⟨b, 0, none⟩ = some (.int .i32 0)
  c3 : w.cell? ⟨b, 3, none⟩ = some (.int .u32 0)
  c4 : w.cell? ⟨b, 4, none⟩ = some (.int .u32 0)
  c8 : w.cell? ⟨b, 8, none⟩ = some (.int .u64 0) ∨ w.cell? ⟨b, 8, none⟩ = some (.pointer (some ⟨b, 8, none⟩))
  c9 : w.cell? ⟨b, 9, none⟩ = some (.int .i64 h)
  f : ∀ o, w.frozen? ⟨b, o, none⟩ = false

theorem Ctr.other {b b' : Nat} {h : Int} {w w' : World} (c : Ctr b h w) (s : Step b' w w') (hne : b ≠ b') : Ctr b h w' :=
  ⟨(s.cell _ hne).trans c.c0, (s.cell _ hne).trans c.c3, (s.cell _ hne).trans c.c4, by rw [s.cell ⟨b, 8, none⟩ hne]; exact c.c8, (s.cell _ hne).trans c.c9, fun o => (s.frozen _).trans (c.f o)⟩

theorem Ctr.kept {b : Nat} {h : Int} {w w' : World} (c : Ctr b h w) (hc : ∀ o, w'.cell? ⟨b, o, none⟩ = w.cell? ⟨b, o, none⟩) (hf : ∀ a : Addr, w'.frozen? a = w.frozen? a) : Ctr b h w' :=
  ⟨(hc _).trans c.c0, (hc _).trans c.c3, (hc _).trans c.c4, by rw [hc 8]; exact c.c8, (hc _).trans c.c9, fun o => (hf _).trans (c.f o)⟩

set_option maxHeartbeats 800000 in
/-- '(*sync.Cond).Broadcast', the Cond never used. -/
theorem broadcast_fresh (b : Nat) (w : World) (h3 : w.cell? ⟨b, 3, none⟩ = some (.int .u32 0)) (h4 : w.cell? ⟨b, 4, none⟩ = some (.int .u32 0))
    (h8 : w.cell? ⟨b, 8, none⟩ = some (.int .u64 0)) (f8 : w.frozen? ⟨b, 8, none⟩ = false) :
    Calls Try.prog 11 #[.pointer (some ⟨b, 2, none⟩)] w fun e w' => e = .returned (.tuple #[]) ∧ w' = w.setCell ⟨b, 8, none⟩ (.pointer (some ⟨b, 8, none⟩)) := by
  have hk := run_check_fresh h8 f8
  have hn := run_notifyAll_none (w := w.setCell ⟨b, 8, none⟩ (.pointer (some ⟨b, 8, none⟩)))
    ((World.cell?_setCell_other w ⟨b, 8, none⟩ ⟨b, 3, none⟩ _ (by simp)).trans h3) ((World.cell?_setCell_other w ⟨b, 8, none⟩ ⟨b, 4, none⟩ _ (by simp)).trans h4)
  go_enter Try.func11, Try.ntmps11
  go_wp2
  go_end0
  exact ⟨rfl, rfl⟩

set_option maxHeartbeats 800000 in
/-- '(*sync.Cond).Broadcast', the Cond used before. -/
theorem broadcast_self (b : Nat) (w : World) (h3 : w.cell? ⟨b, 3, none⟩ = some (.int .u32 0)) (h4 : w.cell? ⟨b, 4, none⟩ = some (.int .u32 0))
    (h8 : w.cell? ⟨b, 8, none⟩ = some (.pointer (some ⟨b, 8, none⟩))) :
    Calls Try.prog 11 #[.pointer (some ⟨b, 2, none⟩)] w fun e w' => e = .returned (.tuple #[]) ∧ w' = w := by
  have hk := run_check_self h8
  have hn := run_notifyAll_none h3 h4
  go_enter Try.func11, Try.ntmps11
  go_wp2
  go_end0
  exact ⟨rfl, rfl⟩

theorem broadcast_any (b : Nat) (w : World) (h3 : w.cell? ⟨b, 3, none⟩ = some (.int .u32 0)) (h4 : w.cell? ⟨b, 4, none⟩ = some (.int .u32 0))
    (h8 : w.cell? ⟨b, 8, none⟩ = some (.int .u64 0) ∨ w.cell? ⟨b, 8, none⟩ = some (.pointer (some ⟨b, 8, none⟩))) (f8 : w.frozen? ⟨b, 8, none⟩ = false) :
    Calls Try.prog 11 #[.pointer (some ⟨b, 2, none⟩)] w fun e w' => e = .returned (.tuple #[]) ∧ Step b w w' ∧
      (∀ o, o ≠ 8 → w'.cell? ⟨b, o, none⟩ = w.cell? ⟨b, o, none⟩) ∧ w'.cell? ⟨b, 8, none⟩ = some (.pointer (some ⟨b, 8, none⟩)) := by
  rcases h8 with h | h
  · refine (broadcast_fresh b w h3 h4 h f8).mono ?_
    rintro e w' ⟨rfl, rfl⟩
    exact ⟨rfl, (Step.refl b w).set 8 _, fun o ho => World.cell?_setCell_other w _ _ _ (fun e => ho (by injection e with _ e2 _; exact e2.symm)), World.cell?_setCell_same w _ _ h⟩
  · refine (broadcast_self b w h3 h4 h).mono ?_
    rintro e w' ⟨rfl, rfl⟩
    exact ⟨rfl, Step.refl b _, fun _ _ => rfl, h⟩

set_option maxHeartbeats 800000 in
/-- '(*pipeCount).give'. -/
theorem give_any (b : Nat) (h n : Int) (w : World) (c : Ctr b h w) :
    Calls Try.prog 8 #[.pointer (some ⟨b, 0, none⟩), .int .i64 n] w fun e w' => e = .returned (.tuple #[]) ∧ Step b w w' ∧ Ctr b (wrap64 (h - n)) w' := by
  obtain ⟨c0, c3, c4, c8, c9, f⟩ := c
  have f0 := f 0
  have f8 := f 8
  have f9 := f 9
  have H8 : Hid (w.cell? ⟨b, 8, none⟩ = some (.int .u64 0) ∨ w.cell? ⟨b, 8, none⟩ = some (.pointer (some ⟨b, 8, none⟩))) := c8
  clear c8
  have HF : Hid (∀ o, w.frozen? ⟨b, o, none⟩ = false) := f
  clear f
  go_enter_defers Try.func8, Try.ntmps8
  go_wp2_with (go_at_call 9; refine (lock_free Try.muLib ⟨b, 0, none⟩ _ c0 f0).mono ?_; rintro e w' ⟨rfl, rfl⟩)
  have o9 : ∀ (W : World) (v : Value) (o : Nat), o ≠ 9 → (W.setCell ⟨b, 9, none⟩ v).cell? ⟨b, o, none⟩ = W.cell? ⟨b, o, none⟩ := fun W v o ho => World.cell?_setCell_other W ⟨b, 9, none⟩ ⟨b, o, none⟩ v (fun e => ho (by injection e with _ e2 _; exact e2.symm))
  have o0 : ∀ (W : World) (v : Value) (o : Nat), o ≠ 0 → (W.setCell ⟨b, 0, none⟩ v).cell? ⟨b, o, none⟩ = W.cell? ⟨b, o, none⟩ := fun W v o ho => World.cell?_setCell_other W ⟨b, 0, none⟩ ⟨b, o, none⟩ v (fun e => ho (by injection e with _ e2 _; exact e2.symm))
  generalize hw1 : (w.setCell ⟨b, 0, none⟩ (.int .i32 1)).setCell ⟨b, 9, none⟩ (.int .i64 (wrap64 (h - n))) = w1
  have s1 : Step b w w1 := hw1 ▸ ((Step.refl b w).set 0 _).set 9 _
  have k : ∀ o, o ≠ 9 → o ≠ 0 → w1.cell? ⟨b, o, none⟩ = w.cell? ⟨b, o, none⟩ := fun o h1 h2 => by rw [← hw1, o9 _ _ o h1, o0 _ _ o h2]
  have k0 : w1.cell? ⟨b, 0, none⟩ = some (.int .i32 1) := by rw [← hw1, o9 _ _ 0 (by decide)]; exact World.cell?_setCell_same w _ _ c0
  have k9 : w1.cell? ⟨b, 9, none⟩ = some (.int .i64 (wrap64 (h - n))) := by rw [← hw1]; exact World.cell?_setCell_same _ _ _ ((o0 w _ 9 (by decide)).trans c9)
  clear hw1
  refine (broadcast_any b w1 ((k 3 (by decide) (by decide)).trans c3) ((k 4 (by decide) (by decide)).trans c4) (by rw [k 8 (by decide) (by decide)]; exact H8.out) ((s1.frozen _).trans f8)).mono ?_
  rintro e w2 ⟨rfl, s2, k2, k28⟩
  have H2 : Hid (∀ o, o ≠ 8 → w2.cell? ⟨b, o, none⟩ = w1.cell? ⟨b, o, none⟩) := k2
  clear k2
  have HK : Hid (∀ o, o ≠ 9 → o ≠ 0 → w1.cell? ⟨b, o, none⟩ = w.cell? ⟨b, o, none⟩) := k
  clear k o9 o0
  go_wp2
  refine leaves_cons (f := 10) (args := #[.pointer (some ⟨b, 0, none⟩)]) (by simp) (by simp [go_sem]) ?_
  refine (unlock_deferred Try.muLib ⟨b, 0, none⟩ .returning _ ?_ ?_).mono ?_
  · exact (H2.out 0 (by decide)).trans k0
  · exact (s2.frozen _).trans ((s1.frozen _).trans f0)
  rintro e u' w'' ⟨rfl, rfl, rfl⟩
  have o0 : ∀ (v : Value) (o : Nat), o ≠ 0 → (w2.setCell ⟨b, 0, none⟩ v).cell? ⟨b, o, none⟩ = w2.cell? ⟨b, o, none⟩ := fun v o ho => World.cell?_setCell_other w2 ⟨b, 0, none⟩ ⟨b, o, none⟩ v (fun e => ho (by injection e with _ e2 _; exact e2.symm))
  have s3 : Step b w (w2.setCell ⟨b, 0, none⟩ (.int .i32 0)) := (Step.trans s1 s2).set 0 _
  refine ⟨_, results_none rfl _ _ _, rfl, s3, ⟨?_, ?_, ?_, ?_, ?_, fun o => (s3.frozen _).trans (HF.out o)⟩⟩
  · exact World.cell?_setCell_same w2 _ _ ((H2.out 0 (by decide)).trans k0)
  · exact (o0 _ 3 (by decide)).trans ((H2.out 3 (by decide)).trans ((HK.out 3 (by decide) (by decide)).trans c3))
  · exact (o0 _ 4 (by decide)).trans ((H2.out 4 (by decide)).trans ((HK.out 4 (by decide) (by decide)).trans c4))
  · exact Or.inr ((o0 _ 8 (by decide)).trans k28)
  · exact (o0 _ 9 (by decide)).trans ((H2.out 9 (by decide)).trans k9)

set_option maxHeartbeats 400000 in
/-- 'ZZgive'. -/
theorem zzgive_any (b : Nat) (h n : Int) (w : World) (c : Ctr b h w) :
    Calls Try.prog 6 #[.pointer (some ⟨b, 0, none⟩), .int .i64 n] w fun e w' => e = .returned (.tuple #[]) ∧ Step b w w' ∧ Ctr b (wrap64 (h - n)) w' := by
  have C : Hid (Ctr b h w) := c
  clear c
  go_enter Try.func6, Try.ntmps6
  go_wp2_with fail
  refine (give_any b h n _ C.out).mono ?_
  rintro e w' ⟨rfl, s, c'⟩
  go_wp2
  go_end0
  exact ⟨rfl, s, c'⟩

set_option maxHeartbeats 400000 in
/-- 'ZZheld'. -/
theorem zzheld_any (b : Nat) (h : Int) (w : World) (c : Ctr b h w) :
    Calls Try.prog 7 #[.pointer (some ⟨b, 0, none⟩)] w fun e w' => e = .returned (.int .i64 h) ∧ w = w' := by
  have c9 := c.c9
  clear c
  go_enter Try.func7, Try.ntmps7
  go_wp2
  go_ret
  exact ⟨rfl, rfl⟩

set_option maxHeartbeats 400000 in
/-- 'ZZnewPipeCount': a new block, which is a counter that holds h. -/
theorem zznew_any (h : Int) (w : World) :
    Calls Try.prog 5 #[.int .i64 h] w fun e w' => e = .returned (.pointer (some ⟨w.heap.size, 0, none⟩)) ∧ Ctr w.heap.size h w' ∧ w'.heap.size = w.heap.size + 1 ∧
      (∀ W : World, Grown W w → Grown W w') ∧ (∀ a : Addr, a.block < w.heap.size → w'.cell? a = w.cell? a) ∧ (∀ a : Addr, w'.frozen? a = w.frozen? a) := by
  go_enter Try.func5, Try.ntmps5
  go_wp2
  go_ret
  refine ⟨rfl, ⟨?_, ?_, ?_, ?_, ?_, ?_⟩, ?_, ?_, ?_, ?_⟩
  · simp [go_sem]
  · simp [go_sem]
  · simp [go_sem]
  · simp [go_sem]
  · simp [go_sem]
  · intro o; simp [go_sem]
  · simp [go_sem]
  · exact fun W hg => hg.alloc _ _
  · intro a ha; exact World.cell?_of_block (Below.heap_alloc w _ _ ha)
  · exact ((Grown.refl w).alloc _ _).2.1

/-! ### The plain arithmetic -/
theorem wrap_two (h a b : Int) : wrap64 (wrap64 (h - a) - b) = wrap64 (wrap64 (h - b) - a) := by unfold wrap64; omega
theorem wrap_sum (h a b : Int) : wrap64 (h - wrap64 (a + b)) = wrap64 (wrap64 (h - a) - b) := by unfold wrap64; omega
theorem wrap_back (h n : Int) (w : (Lit.int .i64 h).wf = true) : wrap64 (wrap64 (h - n) - wrap64 (-n)) = h := by
  have := bounds_i64 w
  unfold wrap64; omega
end Go.Proofs.Qxb6614993a
