/-
  THE WALK of maps.Copy into an empty map of the call's own, in whatever order the entries come.
-/
import Derived.Test.Qxb6615757aMap
import Derived.Maps.Ext
import Derived.Maps.RangeWalk
import Derived.Laws.IdiomRangeMap
import Derived.WalkKit
namespace Go.Proofs.Qxb6615757a
open Go.RowKit Go.Maps

theorem frozen_beyond {w : World} {a : Addr} (h : w.heap.size ≤ a.block) : w.frozen? a = false := by
  unfold World.frozen?
  rw [Array.getElem?_eq_none h]

theorem turned_size {w w' : World} {b : Nat} (h : w.mapTurned w' b) : w'.heap.size = w.heap.size := by
  obtain ⟨_, _, _, _, _, rfl⟩ := h
  simp [Go.ChangeMaps.setBlock]

set_option maxRecDepth 100000 in
set_option maxHeartbeats 4000000 in
theorem copy_own (bd bs ns : Nat) (D0 : DataW Unit) (w : World) (hd : w.ownsMap Try.prog 9 pe bd 0 (.map [])) (hs : w.ownsMap Try.prog 9 pe bs ns D0) (hne : bd ≠ bs) (hroom : Maps.size D0 ≤ maxLen) :
    Calls Try.prog 53 #[.map (some bd), .map (some bs)] w fun e w' => e = .returned (.tuple #[]) ∧ w'.ownsMap Try.prog 9 pe bd (Maps.size D0) D0 ∧ w.grownBy w' (some bd) ∧ ∀ a, w'.frozen? a = w.frozen? a := by
  have hbd := hd.lt
  have hbs := hs.lt
  go_enter Try.func53, Try.ntmps53
  go_wp2_with (first
    | (at_range; refine wpList_range_own _ rfl _ 60 rfl 9 61 law9 Try.underlying60 pe bs ns _ rfl hs ?_; intro w0 hrg0 hg0 hs0)
    | go_in)
  go_frame
  go_loopw [8] (fun _ wr => ∃ (left : Lit → Bool) (cnt : Nat) (Dout : DataW Unit), wr.ranges Try.prog 9 pe bs w.heap.size ns D0 left cnt ∧ cnt ≤ Maps.size D0 ∧
      wr.ownsMap Try.prog 9 pe bd (Maps.size D0 - cnt) Dout ∧ Agree Dout D0 left ∧ w.grownBy wr (some bd) ∧ wr.heap.size = w.heap.size + 1)
    (fun _ wr => wr.rangeLeft bs w.heap.size)
  case atStart =>
    exact ⟨_, _, .map [], hrg0, Nat.le_refl _, (hd.kept hg0 (by simp)).mono (Nat.zero_le _), agree_start D0, hg0.but _, hs0⟩
  case round =>
    obtain ⟨left, cnt, Dout, hrg, hcs, hout, hA, hgw, hsz⟩ := hrel
    go_wp2_with (first
      | (at_next; refine wpList_next_ranges _ rfl _ rfl 9 law9 pe id id (fun key _ _ => ⟨key, rfl⟩) (fun v _ _ => ⟨v, rfl⟩) bs w.heap.size ns _ _ _ rfl hrg ?_ ?_)
      | go_in)
    · intro hc0 hl0
      go_wp2
      go_end0
      subst hc0
      have e := agree_end hA hl0 (hout.canon law9) (hs.canon law9)
      subst e
      refine ⟨rfl, by simpa using hout, hgw, fun a => ?_⟩
      by_cases h1 : a.block < w.heap.size
      · by_cases h2 : a.block = bd
        · obtain ⟨es, clock, hb, _⟩ := hout
          obtain ⟨es', clock', hb', _⟩ := hd
          unfold World.frozen?
          rw [h2, hb, hb']
        · exact World.frozen?_of_block (hgw.block a.block h1 (fun e => h2 (Option.some.inj e)))
      · rw [frozen_beyond (w := w) (by omega)]
        by_cases h2 : a.block = w.heap.size
        · obtain ⟨_, _, _, _, _, _, _, _, _, hit, _⟩ := hrg
          unfold World.frozen?
          rw [h2, hit]
        · exact frozen_beyond (by omega)
    · intro x c kl yd yp w1 cnt1 hkey hlx hv hat hrg1 hlt hg1 hs1 hen
      have hout1 := hout.kept hg1 (fun e => by have := Option.some.inj e; omega)
      obtain ⟨w2, hrun, hout2, ht⟩ := hout1.store law9 Try.underlying60 (by omega) hkey hv
      have hg2 : w1.grownBy w2 (some bd) := ht.grown
      go_wp2
      have hrg2 := hrg1.kept hg2 (fun e => hne (Option.some.inj e).symm) (fun e => by have := Option.some.inj e; omega)
      go_roundw
      case rel =>
        exact ⟨_, cnt1, _, hrg2, by omega, hout2.mono (by omega), agree_step hA hout.isMap (law9.key hkey) hat, (hgw.andThen hg1 (fun j hj => .inl (by cases hj; exact Nat.le_refl _))).andThen hg2 (fun j hj => .inr hj), (turned_size ht).trans hs1⟩
      case measure => rw [hrg2.left_eq, hrg.left_eq]; exact hlt

theorem copy_c (bd M : Nat) (tbl : List (ByteArray × Nat)) (w : World) (hd : w.ownsMap Try.prog 9 pe bd 0 (.map [])) (hs : PMap w M tbl) (hne : bd ≠ M) (hroom : tbl.length ≤ maxLen) :
    Calls Try.prog 53 #[.map (some bd), .map (some M)] w fun e w' => e = .returned (.tuple #[]) ∧ PMap w' bd tbl ∧ w.grownBy w' (some bd) ∧ ∀ a, w'.frozen? a = w.frozen? a := by
  obtain ⟨hn, n, D, ho, hsz, hx⟩ := hs
  refine (copy_own bd M n D w hd ho hne (by omega)).mono ?_
  rintro e w' ⟨he, h1, h2, h3⟩
  exact ⟨he, ⟨hn, _, D, h1, hsz, hx⟩, h2, h3⟩

set_option maxHeartbeats 2000000 in
theorem copy_nil (bd : Nat) (w : World) (hd : PMap w bd []) :
    Calls Try.prog 53 #[.map (some bd), .map none] w fun e w' => e = .returned (.tuple #[]) ∧ PMap w' bd [] ∧ w.grownBy w' (some bd) ∧ ∀ a, w'.frozen? a = w.frozen? a := by
  have hrg := run_range_nilMap (P := Try.prog) w 60 9 61 Try.underlying60
  have hnx : ∀ ty, (Instr.next (.pointer (some ⟨w.heap.size, 0, none⟩)) false ty).run Try.prog (w.alloc (.mapIter none 0 #[] 0)) = _ := fun ty => run_next_nilMap _ ty 0 0 #[]
  go_enter Try.func53, Try.ntmps53
  go_wp2
  refine wp_loop_rounds 1 ?_
  rw [rounds_succ]
  go_wp2
  go_end0
  refine ⟨rfl, hd.of_block ((World.grownBy_alloc w _ none).block bd hd.lt (by simp)), World.grownBy_alloc w _ _, fun a => ?_⟩
  by_cases h1 : a.block < w.heap.size
  · exact World.frozen?_of_block ((World.grownBy_alloc w (.mapIter none 0 #[] 0) none).block a.block h1 (by simp))
  · rw [frozen_beyond (w := w) (by omega)]
    by_cases h2 : a.block = w.heap.size
    · have hb : (w.alloc (.mapIter none 0 #[] 0)).heap[w.heap.size]? = some (.mapIter none 0 #[] 0) := by
        show (w.heap.push (.mapIter none 0 #[] 0))[w.heap.size]? = _
        simp
      unfold World.frozen?
      rw [h2, hb]
    · exact frozen_beyond (by simp; omega)
end Go.Proofs.Qxb6615757a
