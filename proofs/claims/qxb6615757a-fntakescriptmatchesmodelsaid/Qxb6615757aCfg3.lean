/-
  The walks of zzToConfig, zzCloneMembers, slices.Clone, zzSameConfig.
-/
import Derived.Test.Qxb6615757aCfg2
import Derived.Lib.SliceRun
namespace Go.Proofs.Qxb6615757a
open Go.RowKit

/-- some of the row has been laid -/
def Part (base : Nat) (e : TypeId) (w : World) (g n : Nat) (ms : List Mem) (k : Nat) : Prop :=
  ∃ xs, w.ownsRow base e 2 (.slice (some ⟨g, 0, none⟩) n n) n xs ∧ ∀ (i : Nat) (m : Mem), i < k → ms[i]? = some m → xs[i * 2]? = some (.int .i64 m.1) ∧ xs[i * 2 + 1]? = some (.string m.2)
theorem Part.cells {base : Nat} {e : TypeId} {w : World} {g n : Nat} {ms : List Mem} {k : Nat} (h : Part base e w g n ms k) (j : Nat) (hj : j < n * 2) : ∃ u, w.cell? ⟨g, j, none⟩ = some u := by
  obtain ⟨xs, h, _⟩ := h
  have hl : xs.length = n * 2 := h.1
  exact ⟨xs[j], by rw [h.cellAt j hj, List.getElem?_eq_getElem]⟩
theorem Part.frozen {base : Nat} {e : TypeId} {w : World} {g n : Nat} {ms : List Mem} {k : Nat} (h : Part base e w g n ms k) (j : Nat) : w.frozen? ⟨g, j, none⟩ = false := by
  obtain ⟨xs, h, _⟩ := h
  exact h.frozenAt j
theorem Part.lay {base : Nat} {e : TypeId} {w : World} {g n : Nat} {ms : List Mem} {k : Nat} {m : Mem} (h : Part base e w g n ms k) (hm : ms[k]? = some m) (hn : n = ms.length) :
    Part base e ((w.setCell ⟨g, k * 2, none⟩ (.int .i64 m.1)).setCell ⟨g, k * 2 + 1, none⟩ (.string m.2)) g n ms (k + 1) := by
  obtain ⟨xs, h, hx⟩ := h
  have hl : xs.length = n * 2 := h.1
  have hk := (List.getElem?_eq_some_iff.1 hm).1
  refine ⟨_, ((h.stored (k * 2) (.int .i64 m.1)).1.stored (k * 2 + 1) (.string m.2)).1, fun i m' hi hm' => ?_⟩
  by_cases e : i = k
  · subst e
    rw [hm] at hm'
    cases hm'
    rw [List.getElem?_set_ne (by omega), List.getElem?_set_self (by omega), List.getElem?_set_self (by simp; omega)]
    exact ⟨rfl, rfl⟩
  · rw [List.getElem?_set_ne (by omega), List.getElem?_set_ne (by omega), List.getElem?_set_ne (by omega), List.getElem?_set_ne (by omega)]
    exact hx i m' (by omega) hm'
theorem Part.all {base : Nat} {e : TypeId} {w : World} {g : Nat} {ms : List Mem} (h : Part base e w g ms.length ms ms.length) : Own base e w (.slice (some ⟨g, 0, none⟩) ms.length ms.length) ms := by
  obtain ⟨xs, h, hx⟩ := h
  have : xs = flat ms := flat_of h.1 (fun i m hi => hx i m (List.getElem?_eq_some_iff.1 hi).1 hi)
  subst this
  exact h
theorem Part.drew {base : Nat} {e : TypeId} {w : World} {g n : Nat} {ms : List Mem} {k : Nat} (h : Part base e w g n ms k) : Part base e w.drew g n ms k := h
theorem grown_set {w wr : World} (h : w.grownBy wr none) {a : Addr} (ha : w.heap.size ≤ a.block) (v : Value) : w.grownBy (wr.setCell a v) none :=
  ⟨h.os, h.tape, h.output, Nat.le_trans h.size (by simp [World.setCell]), fun i hi hn => (Below.heap_setCell _ _ _ _ (by omega)).trans (h.block i hi hn)⟩
theorem MsAt.cells {w : World} {ad : Addr} {ms : List Mem} (h : MsAt w (some ad) ms) (j : Nat) (u : Value) (hj : (flat ms)[j]? = some u) : w.cell? (ad.add j) = some u := by
  have hlt := (List.getElem?_eq_some_iff.1 hj).1
  rw [flat_length] at hlt
  have hi : j / 2 < ms.length := by omega
  obtain ⟨m, hm⟩ : ∃ m, ms[j / 2]? = some m := ⟨ms[j / 2], List.getElem?_eq_getElem hi⟩
  obtain ⟨f0, f1⟩ := flat_get ms _ m hm
  obtain ⟨b, off, ea, c0, c1⟩ := h _ m hm
  cases ea
  rw [Addr.add_lit]
  by_cases e : j % 2 = 0
  · have ej : j / 2 * 2 = j := by omega
    rw [ej] at f0 c0
    rw [f0] at hj
    rw [← hj]
    exact c0
  · have ej : j / 2 * 2 + 1 = j := by omega
    rw [ej] at f1
    rw [Nat.add_assoc, ej] at c1
    rw [f1] at hj
    rw [← hj]
    exact c1
theorem grown_row {w w0 w1 : World} (h : w.grownBy w0 none) {row : Option Nat} (hg : w0.grownBy w1 row) (hr : ∀ k, row = some k → w.heap.size ≤ k) : w.grownBy w1 none :=
  ⟨hg.os.trans h.os, hg.tape.trans h.tape, hg.output.trans h.output, Nat.le_trans h.size hg.size, fun i hi hn => (hg.block i (Nat.lt_of_lt_of_le hi h.size) (fun e => by have := hr i e.symm; omega)).trans (h.block i hi hn)⟩
theorem eql22 (w : World) (a : Option Addr) (n c : Nat) : (binOp .eql 22 (.slice a n c) (.slice none 0 0)).run Try.prog w = .ok (.bool a.isNone) w := Lib.run_eql_slice_nil w _ _ a n c 0 0 Try.underlying22
theorem eql29 (w : World) (a : Option Addr) (n c : Nat) : (binOp .eql 29 (.slice a n c) (.slice none 0 0)).run Try.prog w = .ok (.bool a.isNone) w := Lib.run_eql_slice_nil w _ _ a n c 0 0 Try.underlying29

set_option maxRecDepth 100000 in
set_option maxHeartbeats 1000000 in
theorem toConfig_c (a : Option Addr) (cap : Nat) (ms : List Mem) (w : World) (hl : ms.length ≤ 1048576) (hs : MsAt w a ms) (hn : a = none → ms = []) :
    Calls Try.prog 10 #[.slice a ms.length cap] w fun e w' => ∃ v, e = .returned v ∧ Own w.heap.size 57 w' v ms ∧ (v = .slice none 0 0 ↔ a = none) ∧ w.grownBy w' none := by
  cases a with
  | none =>
    have e := hn rfl
    subst e
    have heq := eql22 w none 0 cap
    go_enter Try.func10, Try.ntmps10
    go_wp2
    go_ret
    exact ⟨_, rfl, World.ownsRow_nil _ _ _ _, by simp, grown_refl w⟩
  | some ad =>
    obtain ⟨i0, hi, hz, hsz, hby⟩ := info57
    obtain ⟨w0, hmk, hown, hg0⟩ := run_make_full (P := Try.prog) w w.heap.size 29 57 i0 _ 2 Try.underlying29 hi hz hsz .i64 .i64 ms.length (by rw [hby]; omega) (by have : maxLen = 9223372036854775807 := rfl; omega) (Nat.le_refl _)
    have HS : Hid (MsAt w (some ad) ms) := hs
    have H0 : Hid (Part w.heap.size 57 w0 w.heap.size ms.length ms 0 ∧ w.grownBy w0 none) := ⟨⟨_, hown, fun i m h => by omega⟩, hg0⟩
    have hl2 : (ms.length : Int) ≤ 1048576 := by omega
    clear hs hn hi hz hsz hby hown hg0 hl
    have heq := eql22 w (some ad) ms.length cap
    go_enter Try.func10, Try.ntmps10
    go_wp2_with fail
    obtain ⟨g, hgeq⟩ : ∃ g, w.heap.size = g := ⟨_, rfl⟩
    have HG : Hid (w.heap.size = g) := hgeq
    rw [hgeq] at H0 ⊢
    clear hgeq hmk heq
    go_loopg [4] ms.length (fun gg i wr => ∃ k : Nat, k ≤ ms.length ∧ gg = ms.length - k ∧ i = .int .i64 k ∧ Part g 57 wr g ms.length ms k ∧ w.grownBy wr none)
    case atStart => exact ⟨0, Nat.zero_le _, rfl, rfl, H0.out.1, H0.out.2⟩
    case round =>
      obtain ⟨k, hk, hgg, rfl, hp, hgr⟩ := hrel
      have MD : Hid (Part g 57 wr g ms.length ms k ∧ w.grownBy wr none ∧ gk = ms.length - k) := ⟨hp, hgr, hgg⟩
      by_cases hlt : k < ms.length
      · obtain ⟨m, hm⟩ : ∃ m, ms[k]? = some m := ⟨ms[k], List.getElem?_eq_getElem hlt⟩
        have HM : Hid (ms[k]? = some m) := hm
        obtain ⟨b, off, ea, c0, c1⟩ := (HS.out k m hm).kept hgr
        cases ea
        obtain ⟨u0, d0⟩ := hp.cells (k * 2) (by omega)
        obtain ⟨u1, d1⟩ := hp.cells (k * 2 + 1) (by omega)
        have f0 := hp.frozen
        clear hm hp hgr hgg
        go_wp2_with fail
        go_region
        go_wp2_with fail
        go_roundg (ms.length - (k + 1))
        case measure => have := MD.out.2.2; omega
        case rel =>
          have hge : w.heap.size ≤ g := by rw [HG.out]; omega
          exact ⟨k + 1, by omega, rfl, by go_num, (MD.out.1.lay HM.out rfl).drew, grown_drewN (grown_set (grown_set MD.out.2.1 hge _) hge _) 1⟩
      · have hkl : k = ms.length := by omega
        have HP : Hid (Own g 57 wr (.slice (some ⟨g, 0, none⟩) ms.length ms.length) ms) := by subst hkl; exact hp.all
        clear hp hgr hgg
        go_wp2
        go_ret
        exact ⟨_, rfl, by rw [HG.out]; exact HP.out, by simp, MD.out.2.1⟩
set_option maxRecDepth 100000 in
set_option maxHeartbeats 1000000 in
theorem cloneMembers_c (a : Option Addr) (cap : Nat) (ms : List Mem) (w : World) (hl : ms.length ≤ 1048576) (hs : MsAt w a ms) (hn : a = none → ms = []) :
    Calls Try.prog 11 #[.slice a ms.length cap] w fun e w' => ∃ v, e = .returned v ∧ Own w.heap.size 37 w' v ms ∧ (v = .slice none 0 0 ↔ a = none) ∧ w.grownBy w' none := by
  cases a with
  | none =>
    have e := hn rfl
    subst e
    have heq := eql22 w none 0 cap
    go_enter Try.func11, Try.ntmps11
    go_wp2
    go_ret
    exact ⟨_, rfl, World.ownsRow_nil _ _ _ _, by simp, grown_refl w⟩
  | some ad =>
    obtain ⟨i0, hi, hz, hsz, hby⟩ := info37
    obtain ⟨w0, hmk, hown, hg0⟩ := run_make_full (P := Try.prog) w w.heap.size 22 37 i0 _ 2 Try.underlying22 hi hz hsz .i64 .i64 ms.length (by rw [hby]; omega) (by have : maxLen = 9223372036854775807 := rfl; omega) (Nat.le_refl _)
    have HS : Hid (MsAt w (some ad) ms) := hs
    have H0 : Hid (Part w.heap.size 37 w0 w.heap.size ms.length ms 0 ∧ w.grownBy w0 none) := ⟨⟨_, hown, fun i m h => by omega⟩, hg0⟩
    have hl2 : (ms.length : Int) ≤ 1048576 := by omega
    clear hs hn hi hz hsz hby hown hg0 hl
    have heq := eql22 w (some ad) ms.length cap
    go_enter Try.func11, Try.ntmps11
    go_wp2_with fail
    obtain ⟨g, hgeq⟩ : ∃ g, w.heap.size = g := ⟨_, rfl⟩
    have HG : Hid (w.heap.size = g) := hgeq
    rw [hgeq] at H0 ⊢
    clear hgeq hmk heq
    go_loopg [4] ms.length (fun gg i wr => ∃ k : Nat, k ≤ ms.length ∧ gg = ms.length - k ∧ i = .int .i64 k ∧ Part g 37 wr g ms.length ms k ∧ w.grownBy wr none)
    case atStart => exact ⟨0, Nat.zero_le _, rfl, rfl, H0.out.1, H0.out.2⟩
    case round =>
      obtain ⟨k, hk, hgg, rfl, hp, hgr⟩ := hrel
      have MD : Hid (Part g 37 wr g ms.length ms k ∧ w.grownBy wr none ∧ gk = ms.length - k) := ⟨hp, hgr, hgg⟩
      by_cases hlt : k < ms.length
      · obtain ⟨m, hm⟩ : ∃ m, ms[k]? = some m := ⟨ms[k], List.getElem?_eq_getElem hlt⟩
        have HM : Hid (ms[k]? = some m) := hm
        obtain ⟨b, off, ea, c0, c1⟩ := (HS.out k m hm).kept hgr
        cases ea
        obtain ⟨u0, d0⟩ := hp.cells (k * 2) (by omega)
        obtain ⟨u1, d1⟩ := hp.cells (k * 2 + 1) (by omega)
        have f0 := hp.frozen
        clear hm hp hgr hgg
        go_wp2_with fail
        go_roundg (ms.length - (k + 1))
        case measure => have := MD.out.2.2; omega
        case rel =>
          have hge : w.heap.size ≤ g := by rw [HG.out]; omega
          exact ⟨k + 1, by omega, rfl, by go_num, MD.out.1.lay HM.out rfl, grown_set (grown_set MD.out.2.1 hge _) hge _⟩
      · have hkl : k = ms.length := by omega
        have HP : Hid (Own g 37 wr (.slice (some ⟨g, 0, none⟩) ms.length ms.length) ms) := by subst hkl; exact hp.all
        clear hp hgr hgg
        go_wp2
        go_ret
        exact ⟨_, rfl, by rw [HG.out]; exact HP.out, by simp, MD.out.2.1⟩

set_option maxRecDepth 100000 in
set_option maxHeartbeats 1000000 in
theorem clone_c (a : Option Addr) (cap : Nat) (ms : List Mem) (w : World) (hl : ms.length ≤ 1048576) (hs : MsAt w a ms) (hn : a = none → ms = []) :
    Calls Try.prog 42 #[.slice a ms.length cap] w fun e w' => ∃ v, e = .returned v ∧ Own w.heap.size 57 w' v ms ∧ (v = .slice none 0 0 ↔ a = none) ∧ w.grownBy w' none := by
  cases a with
  | none =>
    have e := hn rfl
    subst e
    have heq := eql29 w none 0 cap
    go_enter Try.func42, Try.ntmps42
    go_wp2
    go_ret
    exact ⟨_, rfl, World.ownsRow_nil _ _ _ _, by simp, grown_refl w⟩
  | some ad =>
    obtain ⟨i0, hi, hz, hsz, hby⟩ := info57
    have HS : Hid (MsAt w (some ad) ms) := hs
    have heq := eql29 w (some ad) ms.length cap
    have hm : maxLen = 9223372036854775807 := rfl
    clear hs hn
    go_enter Try.func42, Try.ntmps42
    go_wp2_with (at_builtin; refine wpList_append_own _ rfl _ _ 29 rfl w.heap.size 57 i0 _ 2 24 Try.underlying29 hi hz hsz hby rfl (by omega) _ _ _ rfl (World.ownsRow_made w #[] 0 (Nat.le_refl _) (Nat.zero_le _) (by simp)) ad ms.length cap (flat ms) rfl ?qc1 ?qc2 ?qc3 ?qc4 ?qc5 ?qc6 ?_)
    case qc1 => exact flat_length ms
    case qc2 =>
      intro j u hj
      exact (World.grownBy_alloc w (Obj.cells #[] 57) none).cell (HS.out.cells j u hj) (by simp)
    case qc3 => exact flat_one ms
    case qc4 => rw [Nat.zero_add]; omega
    case qc5 => rw [Nat.zero_add]; omega
    case qc6 => simp
    intro v' w1 hown hgrow hnil
    go_wp2
    go_ret
    exact ⟨v', rfl, hown, by simp [hnil], grown_row (World.grownBy_alloc w _ none) hgrow (fun k hk => by simp [Value.ownBlock] at hk; omega)⟩
end Go.Proofs.Qxb6615757a
