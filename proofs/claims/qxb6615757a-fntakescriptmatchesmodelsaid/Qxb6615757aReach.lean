/-
  The walk of (Configuration).reachedAs.
-/
import Derived.Test.Qxb6615757aCfg4
namespace Go.Proofs.Qxb6615757a
open Go.RowKit

/-- a member as it is reached -/
def rch (mine : List Mem) (m : Mem) : Mem := (m.1, (look mine m.1).getD m.2)
def reach (ms mine : List Mem) : List Mem := ms.map (rch mine)
/-- the first k have been turned -/
def mix (ms mine : List Mem) (k : Nat) : List Mem := (ms.take k).map (rch mine) ++ ms.drop k
theorem mix_length (ms mine : List Mem) (k : Nat) : (mix ms mine k).length = ms.length := by unfold mix; simp; omega
theorem mix_get {ms mine : List Mem} {k : Nat} (hk : k < ms.length) : (mix ms mine k)[k]? = ms[k]? := by
  unfold mix
  rw [List.getElem?_append_right (by simp; omega)]
  simp [Nat.min_eq_left (Nat.le_of_lt hk)]
theorem mix_succ {ms mine : List Mem} {k : Nat} {m : Mem} (hm : ms[k]? = some m) : mix ms mine (k + 1) = (mix ms mine k).set k (rch mine m) := by
  have hk := (List.getElem?_eq_some_iff.1 hm).1
  apply List.ext_getElem?
  intro i
  unfold mix
  by_cases h : i < k
  · rw [List.getElem?_set_ne (by omega), List.getElem?_append_left (by simp; omega), List.getElem?_append_left (by simp; omega), List.getElem?_map, List.getElem?_map, List.getElem?_take, List.getElem?_take, if_pos (by omega), if_pos h]
  · by_cases e : i = k
    · subst e
      rw [List.getElem?_set_self (by simp; omega), List.getElem?_append_left (by simp; omega), List.getElem?_map, List.getElem?_take, if_pos (by omega), hm]
      rfl
    · rw [List.getElem?_set_ne (by omega), List.getElem?_append_right (by simp; omega), List.getElem?_append_right (by simp; omega)]
      simp only [List.length_map, List.length_take, List.getElem?_drop]
      congr 1
      omega
theorem mix_all (ms mine : List Mem) : mix ms mine ms.length = reach ms mine := by unfold mix reach; simp
theorem flat_set (l : List Mem) (k : Nat) (m : Mem) (s : ByteArray) (h : l[k]? = some m) : flat (l.set k (m.1, s)) = (flat l).set (k * 2 + 1) (.string s) := by
  induction l generalizing k with
  | nil => simp at h
  | cons x l ih =>
    cases k with
    | zero =>
      simp at h
      subst h
      rfl
    | succ k =>
      simp only [List.getElem?_cons_succ] at h
      rw [show (k + 1) * 2 + 1 = (k * 2 + 1) + 1 + 1 from by omega]
      simp only [List.set_cons_succ, flat, ih k h]
theorem set_same_list (l : List Mem) (k : Nat) (m : Mem) (h : l[k]? = some m) : l.set k m = l := by
  obtain ⟨hk, e⟩ := List.getElem?_eq_some_iff.1 h
  rw [← e]
  exact List.set_getElem_self hk

set_option maxRecDepth 100000 in
set_option maxHeartbeats 2000000 in
theorem reachedAs_c (a a2 : Option Addr) (cap cap2 : Nat) (ms mine : List Mem) (w : World) (hl : ms.length ≤ 1048576) (hs : MsAt w a ms) (hn : a = none → ms = []) (hl2 : mine.length ≤ 1048576) (hs2 : MsAt w a2 mine) :
    Calls Try.prog 37 #[.slice a ms.length cap, .slice a2 mine.length cap2] w fun e w' => ∃ va vc, e = .returned (.slice va ms.length vc) ∧ Own w.heap.size 57 w' (.slice va ms.length vc) (reach ms mine) ∧ (va = none ↔ a = none) ∧ w.grownBy w' none := by
  have HS : Hid (MsAt w a ms ∧ (a = none → ms = []) ∧ MsAt w a2 mine ∧ mine.length ≤ 1048576 ∧ ms.length ≤ 1048576) := ⟨hs, hn, hs2, hl2, hl⟩
  have hli : (ms.length : Int) ≤ 1048576 := by omega
  have hli2 : (mine.length : Int) ≤ 1048576 := by omega
  clear hs hn hs2 hl hl2
  go_enter Try.func37, Try.ntmps37
  go_wp2_with fail
  refine (clone_c a cap ms w HS.out.2.2.2.2 HS.out.1 HS.out.2.1).mono ?_
  rintro e1 w1 ⟨v, rfl, hown, hnil, hg1⟩
  obtain ⟨va, vc, rfl, -⟩ := hown.slice
  have O1 : Hid (Own w.heap.size 57 w1 (.slice va ms.length vc) ms ∧ (va = none ↔ a = none) ∧ w.grownBy w1 none) := by
    refine ⟨hown, ⟨fun e => ?_, fun e => ?_⟩, hg1⟩
    · subst e
      have h0 : w1.ownsRow w.heap.size 57 2 (.slice none ms.length vc) ms.length (flat ms) := hown
      obtain ⟨_, ⟨e, _⟩ | ⟨g, c, cur, e, _⟩⟩ := h0
      · exact hnil.1 e
      · cases e
    · have h := hnil.2 e
      injection h with h1 _ _
  clear hown hnil hg1
  go_wp2_with fail
  go_loopg [14] ms.length (fun gg i wr => ∃ k : Nat, k ≤ ms.length ∧ gg = ms.length - k ∧ i = .int .i64 k ∧ Own w.heap.size 57 wr (.slice va ms.length vc) (mix ms mine k) ∧ w.grownBy wr none)
  case atStart => exact ⟨0, Nat.zero_le _, rfl, rfl, O1.out.1, O1.out.2.2⟩
  case round =>
    obtain ⟨k, hk, hgg, rfl, hown, hgr⟩ := hrel
    have MD : Hid (Own w.heap.size 57 wr (.slice va ms.length vc) (mix ms mine k) ∧ w.grownBy wr none ∧ gk = ms.length - k) := ⟨hown, hgr, hgg⟩
    by_cases hlt : k < ms.length
    · obtain ⟨m, hm⟩ : ∃ m, ms[k]? = some m := ⟨ms[k], List.getElem?_eq_getElem hlt⟩
      have HM : Hid (ms[k]? = some m) := hm
      have hva : ∃ g, va = some ⟨g, 0, none⟩ ∧ w.heap.size ≤ g ∧ wr.cell? ⟨g, k * 2, none⟩ = some (.int .i64 m.1) ∧ wr.cell? ⟨g, k * 2 + 1, none⟩ = some (.string m.2) := by
        have h0 : wr.ownsRow w.heap.size 57 2 (.slice va ms.length vc) (mix ms mine k).length (flat (mix ms mine k)) := hown
        have h1 := h0
        rw [mix_length] at h1
        have h2 := h1
        obtain ⟨f0, f1⟩ := flat_get (mix ms mine k) k m ((mix_get hlt).trans hm)
        obtain ⟨_, ⟨e, hn⟩ | ⟨g, c, cur, e, r1, _⟩⟩ := h1
        · omega
        · cases e
          refine ⟨g, rfl, r1, ?_, ?_⟩
          · rw [h2.cellAt _ (by omega)]; exact f0
          · rw [h2.cellAt _ (by omega)]; exact f1
      obtain ⟨g, rfl, hg0, c0, c1⟩ := hva
      have HG : Hid (w.heap.size ≤ g) := hg0
      clear hown hgr hgg hm hg0
      go_wp2_with fail
      have gb := World.grownBy_alloc wr (Obj.cells #[Value.int .i64 m.1, Value.string m.2] 57) none
      refine (addr_c a2 cap2 mine m.1 _ (by have := HS.out.2.2.2.1; have : maxLen = 9223372036854775807 := rfl; omega) ((HS.out.2.2.1.kept MD.out.2.1).kept gb)).mono ?_
      rintro e2 w3 ⟨rfl, hg3⟩
      have G3 : Hid (wr.grownBy w3 none) := grown_trans gb hg3
      clear gb hg3 c0 c1
      cases hlk : look mine m.1 with
      | none =>
        have HE : Hid (mix ms mine (k + 1) = mix ms mine k) := by
          rw [mix_succ HM.out, show rch mine m = m from by unfold rch; rw [hlk]; rfl]
          exact set_same_list _ _ _ ((mix_get hlt).trans HM.out)
        simp only [adr]
        clear hlk
        go_wp2_with fail
        go_roundg (ms.length - (k + 1))
        case measure => have := MD.out.2.2; omega
        case rel => exact ⟨k + 1, by omega, rfl, by go_num, by rw [HE.out]; exact MD.out.1.kept G3.out, grown_trans MD.out.2.1 G3.out⟩
      | some s =>
        have HE : Hid (mix ms mine (k + 1) = (mix ms mine k).set k (m.1, s)) := by
          rw [mix_succ HM.out, show rch mine m = (m.1, s) from by unfold rch; rw [hlk]; rfl]
          trivial
        simp only [adr]
        clear hlk
        have O3 : Hid (Own w.heap.size 57 w3 (.slice (some ⟨g, 0, none⟩) ms.length vc) (mix ms mine k)) := MD.out.1.kept G3.out
        have hrow : w3.ownsRow w.heap.size 57 2 (.slice (some ⟨g, 0, none⟩) ms.length vc) ms.length (flat (mix ms mine k)) := by
          have h := O3.out
          unfold Own at h
          rw [mix_length] at h
          exact h
        have HR : Hid (w3.ownsRow w.heap.size 57 2 (.slice (some ⟨g, 0, none⟩) ms.length vc) ms.length (flat (mix ms mine k))) := hrow
        obtain ⟨u1, d1⟩ : ∃ u, w3.cell? ⟨g, k * 2 + 1, none⟩ = some u := ⟨_, by rw [hrow.cellAt _ (by omega)]; exact (flat_get (mix ms mine k) k m ((mix_get hlt).trans HM.out)).2⟩
        have f1 : ∀ j, w3.frozen? ⟨g, j, none⟩ = false := fun j => hrow.frozenAt j
        clear hrow
        go_wp2_with fail
        go_roundg (ms.length - (k + 1))
        case measure => have := MD.out.2.2; omega
        case rel =>
          refine ⟨k + 1, by omega, rfl, by go_num, ?_, grown_set (grown_trans MD.out.2.1 G3.out) HG.out _⟩
          rw [HE.out]
          unfold Own
          rw [List.length_set, mix_length, flat_set _ _ _ _ ((mix_get hlt).trans HM.out)]
          exact (HR.out.stored (k * 2 + 1) (.string s)).1
    · have hkl : k = ms.length := by omega
      have HX : Hid (Own w.heap.size 57 wr (.slice va ms.length vc) (reach ms mine)) := by have h := MD.out.1; rw [hkl, mix_all] at h; exact h
      clear hown hgr hgg
      go_wp2
      go_ret
      exact ⟨_, _, rfl, HX.out, O1.out.2.1, MD.out.2.1⟩
end Go.Proofs.Qxb6615757a
