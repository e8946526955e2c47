/-
  MEMBER LISTS OF THE CALL's OWN; the walks of Configuration.Addr, zzToConfig, zzCloneMembers, slices.Clone.
-/
import Derived.Test.Qxb6615757aCfg
import Derived.Laws.OwnMore
import Derived.Laws.MakeOwn
namespace Go.Proofs.Qxb6615757a
open Go.RowKit

/-- the cells of a list of members -/
def flat : List Mem → List Value
  | [] => []
  | m :: ms => .int .i64 m.1 :: .string m.2 :: flat ms
theorem flat_length (ms : List Mem) : (flat ms).length = ms.length * 2 := by
  induction ms with
  | nil => rfl
  | cons m ms ih => simp only [flat, List.length_cons, ih]; omega
theorem flat_get (ms : List Mem) (i : Nat) (m : Mem) (h : ms[i]? = some m) : (flat ms)[i * 2]? = some (.int .i64 m.1) ∧ (flat ms)[i * 2 + 1]? = some (.string m.2) := by
  induction ms generalizing i with
  | nil => simp at h
  | cons x ms ih =>
    cases i with
    | zero => simp at h; subst h; exact ⟨rfl, rfl⟩
    | succ i =>
      simp only [List.getElem?_cons_succ] at h
      obtain ⟨h0, h1⟩ := ih i h
      rw [show (i + 1) * 2 = i * 2 + 1 + 1 from by omega]
      simp only [flat, List.getElem?_cons_succ]
      exact ⟨h0, h1⟩
theorem flat_one (ms : List Mem) : ∀ u ∈ flat ms, u.oneCell' = true := by
  induction ms with
  | nil => intro u h; simp [flat] at h
  | cons m ms ih =>
    intro u h
    simp only [flat, List.mem_cons] at h
    rcases h with rfl | rfl | h
    · rfl
    · rfl
    · exact ih u h
theorem flat_append (a b : List Mem) : flat (a ++ b) = flat a ++ flat b := by
  induction a with
  | nil => rfl
  | cons m a ih => simp only [List.cons_append, flat, ih]
/-- what lies at every place is what the list says -/
theorem flat_of {xs : List Value} {ms : List Mem} (hl : xs.length = ms.length * 2) (h : ∀ (i : Nat) (m : Mem), ms[i]? = some m → xs[i * 2]? = some (.int .i64 m.1) ∧ xs[i * 2 + 1]? = some (.string m.2)) : xs = flat ms := by
  induction ms generalizing xs with
  | nil => simp at hl; subst hl; rfl
  | cons m ms ih =>
    match xs, hl with
    | x :: y :: xs, hl =>
      obtain ⟨h0, h1⟩ := h 0 m rfl
      simp at h0 h1
      subst h0 h1
      simp only [flat, List.cons.injEq, true_and]
      refine ih (by simp at hl; omega) (fun i m' hm => ?_)
      have := h (i + 1) m' (by simpa using hm)
      rw [show (i + 1) * 2 = i * 2 + 1 + 1 from by omega] at this
      simpa only [List.getElem?_cons_succ] using this
    | [], hl => simp at hl
    | [x], hl => simp at hl; omega

/-- A slice v of members (elements of type e) of the call's own -/
def Own (base : Nat) (e : TypeId) (w : World) (v : Value) (ms : List Mem) : Prop := w.ownsRow base e 2 v ms.length (flat ms)
theorem Own.slice {base : Nat} {e : TypeId} {w : World} {v : Value} {ms : List Mem} (h : Own base e w v ms) : ∃ a cap, v = .slice a ms.length cap ∧ MsAt w a ms := by
  have h0 : w.ownsRow base e 2 v ms.length (flat ms) := h
  obtain ⟨_, ⟨rfl, hn⟩ | ⟨g, cap, cur, rfl, r⟩⟩ := h
  · have : ms = [] := List.eq_nil_of_length_eq_zero hn
    subst this
    exact ⟨none, 0, rfl, fun i m hi => by simp at hi⟩
  · refine ⟨some ⟨g, 0, none⟩, cap, rfl, fun i m hi => ?_⟩
    have hlt := (List.getElem?_eq_some_iff.1 hi).1
    obtain ⟨f0, f1⟩ := flat_get ms i m hi
    refine ⟨g, 0, rfl, ?_, ?_⟩
    · rw [Nat.zero_add, h0.cellAt _ (by omega)]; exact f0
    · rw [Nat.zero_add, h0.cellAt _ (by omega)]; exact f1
theorem Own.kept {base : Nat} {e : TypeId} {w w' : World} {v : Value} {ms : List Mem} (h : Own base e w v ms) (hg : w.grownBy w' none) : Own base e w' v ms := by
  refine World.ownsRow.kept h hg ?_
  cases hv : v.ownBlock with
  | none => exact .inl rfl
  | some k => exact .inr (by simp)
theorem Own.base {b b' : Nat} {e : TypeId} {w : World} {v : Value} {ms : List Mem} (h : Own b e w v ms) (hb : b' ≤ b) : Own b' e w v ms := by
  obtain ⟨h1, h2 | ⟨g, cap, cur, r1, r2, r⟩⟩ := h
  · exact ⟨h1, .inl h2⟩
  · exact ⟨h1, .inr ⟨g, cap, cur, r1, Nat.le_trans hb r2, r⟩⟩

theorem info57 : ∃ i, Try.prog.info? 57 = some i ∧ i.zero = some (.agg #[.int .i64 0, .string ⟨#[]⟩]) ∧ i.size = 2 ∧ i.bytes = 24 := by
  have h : (Try.prog.info? 57).map (fun i => (i.zero, i.size, i.bytes)) = some (some (.agg #[.int .i64 0, .string ⟨#[]⟩]), 2, 24) := by kernel_rfl
  cases e : Try.prog.info? 57 with
  | none => rw [e] at h; cases h
  | some i => rw [e] at h; simp at h; exact ⟨i, rfl, h.1, h.2.1, h.2.2⟩
theorem info37 : ∃ i, Try.prog.info? 37 = some i ∧ i.zero = some (.agg #[.int .i64 0, .string ⟨#[]⟩]) ∧ i.size = 2 ∧ i.bytes = 24 := by
  have h : (Try.prog.info? 37).map (fun i => (i.zero, i.size, i.bytes)) = some (some (.agg #[.int .i64 0, .string ⟨#[]⟩]), 2, 24) := by kernel_rfl
  cases e : Try.prog.info? 37 with
  | none => rw [e] at h; cases h
  | some i => rw [e] at h; simp at h; exact ⟨i, rfl, h.1, h.2.1, h.2.2⟩

/-- what Addr answers -/
def adr : Option ByteArray → Value
  | some s => .tuple #[.string s, .bool true]
  | none => .tuple #[.string ⟨#[]⟩, .bool false]
set_option maxHeartbeats 1000000 in
theorem addr_c (a : Option Addr) (cap : Nat) (ms : List Mem) (id : Int) (w : World) (hl : ms.length ≤ maxLen) (hs : MsAt w a ms) :
    Calls Try.prog 35 #[.slice a ms.length cap, .int .i64 id] w fun e w' => e = .returned (adr (look ms id)) ∧ w.grownBy w' none := by
  have HS : Hid (MsAt w a ms ∧ ms.length ≤ maxLen) := ⟨hs, hl⟩
  have hl2 : (ms.length : Int) ≤ 9223372036854775807 := by have : maxLen = 9223372036854775807 := rfl; omega
  clear hs hl
  go_enter Try.func35, Try.ntmps35
  go_wp2_with fail
  have g0 := World.grownBy_alloc w (.cells #[.int .i64 id] 3) none
  refine (indexFunc_c a cap ms w.heap.size id (w.alloc (.cells #[.int .i64 id] 3)) HS.out.2 (HS.out.1.kept g0) (by simp) (World.cell?_alloc_at _ _ _ _ rfl)).mono ?_
  rintro e1 w1 ⟨rfl, hg1⟩
  have G1 : Hid (w.grownBy w1 none) := grown_trans g0 hg1
  clear hg1 g0
  cases hf : findAt ms id with
  | none =>
    have HL : Hid (look ms id = none) := by unfold look; rw [hf]; trivial
    simp only [idxVal]
    clear hf
    go_wp2
    go_ret2
    exact ⟨by rw [HL.out]; rfl, G1.out⟩
  | some k =>
    have hk : k < ms.length := by
      unfold findAt at hf
      rw [List.findIdx?_eq_some_iff_getElem] at hf
      exact hf.1
    obtain ⟨m, hm⟩ : ∃ m, ms[k]? = some m := ⟨ms[k], List.getElem?_eq_getElem hk⟩
    have HL : Hid (look ms id = some m.2) := by unfold look; rw [hf]; show ms[k]?.map (·.2) = _; rw [hm]; rfl
    obtain ⟨b, off, ea, c0, c1⟩ := (HS.out.1 k m hm).kept G1.out
    subst ea
    simp only [idxVal]
    clear hf hm
    go_wp2
    go_ret2
    exact ⟨by rw [HL.out]; rfl, G1.out⟩
end Go.Proofs.Qxb6615757a
