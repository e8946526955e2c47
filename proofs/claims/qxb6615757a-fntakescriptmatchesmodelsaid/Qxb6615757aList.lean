/-
  A DOUBLY LINKED LIST told by the list of its nodes' blocks, over a function from block and offset to what lies there. No world, no program.
-/
import Derived.Test.Qxb6615757aMap
namespace Go.Proofs.Qxb6615757a

abbrev Cells := Nat → Nat → Option Value
def upd (f : Cells) (b o : Nat) (v : Value) : Cells := fun b' o' => if b' = b ∧ o' = o then some v else f b' o'
theorem upd_same (f : Cells) (b o : Nat) (v : Value) : upd f b o v b o = some v := by simp [upd]
theorem upd_off (f : Cells) {b b' o o' : Nat} (v : Value) (h : o' ≠ o) : upd f b o v b' o' = f b' o' := by simp [upd, h]
theorem upd_blk (f : Cells) {b b' o o' : Nat} (v : Value) (h : b' ≠ b) : upd f b o v b' o' = f b' o' := by simp [upd, h]

/-- the one ahead of place i -/
def before (B : List Nat) (i : Nat) : Option Nat := if i = 0 then none else B[i - 1]?

structure Lk (f : Cells) (sb : Nat) (B : List Nat) : Prop where
  old : f sb 1 = some (ptr B[0]?)
  new : f sb 2 = some (ptr B[B.length - 1]?)
  prv : ∀ i b, B[i]? = some b → f b 5 = some (ptr (before B i))
  nxt : ∀ i b, B[i]? = some b → f b 6 = some (ptr B[i + 1]?)

theorem place_inj {B : List Nat} (hn : B.Nodup) {i j x : Nat} (hi : B[i]? = some x) (hj : B[j]? = some x) : i = j := by
  obtain ⟨a1, b1⟩ := List.getElem?_eq_some_iff.1 hi
  obtain ⟨a2, b2⟩ := List.getElem?_eq_some_iff.1 hj
  exact (List.getElem_inj hn).1 (b1.trans b2.symm)

/-- what push leaves -/
def pushed (f : Cells) (sb : Nat) (B : List Nat) (b : Nat) : Cells :=
  match B[B.length - 1]? with
  | some l => upd (upd (upd f b 5 (ptr (some l))) l 6 (ptr (some b))) sb 2 (ptr (some b))
  | none => upd (upd (upd f b 5 (ptr none)) sb 1 (ptr (some b))) sb 2 (ptr (some b))
theorem Lk.push {f : Cells} {sb : Nat} {B : List Nat} (h : Lk f sb B) (hn : B.Nodup) {b : Nat} (hb : b ∉ B) (hs : sb ∉ B) (hbs : b ≠ sb) (h6 : f b 6 = some (ptr none)) : Lk (pushed f sb B b) sb (B ++ [b]) := by
  have ne : ∀ i x, B[i]? = some x → x ≠ b ∧ x ≠ sb := fun i x hx => ⟨fun e => hb (e ▸ List.mem_of_getElem? hx), fun e => hs (e ▸ List.mem_of_getElem? hx)⟩
  unfold pushed
  cases hl : B[B.length - 1]? with
  | none =>
    have hB : B = [] := by
      cases B with
      | nil => rfl
      | cons x l => simp at hl
    subst hB
    simp only [List.nil_append]
    refine ⟨?_, ?_, ?_, ?_⟩
    · rw [upd_off _ _ (by omega), upd_same]; rfl
    · rw [upd_same]; rfl
    · intro i x hx
      have : i = 0 ∧ x = b := by
        cases i with
        | zero => simp at hx; exact ⟨rfl, hx.symm⟩
        | succ i => simp at hx
      obtain ⟨rfl, rfl⟩ := this
      rw [upd_off _ _ (by omega), upd_off _ _ (by omega), upd_same]
      rfl
    · intro i x hx
      have : i = 0 ∧ x = b := by
        cases i with
        | zero => simp at hx; exact ⟨rfl, hx.symm⟩
        | succ i => simp at hx
      obtain ⟨rfl, rfl⟩ := this
      rw [upd_off _ _ (by omega), upd_off _ _ (by omega), upd_off _ _ (by omega), h6]
      rfl
  | some l =>
    have hlt : 0 < B.length := by
      cases B with
      | nil => simp at hl
      | cons x l => simp
    simp only
    obtain ⟨l1, l2⟩ := ne _ _ hl
    refine ⟨?_, ?_, ?_, ?_⟩
    · rw [upd_off _ _ (by omega), upd_off _ _ (by omega), upd_off _ _ (by omega), h.old, List.getElem?_append_left hlt]
    · rw [upd_same, List.length_append, List.length_singleton, Nat.add_sub_cancel, List.getElem?_append_right (Nat.le_refl _), Nat.sub_self]
      rfl
    · intro i x hx
      rw [upd_off _ _ (by omega), upd_off _ _ (by omega)]
      by_cases hi : i < B.length
      · rw [List.getElem?_append_left hi] at hx
        rw [upd_blk _ _ (ne i x hx).1, h.prv i x hx]
        unfold before
        split
        · rfl
        · rw [List.getElem?_append_left (by omega)]
      · rw [List.getElem?_append_right (by omega)] at hx
        have : i = B.length ∧ x = b := by
          by_cases e : i - B.length = 0
          · rw [e] at hx; simp at hx; exact ⟨by omega, hx.symm⟩
          · obtain ⟨j, hj⟩ : ∃ j, i - B.length = j + 1 := ⟨i - B.length - 1, by omega⟩
            rw [hj] at hx; simp at hx
        obtain ⟨rfl, rfl⟩ := this
        rw [upd_same]
        unfold before
        rw [if_neg (by omega), List.getElem?_append_left (by omega), hl]
    · intro i x hx
      rw [upd_off _ _ (by omega)]
      by_cases hi : i < B.length
      · rw [List.getElem?_append_left hi] at hx
        by_cases e : i = B.length - 1
        · rw [e, hl] at hx
          cases hx
          rw [upd_same, List.getElem?_append_right (by omega), show i + 1 - B.length = 0 from by omega]
          rfl
        · have hxl : x ≠ l := fun e2 => e (place_inj hn (e2 ▸ hx) hl)
          rw [upd_blk _ _ hxl, upd_off _ _ (by omega), h.nxt i x hx, List.getElem?_append_left (by omega)]
      · rw [List.getElem?_append_right (by omega)] at hx
        have : i = B.length ∧ x = b := by
          by_cases e : i - B.length = 0
          · rw [e] at hx; simp at hx; exact ⟨by omega, hx.symm⟩
          · obtain ⟨j, hj⟩ : ∃ j, i - B.length = j + 1 := ⟨i - B.length - 1, by omega⟩
            rw [hj] at hx; simp at hx
        obtain ⟨rfl, rfl⟩ := this
        rw [upd_blk _ _ (fun e => l1 e.symm), upd_off _ _ (by omega), h6, List.getElem?_append_right (by omega), show B.length + 1 - B.length = 1 from by omega]
        rfl

/-- what unlink leaves -/
def cut1 (f : Cells) (sb : Nat) (p n : Option Nat) : Cells :=
  match p with
  | some pb => upd f pb 6 (ptr n)
  | none => upd f sb 1 (ptr n)
def cut2 (f : Cells) (sb : Nat) (p n : Option Nat) : Cells :=
  match n with
  | some nb => upd f nb 5 (ptr p)
  | none => upd f sb 2 (ptr p)
def cutOut (f : Cells) (sb : Nat) (p n : Option Nat) (b : Nat) : Cells := upd (upd (cut2 (cut1 f sb p n) sb p n) b 5 (ptr none)) b 6 (ptr none)

theorem cut1_off (f : Cells) (sb : Nat) (p n : Option Nat) (x : Nat) {o : Nat} (h1 : o ≠ 1) (h6 : o ≠ 6) : cut1 f sb p n x o = f x o := by
  cases p with
  | none => exact upd_off _ _ h1
  | some pb => exact upd_off _ _ h6
theorem cut2_off (f : Cells) (sb : Nat) (p n : Option Nat) (x : Nat) {o : Nat} (h2 : o ≠ 2) (h5 : o ≠ 5) : cut2 f sb p n x o = f x o := by
  cases n with
  | none => exact upd_off _ _ h2
  | some nb => exact upd_off _ _ h5

theorem erased (B : List Nat) (k i : Nat) : (B.eraseIdx k)[i]? = B[if i < k then i else i + 1]? := by
  rw [List.getElem?_eraseIdx]
  split <;> rfl
theorem Lk.unlink {f : Cells} {sb : Nat} {B : List Nat} (h : Lk f sb B) (hn : B.Nodup) {k b : Nat} (hb : B[k]? = some b) (hs : sb ∉ B) : Lk (cutOut f sb (before B k) B[k + 1]? b) sb (B.eraseIdx k) := by
  have ns : ∀ i x, B[i]? = some x → x ≠ sb := fun i x hx e => hs (e ▸ List.mem_of_getElem? hx)
  have hk := (List.getElem?_eq_some_iff.1 hb).1
  have hbs := ns k b hb
  have hlen : (B.eraseIdx k).length = B.length - 1 := by rw [List.length_eraseIdx, if_pos hk]
  -- what the two first stores leave at each offset
  have p5 : ∀ x, x ≠ b → cutOut f sb (before B k) B[k + 1]? b x 5 = if B[k + 1]? = some x then some (ptr (before B k)) else f x 5 := by
    intro x hx
    unfold cutOut
    rw [upd_blk _ _ hx, upd_blk _ _ hx]
    have e1 : cut1 f sb (before B k) B[k + 1]? x 5 = f x 5 := cut1_off f sb _ _ x (by omega) (by omega)
    unfold cut2
    cases hnx : B[k + 1]? with
    | none =>
      rw [hnx] at e1
      simp only
      rw [upd_off _ _ (by omega), e1]
      simp
    | some nb =>
      rw [hnx] at e1
      simp only
      by_cases e : x = nb
      · subst e; rw [upd_same]; simp
      · rw [upd_blk _ _ e, e1]
        rw [if_neg (fun e2 => e (by cases e2; rfl))]
  have p6 : ∀ x, x ≠ b → cutOut f sb (before B k) B[k + 1]? b x 6 = if before B k = some x then some (ptr B[k + 1]?) else f x 6 := by
    intro x hx
    unfold cutOut
    rw [upd_blk _ _ hx, upd_blk _ _ hx]
    have e2 : cut2 (cut1 f sb (before B k) B[k + 1]?) sb (before B k) B[k + 1]? x 6 = cut1 f sb (before B k) B[k + 1]? x 6 := cut2_off _ sb _ _ x (by omega) (by omega)
    rw [e2]
    unfold cut1
    cases hp : before B k with
    | none => simp only; rw [upd_off _ _ (by omega)]; simp
    | some pb =>
      simp only
      by_cases e : x = pb
      · subst e; rw [upd_same]; simp
      · rw [upd_blk _ _ e]
        rw [if_neg (fun e2 => e (by cases e2; rfl))]
  refine ⟨?_, ?_, ?_, ?_⟩
  · -- oldest
    unfold cutOut
    rw [upd_blk _ _ (fun e => hbs e.symm), upd_blk _ _ (fun e => hbs e.symm)]
    have e2 : cut2 (cut1 f sb (before B k) B[k + 1]?) sb (before B k) B[k + 1]? sb 1 = cut1 f sb (before B k) B[k + 1]? sb 1 := cut2_off _ sb _ _ sb (by omega) (by omega)
    rw [e2, erased]
    unfold cut1 before
    by_cases e : k = 0
    · subst e; simp only [if_true]; rw [upd_same]; simp
    · obtain ⟨pb, hpb⟩ : ∃ pb, B[k - 1]? = some pb := ⟨B[k - 1], List.getElem?_eq_getElem (by omega)⟩
      rw [if_neg e, hpb, if_pos (by omega)]
      simp only
      rw [upd_off _ _ (by omega), h.old]
  · -- newest
    unfold cutOut
    rw [upd_blk _ _ (fun e => hbs e.symm), upd_blk _ _ (fun e => hbs e.symm), hlen, erased]
    have e1 : cut1 f sb (before B k) B[k + 1]? sb 2 = f sb 2 := cut1_off f sb _ _ sb (by omega) (by omega)
    unfold cut2
    cases hnx : B[k + 1]? with
    | none =>
      have hlast : k + 1 = B.length := by have := List.getElem?_eq_none_iff.1 hnx; omega
      simp only
      rw [upd_same]
      unfold before
      by_cases e : k = 0
      · rw [if_pos e, if_neg (by omega), List.getElem?_eq_none (by omega)]
      · rw [if_neg e, if_pos (by omega), show B.length - 1 - 1 = k - 1 from by omega]
    | some nb =>
      have hlt := (List.getElem?_eq_some_iff.1 hnx).1
      rw [hnx] at e1
      simp only
      rw [upd_off _ _ (by omega), e1, h.new, if_neg (by omega), show B.length - 1 - 1 + 1 = B.length - 1 from by omega]
  · -- prev
    intro i x hx
    rw [erased] at hx
    have hxb : x ≠ b := fun e => by
      have := place_inj hn (e ▸ hx) hb
      split at this <;> omega
    rw [p5 x hxb]
    by_cases e : B[k + 1]? = some x
    · rw [if_pos e]
      have hi : i = k := by
        have := place_inj hn hx e
        split at this <;> omega
      subst hi
      unfold before
      split
      · rfl
      · rw [erased, if_pos (by omega)]
    · rw [if_neg e, h.prv _ x hx]
      have hik : i ≠ k := fun e2 => e (by rw [← hx, e2]; simp)
      unfold before
      by_cases hi : i < k
      · rw [if_pos hi]
        split
        · rfl
        · rw [erased, if_pos (by omega)]
      · rw [if_neg hi, if_neg (by omega), if_neg (by omega), erased, if_neg (by omega), show i - 1 + 1 = i + 1 - 1 from by omega]
  · -- next
    intro i x hx
    rw [erased] at hx
    have hxb : x ≠ b := fun e => by
      have := place_inj hn (e ▸ hx) hb
      split at this <;> omega
    rw [p6 x hxb, erased]
    by_cases e : before B k = some x
    · rw [if_pos e]
      unfold before at e
      split at e
      · cases e
      · have hi : i + 1 = k := by
          have := place_inj hn hx e
          split at this <;> omega
        rw [if_neg (by omega), hi]
    · rw [if_neg e, h.nxt _ x hx]
      by_cases hi : i < k
      · have hik : i + 1 ≠ k := fun e2 => e (by
          unfold before
          rw [if_neg (by omega), ← hx, if_pos hi, show k - 1 = i from by omega])
        rw [if_pos hi, if_pos (by omega)]
      · rw [if_neg hi, if_neg (by omega)]
end Go.Proofs.Qxb6615757a
