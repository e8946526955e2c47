/-
  THE PLAIN LAW of one move and two moves on any table: no Go in sight.
-/
import Derived.Test.Qxb6615505aPlain
namespace Go.Proofs.Qxb6615505a.Pl

structure CRow where
  ten : ByteArray
  mach : ByteArray
  id : ByteArray
def key (r : CRow) : Key := (r.ten, r.mach)

/-- the table that the first n rows make -/
def tab (R : Nat → CRow) : Nat → Tab
  | 0 => []
  | n + 1 => put (tab R n) (key (R n)) (R n).id
/-- the id of the last of the first n rows that bears the key -/
def look (R : Nat → CRow) : Nat → Key → Option ByteArray
  | 0, _ => none
  | n + 1, k => if key (R n) = k then some (R n).id else look R n k
theorem nd_tab (R : Nat → CRow) : ∀ n, Nd (tab R n)
  | 0 => nd_nil
  | n + 1 => nd_put (nd_tab R n) _ _
theorem length_tab_le (R : Nat → CRow) : ∀ n, (tab R n).length ≤ n
  | 0 => Nat.le_refl _
  | n + 1 => by
    have := length_tab_le R n
    show (put (tab R n) _ _).length ≤ _
    rw [length_put (nd_tab R n)]
    split <;> omega
theorem get_tab (R : Nat → CRow) (k : Key) : ∀ n, get (tab R n) k = look R n k
  | 0 => rfl
  | n + 1 => by
    show get (put (tab R n) _ _) k = look R (n + 1) k
    unfold look
    by_cases e : key (R n) = k
    · rw [if_pos e, ← e]; exact get_put_same _ _ _
    · rw [if_neg e, get_put_other _ _ (fun e' => e e'.symm)]; exact get_tab R k n
theorem look_hit {R : Nat → CRow} {n i : Nat} {k : Key} (h1 : i < n) (h2 : key (R i) = k) (h3 : ∀ j, i < j → j < n → key (R j) ≠ k) : look R n k = some (R i).id := by
  induction n with
  | zero => omega
  | succ n ih =>
    unfold look
    by_cases hi : i = n
    · subst hi; rw [if_pos h2]
    · rw [if_neg (h3 n (by omega) (by omega)), ih (by omega) (fun j a b => h3 j a (by omega))]
theorem look_miss {R : Nat → CRow} {n : Nat} {k : Key} (h : ∀ j, j < n → key (R j) ≠ k) : look R n k = none := by
  induction n with
  | zero => rfl
  | succ n ih =>
    unfold look
    rw [if_neg (h n (by omega)), ih (fun j a => h j (by omega))]
theorem look_spec {R : Nat → CRow} {n : Nat} {k : Key} (h : (look R n k).isSome = true) : ∃ i, i < n ∧ key (R i) = k ∧ ∀ j, i < j → j < n → key (R j) ≠ k := by
  induction n with
  | zero => cases h
  | succ n ih =>
    unfold look at h
    split at h
    · exact ⟨n, by omega, ‹_›, fun j a b => by omega⟩
    · rename_i hn
      obtain ⟨i, a, b, c⟩ := ih h
      refine ⟨i, by omega, b, fun j d e => ?_⟩
      by_cases hj : j = n
      · rw [hj]; exact hn
      · exact c j d (by omega)
theorem look_there {R : Nat → CRow} {n i : Nat} (h : i < n) : (look R n (key (R i))).isSome = true := by
  induction n with
  | zero => omega
  | succ n ih =>
    unfold look
    split
    · rfl
    · rename_i hn
      have : i ≠ n := fun e => hn (by rw [e])
      exact ih (by omega)
/-- does a row behind i, below n, bear i's key? -/
def dupB (R : Nat → CRow) (n i : Nat) : Bool := (List.range n).any fun j => decide (i < j) && decide (key (R j) = key (R i))
theorem dupB_true {R : Nat → CRow} {n i j : Nat} (a : i < j) (b : j < n) (h : key (R j) = key (R i)) : dupB R n i = true := by
  unfold dupB
  rw [List.any_eq_true]
  exact ⟨j, by simpa using b, by simp [a, h]⟩
theorem dupB_false {R : Nat → CRow} {n i : Nat} (h : ∀ j, i < j → j < n → key (R j) ≠ key (R i)) : dupB R n i = false := by
  unfold dupB
  rw [List.any_eq_false]
  intro j hj
  have hj' : j < n := by simpa using hj
  by_cases a : i < j
  · simp [h j a hj']
  · simp [a]
theorem dupB_no {R : Nat → CRow} {n i : Nat} (h : dupB R n i = false) : ∀ j, i < j → j < n → key (R j) ≠ key (R i) := by
  intro j a b e
  rw [dupB_true a b e] at h
  cases h
/-- how many of the first k rows have no later one of their key -/
def uniq (R : Nat → CRow) (n k : Nat) : Nat := ((List.range k).filter (fun i => !dupB R n i)).length
theorem uniq_zero (R : Nat → CRow) (n : Nat) : uniq R n 0 = 0 := rfl
theorem uniq_succ (R : Nat → CRow) (n k : Nat) : uniq R n (k + 1) = uniq R n k + (if dupB R n k then 0 else 1) := by
  unfold uniq
  rw [List.range_succ, List.filter_append, List.length_append]
  cases h : dupB R n k <;> simp [h]
theorem uniq_le (R : Nat → CRow) (n k : Nat) : uniq R n k ≤ k := by
  unfold uniq
  have := List.length_filter_le (fun i => !dupB R n i) (List.range k)
  simpa using this
theorem length_tab (R : Nat → CRow) (n : Nat) : (tab R n).length = uniq R n n := by
  have e1 : (tab R n).length = ((tab R n).map (·.1)).length := by simp
  have e2 : uniq R n n = (((List.range n).filter (fun i => !dupB R n i)).map (fun i => key (R i))).length := by simp [uniq]
  rw [e1, e2]
  refine length_eq_of_mem (nd_tab R n) (nodup_map (List.Nodup.sublist List.filter_sublist List.nodup_range) ?_) ?_
  · intro x hx y hy e
    obtain ⟨hx1, hx2⟩ := List.mem_filter.1 hx
    obtain ⟨hy1, hy2⟩ := List.mem_filter.1 hy
    have hx1 : x < n := by simpa using hx1
    have hy1 : y < n := by simpa using hy1
    have hx2 := dupB_no (by simpa using hx2 : dupB R n x = false)
    have hy2 := dupB_no (by simpa using hy2 : dupB R n y = false)
    rcases Nat.lt_trichotomy x y with h | h | h
    · exact absurd e.symm (hx2 y h hy1)
    · exact h
    · exact absurd e (hy2 x h hx1)
  · intro k
    rw [mem_keys, List.mem_map, get_tab]
    constructor
    · intro h
      obtain ⟨i, a, b, c⟩ := look_spec h
      refine ⟨i, List.mem_filter.2 ⟨by simpa using a, ?_⟩, b⟩
      rw [dupB_false (fun j d e => by rw [b]; exact c j d e)]
      rfl
    · rintro ⟨i, hi, rfl⟩
      obtain ⟨h1, h2⟩ := List.mem_filter.1 hi
      have h1 : i < n := by simpa using h1
      rw [look_hit h1 rfl (dupB_no (by simpa using h2))]
      rfl

/-! ### one move -/
section
variable {l : Tab} {prev : Option CRec} {r : CRec}
theorem move_hold {k : Key} (h : claim r = some k) : get (move l prev r) k = some r.id := by
  unfold move
  rw [h]
  exact get_put_same _ _ _
theorem move_get {k : Key} (h : claim r ≠ some k) : get (move l prev r) k = get (drop1 l prev r.id) k := by
  unfold move
  split
  · rename_i k' hk
    exact get_put_other _ _ (fun e => h (by rw [hk, e]))
  · rfl
theorem move_other {k : Key} (h1 : prev.bind claim ≠ some k) (h2 : claim r ≠ some k) : get (move l prev r) k = get l k := by
  rw [move_get h2]
  unfold drop1
  split
  · rename_i p hp
    split
    · exact get_del_other _ (fun e => h1 (by rw [hp, e]))
    · rfl
  · rfl
theorem move_prev {k : Key} (h1 : prev.bind claim = some k) (h2 : claim r ≠ some k) : get (move l prev r) k = if get l k = some r.id then none else get l k := by
  rw [move_get h2]
  unfold drop1
  rw [h1]
  simp only
  by_cases e : get l k = some r.id
  · rw [if_pos e, e, Option.getD_some, if_pos rfl]
    exact get_del_same _ _
  · rw [if_neg e]
    split
    · rename_i e2
      rw [get_del_same]
      cases hg : get l k with
      | none => rfl
      | some v => rw [hg] at e2 e; simp only [Option.getD_some] at e2; exact absurd (by rw [e2]) e
    · rfl
/-- once more the same: every entry is as it was -/
theorem move_twice (k : Key) : get (move (move l prev r) prev r) k = get (move l prev r) k := by
  by_cases h2 : claim r = some k
  · rw [move_hold h2, move_hold h2]
  · by_cases h1 : prev.bind claim = some k
    · rw [move_prev (l := move l prev r) h1 h2, move_prev (l := l) h1 h2]
      by_cases e : get l k = some r.id
      · simp [e]
      · simp [e]
    · rw [move_other h1 h2]
theorem length_same {a b : Tab} (ha : Nd a) (hb : Nd b) (h : ∀ k, get a k = get b k) : a.length = b.length := by
  have e1 : a.length = (a.map (·.1)).length := by simp
  have e2 : b.length = (b.map (·.1)).length := by simp
  rw [e1, e2]
  exact length_eq_of_mem ha hb (fun k => by rw [mem_keys, mem_keys, h])
theorem length_twice (h : Nd l) : (move (move l prev r) prev r).length = (move l prev r).length :=
  length_same (nd_move (nd_move h _ _) _ _) (nd_move h _ _) move_twice

/-- is an entry lost, that is not put back? -/
def lost (l : Tab) (prev : Option CRec) (r : CRec) : Bool :=
  match prev.bind claim with
  | some k => decide (claim r ≠ some k) && decide (get l k = some r.id)
  | none => false
/-- is an entry new? -/
def fresh (l : Tab) (r : CRec) : Bool :=
  match claim r with
  | some k => (get l k).isNone
  | none => false
theorem length_move_eq (h : Nd l) : (move l prev r).length + (if lost l prev r then 1 else 0) = l.length + (if fresh l r then 1 else 0) := by
  have hd := nd_drop1 h prev r.id
  -- the first half
  have hdrop : ∀ p, prev.bind claim = some p → (drop1 l prev r.id).length + (if get l p = some r.id then 1 else 0) = l.length := by
    intro p hp
    unfold drop1
    rw [hp]
    simp only
    have := length_del h p
    by_cases e : get l p = some r.id
    · rw [e] at this
      rw [e, Option.getD_some, if_pos rfl, if_pos rfl]
      simpa using this
    · rw [if_neg e]
      split
      · rename_i e2
        cases hg : get l p with
        | none => rw [hg] at this; simpa using this
        | some v => rw [hg] at e2 e; simp only [Option.getD_some] at e2; exact absurd (by rw [e2]) e
      · rfl
  have hnone : prev.bind claim = none → drop1 l prev r.id = l := by
    intro hp
    unfold drop1
    rw [hp]
  cases hr : claim r with
  | none =>
    have e1 : fresh l r = false := by simp [fresh, hr]
    have e2 : move l prev r = drop1 l prev r.id := by simp [move, hr]
    rw [e1, e2]
    cases hp : prev.bind claim with
    | none =>
      have e3 : lost l prev r = false := by simp [lost, hp]
      rw [e3, hnone hp]
    | some p =>
      have := hdrop p hp
      have e3 : lost l prev r = decide (get l p = some r.id) := by simp [lost, hp, hr]
      rw [e3]
      by_cases e : get l p = some r.id <;> simp [e] at this ⊢ <;> omega
  | some k =>
    have e1 : fresh l r = (get l k).isNone := by simp [fresh, hr]
    have e2 : move l prev r = put (drop1 l prev r.id) k r.id := by simp [move, hr]
    rw [e1, e2, length_put hd]
    cases hp : prev.bind claim with
    | none =>
      have e3 : lost l prev r = false := by simp [lost, hp]
      rw [e3, hnone hp]
      cases get l k <;> simp
    | some p =>
      have h0 := hdrop p hp
      by_cases epk : p = k
      · subst epk
        have e3 : lost l prev r = false := by simp [lost, hp, hr]
        rw [e3]
        have hgk : get (drop1 l prev r.id) p = if get l p = some r.id then none else get l p := by
          unfold drop1
          rw [hp]
          simp only
          by_cases e : get l p = some r.id
          · rw [if_pos e, e, Option.getD_some, if_pos rfl]; exact get_del_same _ _
          · rw [if_neg e]
            split
            · rename_i e2
              rw [get_del_same]
              cases hg : get l p with
              | none => rfl
              | some v => rw [hg] at e2 e; simp only [Option.getD_some] at e2; exact absurd (by rw [e2]) e
            · rfl
        rw [hgk]
        by_cases e : get l p = some r.id
        · simp [e] at h0 ⊢; omega
        · simp only [e, if_false] at h0 ⊢
          cases get l p <;> simp <;> omega
      · have hgk : get (drop1 l prev r.id) k = get l k := by
          unfold drop1
          rw [hp]
          simp only
          split
          · exact get_del_other _ (fun e => epk e.symm)
          · rfl
        have e3 : lost l prev r = decide (get l p = some r.id) := by
          simp only [lost, hp, hr]
          have : (some k ≠ some p) := fun e => epk (by cases e; rfl)
          simp [this]
        rw [hgk, e3]
        by_cases e : get l p = some r.id
        · simp only [e, if_true] at h0
          simp only [e, decide_true, if_true]
          cases get l k <;> simp <;> omega
        · simp only [e, if_false] at h0
          simp only [e, decide_false, Bool.false_eq_true, if_false]
          cases get l k <;> simp <;> omega
end
end Go.Proofs.Qxb6615505a.Pl
