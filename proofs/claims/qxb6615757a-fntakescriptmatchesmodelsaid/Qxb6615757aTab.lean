/-
  PLAIN TABLES (keys, elements; no key twice): no Go in sight.
-/
namespace Go.Proofs.Qxb6615757a.Pl

section
variable {α β : Type} [DecidableEq α]
def get : List (α × β) → α → Option β
  | [], _ => none
  | p :: l, x => if p.1 = x then some p.2 else get l x
def del : List (α × β) → α → List (α × β)
  | [], _ => []
  | p :: l, k => if p.1 = k then del l k else p :: del l k
def put (l : List (α × β)) (k : α) (v : β) : List (α × β) := (k, v) :: del l k
def Nd (l : List (α × β)) : Prop := (l.map (·.1)).Nodup

theorem get_del_same (l : List (α × β)) (k : α) : get (del l k) k = none := by
  induction l with
  | nil => rfl
  | cons p l ih =>
    unfold del
    split
    · exact ih
    · rename_i h
      unfold get
      rw [if_neg h]; exact ih
theorem get_del_other (l : List (α × β)) {k x : α} (h : x ≠ k) : get (del l k) x = get l x := by
  induction l with
  | nil => rfl
  | cons p l ih =>
    unfold del
    split
    · rename_i hp
      rw [ih]
      conv => rhs; unfold get
      rw [if_neg (fun e => h (e.symm.trans hp))]
    · unfold get
      split
      · rfl
      · exact ih
theorem del_sublist (l : List (α × β)) (k : α) : (del l k).Sublist l := by
  induction l with
  | nil => exact List.Sublist.refl _
  | cons p l ih =>
    unfold del
    split
    · exact List.Sublist.cons _ ih
    · exact List.Sublist.cons_cons _ ih
theorem get_put_same (l : List (α × β)) (k : α) (v : β) : get (put l k v) k = some v := by simp [put, get]
theorem get_put_other (l : List (α × β)) {k x : α} (v : β) (h : x ≠ k) : get (put l k v) x = get l x := by
  simp only [put, get]
  rw [if_neg (fun e => h e.symm), get_del_other l h]
theorem mem_keys (l : List (α × β)) (k : α) : k ∈ l.map (·.1) ↔ (get l k).isSome = true := by
  induction l with
  | nil => simp [get]
  | cons p l ih =>
    rw [List.map_cons, List.mem_cons, ih]
    simp only [get]
    by_cases h : p.1 = k
    · simp [h]
    · rw [if_neg h]
      exact ⟨fun e => e.elim (fun e => absurd e.symm h) id, Or.inr⟩
theorem nd_del {l : List (α × β)} (h : Nd l) (k : α) : Nd (del l k) := by
  unfold Nd at *
  exact List.Nodup.sublist (List.Sublist.map _ (del_sublist l k)) h
theorem nd_put {l : List (α × β)} (h : Nd l) (k : α) (v : β) : Nd (put l k v) := by
  have h1 := nd_del h k
  have h2 : k ∉ (del l k).map (·.1) := by rw [mem_keys, get_del_same]; simp
  unfold Nd at *
  simp only [put, List.map_cons]
  exact List.nodup_cons.2 ⟨h2, h1⟩
theorem length_del {l : List (α × β)} (h : Nd l) (k : α) : (del l k).length + (if (get l k).isSome then 1 else 0) = l.length := by
  induction l with
  | nil => rfl
  | cons p l ih =>
    have h' : Nd l ∧ p.1 ∉ l.map (·.1) := by
      unfold Nd at *
      rw [List.map_cons, List.nodup_cons] at h
      exact ⟨h.2, h.1⟩
    have ih := ih h'.1
    unfold del get
    by_cases hp : p.1 = k
    · have hn : get l k = none := by
        have := h'.2
        rw [hp, mem_keys] at this
        simpa using this
      rw [hn] at ih
      rw [if_pos hp, if_pos hp]
      simp only [Option.isSome_none, Bool.false_eq_true, if_false, Nat.add_zero] at ih
      simp [ih]
    · rw [if_neg hp, if_neg hp]
      simp only [List.length_cons]
      omega
theorem length_put {l : List (α × β)} (h : Nd l) (k : α) (v : β) : (put l k v).length = if (get l k).isSome then l.length else l.length + 1 := by
  have := length_del h k
  simp only [put, List.length_cons]
  split <;> simp_all <;> omega
end
theorem nd_nil {α β : Type} : Nd ([] : List (α × β)) := by simp [Nd]
end Go.Proofs.Qxb6615757a.Pl
