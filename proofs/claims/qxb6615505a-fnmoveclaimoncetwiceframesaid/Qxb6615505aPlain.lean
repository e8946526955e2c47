/-
  THE PLAIN LAW of the claims' table: no Go in sight. A table is a list of keys and ids, no key twice; 'move' is what one call of moveClaim does to it; 'script' is the table after so many steps.
-/
namespace Go.Proofs.Qxb6615505a.Pl

abbrev Key := ByteArray × ByteArray

structure CRec where
  id : ByteArray
  ten : ByteArray
  mach : Option ByteArray
  excl : Bool
  st : ByteArray

def active : ByteArray := ⟨#[97, 99, 116, 105, 118, 101]⟩
def claim (r : CRec) : Option Key := if r.st = active ∧ r.excl = true then r.mach.map (fun m => (r.ten, m)) else none
def holds (r : CRec) : Bool := (claim r).isSome

abbrev Tab := List (Key × ByteArray)
def get : Tab → Key → Option ByteArray
  | [], _ => none
  | p :: l, x => if p.1 = x then some p.2 else get l x
def del : Tab → Key → Tab
  | [], _ => []
  | p :: l, k => if p.1 = k then del l k else p :: del l k
def put (l : Tab) (k : Key) (v : ByteArray) : Tab := (k, v) :: del l k
def Nd (l : Tab) : Prop := (l.map (·.1)).Nodup

theorem get_del_same (l : Tab) (k : Key) : get (del l k) k = none := by
  induction l with
  | nil => rfl
  | cons p l ih =>
    unfold del
    split
    · exact ih
    · rename_i h
      unfold get
      rw [if_neg h]; exact ih
theorem get_del_other (l : Tab) {k x : Key} (h : x ≠ k) : get (del l k) x = get l x := by
  induction l with
  | nil => rfl
  | cons p l ih =>
    unfold del
    split
    · rename_i hp
      rw [ih]
      conv => rhs; unfold get
      rw [if_neg (fun e => h (e.symm.trans hp))]
    · unfold get
      split
      · rfl
      · exact ih
theorem del_sublist (l : Tab) (k : Key) : (del l k).Sublist l := by
  induction l with
  | nil => exact List.Sublist.refl _
  | cons p l ih =>
    unfold del
    split
    · exact List.Sublist.cons _ ih
    · exact List.Sublist.cons_cons _ ih
theorem get_put_same (l : Tab) (k : Key) (v : ByteArray) : get (put l k v) k = some v := by simp [put, get]
theorem get_put_other (l : Tab) {k x : Key} (v : ByteArray) (h : x ≠ k) : get (put l k v) x = get l x := by
  simp only [put, get]
  rw [if_neg (fun e => h e.symm), get_del_other l h]
theorem mem_keys (l : Tab) (k : Key) : k ∈ l.map (·.1) ↔ (get l k).isSome = true := by
  induction l with
  | nil => simp [get]
  | cons p l ih =>
    rw [List.map_cons, List.mem_cons, ih]
    simp only [get]
    by_cases h : p.1 = k
    · simp [h]
    · rw [if_neg h]
      exact ⟨fun e => e.elim (fun e => absurd e.symm h) id, Or.inr⟩
theorem nd_nil : Nd [] := by simp [Nd]
theorem nd_del {l : Tab} (h : Nd l) (k : Key) : Nd (del l k) := by
  unfold Nd at *
  exact List.Nodup.sublist (List.Sublist.map _ (del_sublist l k)) h
theorem nd_put {l : Tab} (h : Nd l) (k : Key) (v : ByteArray) : Nd (put l k v) := by
  have h1 := nd_del h k
  have h2 : k ∉ (del l k).map (·.1) := by rw [mem_keys, get_del_same]; simp
  unfold Nd at *
  simp only [put, List.map_cons]
  exact List.nodup_cons.2 ⟨h2, h1⟩
theorem length_del {l : Tab} (h : Nd l) (k : Key) : (del l k).length + (if (get l k).isSome then 1 else 0) = l.length := by
  induction l with
  | nil => rfl
  | cons p l ih =>
    have h' : Nd l ∧ p.1 ∉ l.map (·.1) := by
      unfold Nd at *
      rw [List.map_cons, List.nodup_cons] at h
      exact ⟨h.2, h.1⟩
    have ih := ih h'.1
    unfold del get
    by_cases hp : p.1 = k
    · have hn : get l k = none := by
        have := h'.2
        rw [hp, mem_keys] at this
        simpa using this
      rw [hn] at ih
      rw [if_pos hp, if_pos hp]
      simp only [Option.isSome_none, Bool.false_eq_true, if_false, Nat.add_zero] at ih
      simp [ih]
    · rw [if_neg hp, if_neg hp]
      simp only [List.length_cons]
      omega
theorem length_put {l : Tab} (h : Nd l) (k : Key) (v : ByteArray) : (put l k v).length = if (get l k).isSome then l.length else l.length + 1 := by
  have := length_del h k
  simp only [put, List.length_cons]
  split <;> simp_all <;> omega

/-! ### one move -/
def drop1 (l : Tab) (prev : Option CRec) (x : ByteArray) : Tab :=
  match prev.bind claim with
  | some h => if (get l h).getD ByteArray.empty = x then del l h else l
  | none => l
def move (l : Tab) (prev : Option CRec) (r : CRec) : Tab :=
  match claim r with
  | some k => put (drop1 l prev r.id) k r.id
  | none => drop1 l prev r.id
theorem nd_drop1 {l : Tab} (h : Nd l) (prev : Option CRec) (x : ByteArray) : Nd (drop1 l prev x) := by
  unfold drop1
  split
  · split
    · exact nd_del h _
    · exact h
  · exact h
theorem nd_move {l : Tab} (h : Nd l) (prev : Option CRec) (r : CRec) : Nd (move l prev r) := by
  unfold move
  split
  · exact nd_put (nd_drop1 h _ _) _ _
  · exact nd_drop1 h _ _
theorem length_drop1 {l : Tab} (h : Nd l) (prev : Option CRec) (x : ByteArray) : (drop1 l prev x).length ≤ l.length := by
  unfold drop1
  split
  · split
    · have := length_del h ‹_›; omega
    · exact Nat.le_refl _
  · exact Nat.le_refl _
theorem length_move {l : Tab} (h : Nd l) (prev : Option CRec) (r : CRec) : (move l prev r).length ≤ l.length + 1 := by
  have h1 := length_drop1 h prev r.id
  unfold move
  split
  · rw [length_put (nd_drop1 h _ _)]; split <;> omega
  · omega

/-! ### a script -/
/-- the last step below n whose id is x -/
def prevOf (S : Nat → CRec) : Nat → ByteArray → Option Nat
  | 0, _ => none
  | n + 1, x => if (S n).id = x then some n else prevOf S n x
def script (S : Nat → CRec) : Nat → Tab
  | 0 => []
  | n + 1 => move (script S n) ((prevOf S n (S n).id).map S) (S n)
/-- the last step below n that takes k -/
def taker (S : Nat → CRec) : Nat → Key → Option Nat
  | 0, _ => none
  | n + 1, k => if claim (S n) = some k then some n else taker S n k
theorem nd_script (S : Nat → CRec) : ∀ n, Nd (script S n)
  | 0 => nd_nil
  | n + 1 => nd_move (nd_script S n) _ _
theorem length_script (S : Nat → CRec) : ∀ n, (script S n).length ≤ n
  | 0 => Nat.le_refl _
  | n + 1 => Nat.le_trans (length_move (nd_script S n) _ _) (Nat.succ_le_succ (length_script S n))

theorem prevOf_some {S : Nat → CRec} {n i : Nat} {x : ByteArray} (h1 : i < n) (h2 : (S i).id = x) (h3 : ∀ j, i < j → j < n → (S j).id ≠ x) : prevOf S n x = some i := by
  induction n with
  | zero => omega
  | succ n ih =>
    unfold prevOf
    by_cases hi : i = n
    · subst hi; rw [if_pos h2]
    · rw [if_neg (h3 n (by omega) (by omega)), ih (by omega) (fun j a b => h3 j a (by omega))]
theorem prevOf_none {S : Nat → CRec} {n : Nat} {x : ByteArray} (h : ∀ j, j < n → (S j).id ≠ x) : prevOf S n x = none := by
  induction n with
  | zero => rfl
  | succ n ih =>
    unfold prevOf
    rw [if_neg (h n (by omega))]
    exact ih (fun j hj => h j (by omega))
theorem prevOf_spec {S : Nat → CRec} {n i : Nat} {x : ByteArray} (h : prevOf S n x = some i) : i < n ∧ (S i).id = x := by
  induction n with
  | zero => simp [prevOf] at h
  | succ n ih =>
    unfold prevOf at h
    split at h
    · cases h; exact ⟨by omega, ‹_›⟩
    · have := ih h; exact ⟨by omega, this.2⟩
theorem taker_some {S : Nat → CRec} {n i : Nat} {k : Key} : taker S n k = some i ↔ i < n ∧ claim (S i) = some k ∧ ∀ j, i < j → j < n → claim (S j) ≠ some k := by
  induction n with
  | zero => simp [taker]
  | succ n ih =>
    unfold taker
    split
    · rename_i hc
      constructor
      · intro h; cases h; exact ⟨by omega, hc, fun j a b => by omega⟩
      · rintro ⟨h1, h2, h3⟩
        by_cases hi : i = n
        · rw [hi]
        · exact absurd hc (h3 n (by omega) (by omega))
    · rename_i hc
      rw [ih]
      constructor
      · rintro ⟨h1, h2, h3⟩
        refine ⟨by omega, h2, fun j a b => ?_⟩
        by_cases hj : j = n
        · rw [hj]; exact hc
        · exact h3 j a (by omega)
      · rintro ⟨h1, h2, h3⟩
        refine ⟨?_, h2, fun j a b => h3 j a (by omega)⟩
        by_cases hi : i = n
        · rw [hi] at h2; exact absurd h2 hc
        · omega
theorem taker_none {S : Nat → CRec} {n : Nat} {k : Key} (h : taker S n k = none) : ∀ i, i < n → claim (S i) ≠ some k := by
  induction n with
  | zero => intro i hi; omega
  | succ n ih =>
    unfold taker at h
    split at h
    · cases h
    · rename_i hc
      intro i hi
      by_cases e : i = n
      · rw [e]; exact hc
      · exact ih h i (by omega)

/-- does a step behind i, below n, bear i's id? -/
def later (S : Nat → CRec) (i n : Nat) : Prop := ∃ j, i < j ∧ j < n ∧ (S j).id = (S i).id

theorem get_script (S : Nat → CRec) : ∀ (n : Nat) (k : Key),
    (taker S n k = none → get (script S n) k = none) ∧
    (∀ i, taker S n k = some i → (later S i n → get (script S n) k = none) ∧ (¬ later S i n → get (script S n) k = some (S i).id))
  | 0, k => ⟨fun _ => rfl, fun i h => by simp [taker] at h⟩
  | n + 1, k => by
    obtain ⟨ihn, ihs⟩ := get_script S n k
    have hdrop : ∀ p x, get (drop1 (script S n) p x) k = none ∨ get (drop1 (script S n) p x) k = get (script S n) k := by
      intro p x
      unfold drop1
      split
      · rename_i h _
        split
        · by_cases e : k = h
          · subst e; exact Or.inl (get_del_same _ _)
          · exact Or.inr (get_del_other _ e)
        · exact Or.inr rfl
      · exact Or.inr rfl
    by_cases hc : claim (S n) = some k
    · have hg : get (script S (n + 1)) k = some (S n).id := by
        show get (move _ _ _) k = _
        unfold move
        rw [hc]
        exact get_put_same _ _ _
      refine ⟨fun h => ?_, fun i h => ?_⟩
      · simp [taker, hc] at h
      · simp [taker, hc] at h
        subst h
        exact ⟨fun ⟨j, a, b, _⟩ => by omega, fun _ => hg⟩
    · have hg : get (script S (n + 1)) k = get (drop1 (script S n) ((prevOf S n (S n).id).map S) (S n).id) k := by
        show get (move _ _ _) k = _
        unfold move
        split
        · rename_i k' hk'
          refine get_put_other _ _ (fun e => hc ?_)
          rw [hk', e]
        · rfl
      have ht : taker S (n + 1) k = taker S n k := by simp [taker, hc]
      rw [ht, hg]
      refine ⟨fun h => ?_, fun i h => ?_⟩
      · rcases hdrop ((prevOf S n (S n).id).map S) (S n).id with e | e
        · exact e
        · rw [e]; exact ihn h
      · obtain ⟨ih1, ih2⟩ := ihs i h
        obtain ⟨hi, hci, _⟩ := taker_some.1 h
        by_cases hl : later S i n
        · have e0 := ih1 hl
          refine ⟨fun _ => ?_, fun hn => absurd ?_ hn⟩
          · rcases hdrop ((prevOf S n (S n).id).map S) (S n).id with e | e
            · exact e
            · rw [e]; exact e0
          · obtain ⟨j, a, b, c⟩ := hl
            exact ⟨j, a, by omega, c⟩
        · have e0 := ih2 hl
          by_cases hid : (S n).id = (S i).id
          · refine ⟨fun _ => ?_, fun hn => absurd ⟨n, hi, by omega, hid⟩ hn⟩
            have hp : prevOf S n (S n).id = some i := prevOf_some hi hid.symm (fun j a b c => hl ⟨j, a, b, c.trans hid⟩)
            rw [hp]
            unfold drop1
            simp only [Option.map_some, Option.bind_some, hci, e0, Option.getD_some]
            rw [if_pos hid.symm]
            exact get_del_same _ _
          · refine ⟨fun ⟨j, a, b, c⟩ => ?_, fun _ => ?_⟩
            · by_cases hj : j = n
              · rw [hj] at c; exact absurd c hid
              · exact absurd ⟨j, a, by omega, c⟩ hl
            · unfold drop1
              split
              · rename_i h' _
                by_cases e : k = h'
                · subst e
                  rw [e0, Option.getD_some, if_neg (fun e => hid e.symm)]
                  exact e0
                · split
                  · rw [get_del_other _ e]; exact e0
                  · exact e0
              · exact e0

/-! ### counting -/
theorem length_le_of_sub {α : Type} [DecidableEq α] : ∀ {a b : List α}, a.Nodup → (∀ x ∈ a, x ∈ b) → a.length ≤ b.length
  | [], _, _, _ => Nat.zero_le _
  | x :: a, b, h, hs => by
    obtain ⟨h1, h2⟩ := List.nodup_cons.1 h
    have hx : x ∈ b := hs x (by simp)
    have := length_le_of_sub (a := a) (b := b.erase x) h2 (fun y hy => by
      have hne : y ≠ x := fun e => h1 (e ▸ hy)
      exact (List.mem_erase_of_ne hne).2 (hs y (by simp [hy])))
    rw [List.length_erase_of_mem hx] at this
    have : 0 < b.length := List.length_pos_of_mem hx
    simp only [List.length_cons]
    omega
theorem length_eq_of_mem {α : Type} [DecidableEq α] {a b : List α} (ha : a.Nodup) (hb : b.Nodup) (h : ∀ x, x ∈ a ↔ x ∈ b) : a.length = b.length :=
  Nat.le_antisymm (length_le_of_sub ha (fun x hx => (h x).1 hx)) (length_le_of_sub hb (fun x hx => (h x).2 hx))

/-- step i of n takes a claim that nobody takes behind it, and no step behind it bears its id -/
def Good (S : Nat → CRec) (n i : Nat) : Prop := i < n ∧ (∃ k, claim (S i) = some k ∧ taker S n k = some i) ∧ ¬ later S i n

theorem nodup_map {α β : Type} {f : α → β} : ∀ {l : List α}, l.Nodup → (∀ x ∈ l, ∀ y ∈ l, f x = f y → x = y) → (l.map f).Nodup
  | [], _, _ => by simp
  | x :: l, h, hi => by
    obtain ⟨h1, h2⟩ := List.nodup_cons.1 h
    rw [List.map_cons, List.nodup_cons]
    refine ⟨fun hm => ?_, nodup_map h2 (fun a ha b hb => hi a (by simp [ha]) b (by simp [hb]))⟩
    obtain ⟨y, hy, e⟩ := List.mem_map.1 hm
    have := hi y (by simp [hy]) x (by simp) e
    exact h1 (this ▸ hy)

/-- however the good steps are told, the table has as many entries as there are good steps -/
theorem count_script (S : Nat → CRec) (n : Nat) (g : Nat → Bool) (hg : ∀ i, i < n → (g i = true ↔ Good S n i)) : (script S n).length = ((List.range n).filter g).length := by
  have e1 : (script S n).length = ((script S n).map (·.1)).length := by simp
  have e2 : ((List.range n).filter g).length = (((List.range n).filter g).map (fun i => (claim (S i)).getD (ByteArray.empty, ByteArray.empty))).length := by simp
  rw [e1, e2]
  refine length_eq_of_mem (nd_script S n) (nodup_map (List.Nodup.sublist List.filter_sublist List.nodup_range) ?_) ?_
  · intro x hx y hy e
    obtain ⟨hx1, hx2⟩ := List.mem_filter.1 hx
    obtain ⟨hy1, hy2⟩ := List.mem_filter.1 hy
    obtain ⟨_, ⟨kx, cx, tx⟩, _⟩ := (hg x (by simpa using hx1)).1 hx2
    obtain ⟨_, ⟨ky, cy, ty⟩, _⟩ := (hg y (by simpa using hy1)).1 hy2
    rw [cx, cy] at e
    simp only [Option.getD_some] at e
    rw [e, ty] at tx
    exact (Option.some.inj tx).symm
  · intro k
    rw [mem_keys, List.mem_map]
    obtain ⟨gn, gs⟩ := get_script S n k
    constructor
    · intro h
      cases ht : taker S n k with
      | none => rw [gn ht] at h; cases h
      | some i =>
        obtain ⟨g1, g2⟩ := gs i ht
        obtain ⟨hi, hc, _⟩ := taker_some.1 ht
        have hl : ¬ later S i n := fun hl => by rw [g1 hl] at h; cases h
        refine ⟨i, List.mem_filter.2 ⟨by simpa using hi, (hg i hi).2 ⟨hi, ⟨k, hc, ht⟩, hl⟩⟩, by rw [hc]; rfl⟩
    · rintro ⟨i, hi, e⟩
      obtain ⟨h1, h2⟩ := List.mem_filter.1 hi
      obtain ⟨_, ⟨k', c, t⟩, hl⟩ := (hg i (by simpa using h1)).1 h2
      rw [c] at e
      simp only [Option.getD_some] at e
      subst e
      rw [(gs i t).2 hl]
      rfl

/-! ### the law's own questions -/
def sameB (a b : CRec) : Bool := decide (a.ten = b.ten) && decide (a.mach = b.mach)
theorem holds_claim {r : CRec} (h : holds r = true) : ∃ m, r.mach = some m ∧ claim r = some (r.ten, m) := by
  unfold holds claim at h
  split at h
  · rename_i hc
    cases hm : r.mach with
    | none => rw [hm] at h; cases h
    | some m => exact ⟨m, rfl, by simp [claim, hc, hm]⟩
  · cases h
theorem claim_same {a b : CRec} (ha : holds a = true) (hb : holds b = true) : sameB a b = true ↔ claim a = claim b := by
  obtain ⟨m, h1, h2⟩ := holds_claim ha
  obtain ⟨n, h3, h4⟩ := holds_claim hb
  rw [h2, h4]
  simp [sameB, h1, h3]
theorem holds_of_claim {r : CRec} {k : Key} (h : claim r = some k) : holds r = true := by simp [holds, h]
/-- does nobody behind i, below n, take i's claim? -/
def lastB (S : Nat → CRec) (i n : Nat) : Bool := (List.range n).all fun j => !(decide (i < j) && (holds (S j) && sameB (S i) (S j)))
/-- does nobody behind i, below n, bear i's id? -/
def finalB (S : Nat → CRec) (i n : Nat) : Bool := (List.range n).all fun j => !(decide (i < j) && decide ((S j).id = (S i).id))
def gB (S : Nat → CRec) (n i : Nat) : Bool := holds (S i) && lastB S i n && finalB S i n
theorem lastB_true {S : Nat → CRec} {i n : Nat} : lastB S i n = true ↔ ∀ j, i < j → j < n → ¬ (holds (S j) = true ∧ sameB (S i) (S j) = true) := by
  unfold lastB
  rw [List.all_eq_true]
  constructor
  · intro h j a b hc
    have := h j (by simpa using b)
    simp [a, hc.1, hc.2] at this
  · intro h j hj
    have hj' : j < n := by simpa using hj
    by_cases a : i < j
    · have := h j a hj'
      simp only [a, decide_true, Bool.true_and]
      cases h1 : holds (S j) <;> cases h2 : sameB (S i) (S j) <;> simp_all
    · simp [a]
theorem lastB_false {S : Nat → CRec} {i n j : Nat} (a : i < j) (b : j < n) (h1 : holds (S j) = true) (h2 : sameB (S i) (S j) = true) : lastB S i n = false := by
  cases h : lastB S i n
  · rfl
  · exact absurd ⟨h1, h2⟩ (lastB_true.1 h j a b)
theorem finalB_true {S : Nat → CRec} {i n : Nat} : finalB S i n = true ↔ ¬ later S i n := by
  unfold finalB later
  rw [List.all_eq_true]
  constructor
  · rintro h ⟨j, a, b, c⟩
    have := h j (by simpa using b)
    simp [a, c] at this
  · intro h j hj
    have hj' : j < n := by simpa using hj
    by_cases a : i < j
    · by_cases c : (S j).id = (S i).id
      · exact absurd ⟨j, a, hj', c⟩ h
      · simp [c]
    · simp [a]
theorem last_taker {S : Nat → CRec} {i n : Nat} {k : Key} (hi : i < n) (hk : claim (S i) = some k) : lastB S i n = true ↔ taker S n k = some i := by
  rw [taker_some, lastB_true]
  have hh := holds_of_claim hk
  constructor
  · intro h
    refine ⟨hi, hk, fun j a b c => h j a b ⟨holds_of_claim c, ?_⟩⟩
    rw [claim_same hh (holds_of_claim c), hk, c]
  · rintro ⟨_, _, h⟩ j a b ⟨h1, h2⟩
    rw [claim_same hh h1, hk] at h2
    exact h j a b h2.symm
theorem gB_iff {S : Nat → CRec} {n i : Nat} (hi : i < n) : gB S n i = true ↔ Good S n i := by
  unfold gB Good
  rw [Bool.and_eq_true, Bool.and_eq_true, finalB_true]
  constructor
  · rintro ⟨⟨h1, h2⟩, h3⟩
    obtain ⟨m, _, hk⟩ := holds_claim h1
    exact ⟨hi, ⟨_, hk, (last_taker hi hk).1 h2⟩, h3⟩
  · rintro ⟨_, ⟨k, hk, ht⟩, h3⟩
    exact ⟨⟨holds_of_claim hk, (last_taker hi hk).2 ht⟩, h3⟩
/-- how many good steps there are below k -/
def want (S : Nat → CRec) (n k : Nat) : Nat := ((List.range k).filter (gB S n)).length
theorem want_zero (S : Nat → CRec) (n : Nat) : want S n 0 = 0 := rfl
theorem want_succ (S : Nat → CRec) (n k : Nat) : want S n (k + 1) = want S n k + (if gB S n k then 1 else 0) := by
  unfold want
  rw [List.range_succ, List.filter_append, List.length_append]
  cases h : gB S n k <;> simp [h]
theorem want_le (S : Nat → CRec) (n k : Nat) : want S n k ≤ k := by
  unfold want
  have := List.length_filter_le (gB S n) (List.range k)
  simpa using this
theorem want_all (S : Nat → CRec) (n : Nat) : (script S n).length = want S n n := count_script S n (gB S n) (fun _ hi => gB_iff hi)
/-- the last step that bears i's id -/
theorem final_split {S : Nat → CRec} {i f n : Nat} (hif : i ≤ f) (hfn : f < n) (hid : (S f).id = (S i).id) (hno : ∀ x, f < x → x < n → (S x).id ≠ (S i).id) : finalB S i n = decide (f = i) := by
  by_cases e : f = i
  · subst e
    rw [decide_eq_true rfl, finalB_true]
    rintro ⟨j, a, b, c⟩
    exact hno j a b c
  · rw [decide_eq_false e]
    cases h : finalB S i n
    · rfl
    · exact absurd ⟨f, by omega, hfn, hid⟩ (finalB_true.1 h)
/-- what the table says at i's claim, where nobody takes it behind i -/
theorem get_last {S : Nat → CRec} {i n : Nat} {k : Key} (hi : i < n) (hk : claim (S i) = some k) (hl : lastB S i n = true) : get (script S n) k = if finalB S i n then some (S i).id else none := by
  obtain ⟨_, h⟩ := get_script S n k
  obtain ⟨h1, h2⟩ := h i ((last_taker hi hk).1 hl)
  by_cases e : finalB S i n = true
  · rw [if_pos e]; exact h2 (finalB_true.1 e)
  · rw [if_neg e]
    refine h1 ?_
    by_cases hl : later S i n
    · exact hl
    · exact absurd (finalB_true.2 hl) e
end Go.Proofs.Qxb6615505a.Pl
