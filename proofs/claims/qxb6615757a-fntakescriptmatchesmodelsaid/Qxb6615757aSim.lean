/-
  THE PLAIN LAW: the log's list and the model's list know the same clients.
-/
import Derived.Test.Qxb6615757aMcl
namespace Go.Proofs.Qxb6615757a

def Uq (L : List Cl) : Prop := (L.map (·.id)).Nodup
def Srt (L : List Cl) : Prop := L.Pairwise (fun a b => a.tm ≤ b.tm)
structure Sim (L cs : List Cl) (now : Int) : Prop where
  uL : Uq L
  uC : Uq cs
  mem : ∀ c, c ∈ L ↔ c ∈ cs
  srt : Srt L
  tms : ∀ c ∈ L, 0 ≤ c.tm ∧ c.tm ≤ now

theorem uq_place {L : List Cl} (h : Uq L) {i j : Nat} {c d : Cl} (hi : L[i]? = some c) (hj : L[j]? = some d) (e : c.id = d.id) : i = j := by
  have h1 : (L.map (·.id))[i]? = some c.id := by rw [List.getElem?_map, hi]; rfl
  have h2 : (L.map (·.id))[j]? = some d.id := by rw [List.getElem?_map, hj]; rfl
  have l1 := (List.getElem?_eq_some_iff.1 h1).1
  exact (List.getElem?_inj l1 h).1 (by rw [h1, h2, e])
theorem uq_one {L : List Cl} (h : Uq L) {c d : Cl} (hc : c ∈ L) (hd : d ∈ L) (e : c.id = d.id) : c = d := by
  obtain ⟨i, hi⟩ := List.mem_iff_getElem?.1 hc
  obtain ⟨j, hj⟩ := List.mem_iff_getElem?.1 hd
  have := uq_place h hi hj e
  subst this
  rw [hi] at hj
  exact Option.some.inj hj
theorem fnd_some {L : List Cl} {x : ByteArray} {k : Nat} (h : fnd L x = some k) : ∃ c, L[k]? = some c ∧ c.id = x := by
  unfold fnd at h
  rw [List.findIdx?_eq_some_iff_getElem] at h
  obtain ⟨hk, h1, _⟩ := h
  exact ⟨L[k], List.getElem?_eq_getElem hk, by simpa using h1⟩
theorem fnd_none {L : List Cl} {x : ByteArray} : fnd L x = none ↔ ∀ c ∈ L, ¬ c.id = x := by
  unfold fnd
  rw [List.findIdx?_eq_none_iff]
  constructor
  · intro h c hc; simpa using h c hc
  · intro h c hc; simpa using h c hc
theorem fnd_of {L : List Cl} {x : ByteArray} (u : Uq L) {k : Nat} {c : Cl} (hk : L[k]? = some c) (hx : c.id = x) : fnd L x = some k := by
  cases h : fnd L x with
  | none => exact absurd hx (fnd_none.1 h c (List.mem_of_getElem? hk))
  | some j =>
    obtain ⟨d, hd, e⟩ := fnd_some h
    rw [uq_place u hd hk (by rw [e, hx])]
theorem mem_erase {L : List Cl} (u : Uq L) {k : Nat} {c : Cl} (hk : L[k]? = some c) (d : Cl) : d ∈ L.eraseIdx k ↔ d ∈ L ∧ ¬ d.id = c.id := by
  rw [List.mem_eraseIdx_iff_getElem?]
  constructor
  · rintro ⟨i, hne, hi⟩
    exact ⟨List.mem_of_getElem? hi, fun e => hne (uq_place u hi hk e)⟩
  · rintro ⟨hd, hne⟩
    obtain ⟨i, hi⟩ := List.mem_iff_getElem?.1 hd
    refine ⟨i, fun e => ?_, hi⟩
    subst e
    rw [hk] at hi
    cases hi
    exact hne rfl
theorem mem_set {L : List Cl} (u : Uq L) {k : Nat} {c : Cl} (hk : L[k]? = some c) (n d : Cl) : d ∈ L.set k n ↔ d = n ∨ (d ∈ L ∧ ¬ d.id = c.id) := by
  have hlt := (List.getElem?_eq_some_iff.1 hk).1
  constructor
  · intro h
    obtain ⟨i, hi⟩ := List.mem_iff_getElem?.1 h
    by_cases e : k = i
    · subst e
      rw [List.getElem?_set_self hlt] at hi
      exact .inl (Option.some.inj hi).symm
    · rw [List.getElem?_set_ne e] at hi
      exact .inr ⟨List.mem_of_getElem? hi, fun e' => e (uq_place u hi hk e').symm⟩
  · rintro (rfl | ⟨hd, hne⟩)
    · exact List.mem_iff_getElem?.2 ⟨k, List.getElem?_set_self hlt⟩
    · obtain ⟨i, hi⟩ := List.mem_iff_getElem?.1 hd
      refine List.mem_iff_getElem?.2 ⟨i, ?_⟩
      rw [List.getElem?_set_ne]
      · exact hi
      · intro e
        subst e
        rw [hk] at hi
        cases hi
        exact hne rfl
theorem uq_set {L : List Cl} (u : Uq L) {k : Nat} {c n : Cl} (hk : L[k]? = some c) (e : n.id = c.id) : Uq (L.set k n) := by
  have h : (L.set k n).map (·.id) = L.map (·.id) := by
    apply List.ext_getElem?
    intro i
    rw [List.getElem?_map, List.getElem?_map]
    by_cases hi : k = i
    · subst hi
      rw [List.getElem?_set_self (List.getElem?_eq_some_iff.1 hk).1, hk]
      simp [e]
    · rw [List.getElem?_set_ne hi]
  unfold Uq
  rw [h]
  exact u
theorem uq_append {L : List Cl} (u : Uq L) {n : Cl} (h : ∀ c ∈ L, ¬ c.id = n.id) : Uq (L ++ [n]) := by
  unfold Uq
  rw [List.map_append]
  refine List.nodup_append.2 ⟨u, by simp, fun a ha b hb e => ?_⟩
  obtain ⟨c, hc, rfl⟩ := List.mem_map.1 ha
  simp at hb
  exact h c hc (e.trans hb)
theorem uq_sub {L M : List Cl} (u : Uq L) (h : M.Sublist L) : Uq M := List.Nodup.sublist (h.map _) u

theorem keep_old (now : Int) (c : Cl) : keepC now c = !oldL now c := by
  unfold keepC oldL
  by_cases h : now - c.tm ≤ 3600000
  · have : ¬ 3600000 < now - c.tm := by omega
    simp [h, this]
  · have : 3600000 < now - c.tm := by omega
    simp [h, this]
theorem drop_prn {L : List Cl} (h : Srt L) (now : Int) : L.dropWhile (oldL now) = prn L now := by
  unfold prn
  induction L with
  | nil => rfl
  | cons c L ih =>
    have h1 := List.pairwise_cons.1 h
    rw [List.dropWhile_cons, List.filter_cons, keep_old]
    cases e : oldL now c with
    | true => simpa using ih h1.2
    | false =>
      simp only [Bool.not_false, if_true]
      rw [if_neg (by simp)]
      congr 1
      symm
      rw [List.filter_eq_self]
      intro d hd
      have hle := h1.1 d hd
      rw [keep_old]
      unfold oldL at e ⊢
      simp only [decide_eq_false_iff_not] at e
      simp
      omega
theorem mem_prn (L : List Cl) (now : Int) (c : Cl) : c ∈ prn L now ↔ c ∈ L ∧ keepC now c = true := by unfold prn; exact List.mem_filter

/-- what the model knows after a request -/
def modC (cs : List Cl) (x : ByteArray) (q n f now : Int) : Bool × List Cl :=
  if x = ByteArray.empty then (true, cs) else
  match fnd cs x with
  | none => (true, cs ++ [⟨x, q, f, n, now⟩])
  | some k => if q ≤ (cs[k]?.map (·.seq)).getD 0 then (false, cs) else (true, cs.set k ⟨x, q, f, n, now⟩)

theorem Sim.prune {L cs : List Cl} {now : Int} (h : Sim L cs now) (now' : Int) (hn : now = now') : Sim (L.dropWhile (oldL now')) (prn cs now') now' := by
  subst hn
  have e := drop_prn h.srt now
  have hs : (prn L now).Sublist L := List.filter_sublist
  have hs2 : (prn cs now).Sublist cs := List.filter_sublist
  rw [e]
  exact ⟨uq_sub h.uL hs, uq_sub h.uC hs2, fun c => by rw [mem_prn, mem_prn, h.mem], h.srt.sublist hs, fun c hc => h.tms c (hs.mem hc)⟩
theorem Sim.later {L cs : List Cl} {now now' : Int} (h : Sim L cs now) (hn : now ≤ now') : Sim L cs now' := ⟨h.uL, h.uC, h.mem, h.srt, fun c hc => by have := h.tms c hc; omega⟩

theorem sim_took {L cs : List Cl} {now : Int} (h : Sim L cs now) (h0 : 0 ≤ now) (x : ByteArray) (q n f : Int) : (tookL L x q n f now).1 = (modC cs x q n f now).1 ∧ Sim (tookL L x q n f now).2 (modC cs x q n f now).2 now := by
  unfold tookL modC
  by_cases hx : x = ByteArray.empty
  · rw [if_pos hx, if_pos hx]
    exact ⟨rfl, h⟩
  rw [if_neg hx, if_neg hx]
  unfold recL
  have hfd : L.findIdx? (fun c => decide (c.id = x)) = fnd L x := rfl
  rw [hfd]
  cases hc : fnd cs x with
  | none =>
    have hno := fnd_none.1 hc
    have hnL : fnd L x = none := fnd_none.2 (fun c hcL => hno c ((h.mem c).1 hcL))
    rw [hnL]
    refine ⟨rfl, uq_append h.uL (fun c hcL => hno c ((h.mem c).1 hcL)), uq_append h.uC hno, fun c => by simp [h.mem c], ?_, fun c hcL => ?_⟩
    · refine List.pairwise_append.2 ⟨h.srt, by simp, fun a ha b hb => ?_⟩
      simp at hb
      subst hb
      exact (h.tms a ha).2
    · rcases List.mem_append.1 hcL with hcL | hcL
      · exact h.tms c hcL
      · simp at hcL
        subst hcL
        exact ⟨h0, Int.le_refl _⟩
  | some k =>
    obtain ⟨c, hk, hid⟩ := fnd_some hc
    obtain ⟨j, hj⟩ := List.mem_iff_getElem?.1 ((h.mem c).2 (List.mem_of_getElem? hk))
    rw [fnd_of h.uL hj hid]
    simp only [hk, hj, Option.map_some, Option.getD_some]
    by_cases hq : q ≤ c.seq
    · rw [if_pos hq, if_pos hq]
      exact ⟨rfl, h⟩
    rw [if_neg hq, if_neg hq]
    have hsub : (L.eraseIdx j).Sublist L := List.eraseIdx_sublist L j
    refine ⟨rfl, uq_append (uq_sub h.uL hsub) (fun d hd e => ((mem_erase h.uL hj d).1 hd).2 (e.trans hid.symm)), uq_set h.uC hk hid.symm, fun d => ?_, ?_, fun d hd => ?_⟩
    · rw [mem_set h.uC hk, List.mem_append, mem_erase h.uL hj, h.mem d]
      simp
      exact Or.comm
    · refine List.pairwise_append.2 ⟨h.srt.sublist hsub, by simp, fun a ha b hb => ?_⟩
      simp at hb
      subst hb
      exact (h.tms a (hsub.mem ha)).2
    · rcases List.mem_append.1 hd with hd | hd
      · exact h.tms d (hsub.mem hd)
      · simp at hd
        subst hd
        exact ⟨h0, Int.le_refl _⟩
theorem sim_look {L cs : List Cl} {now : Int} (h : Sim L cs now) (x : ByteArray) : lookL L x = (fnd cs x).bind (cs[·]?) := by
  have hfd : lookL L x = (fnd L x).bind (L[·]?) := rfl
  rw [hfd]
  cases hc : fnd cs x with
  | none =>
    have hno := fnd_none.1 hc
    rw [fnd_none.2 (fun c hcL => hno c ((h.mem c).1 hcL))]
    rfl
  | some k =>
    obtain ⟨c, hk, hid⟩ := fnd_some hc
    obtain ⟨j, hj⟩ := List.mem_iff_getElem?.1 ((h.mem c).2 (List.mem_of_getElem? hk))
    rw [fnd_of h.uL hj hid]
    show L[j]? = cs[k]?
    rw [hk, hj]
theorem sim_nil : Sim [] [] 0 := ⟨by simp [Uq], by simp [Uq], fun c => Iff.rfl, by simp [Srt], fun c hc => by simp at hc⟩
theorem took_length (L : List Cl) (x : ByteArray) (q n f now : Int) : (tookL L x q n f now).2.length ≤ L.length + 1 := by
  unfold tookL
  split
  · simp
  · unfold recL
    split
    · simp
    · rename_i k _
      split
      · simp
      · simp [List.length_eraseIdx]
        split <;> omega
theorem drop_length (L : List Cl) (now : Int) : (L.dropWhile (oldL now)).length ≤ L.length := (List.dropWhile_sublist _).length_le
theorem modC_length (cs : List Cl) (x : ByteArray) (q n f now : Int) : (modC cs x q n f now).2.length ≤ cs.length + 1 := by
  unfold modC
  split
  · simp
  · split
    · simp
    · split <;> simp
theorem prn_length (cs : List Cl) (now : Int) : (prn cs now).length ≤ cs.length := List.length_filter_le _ _
end Go.Proofs.Qxb6615757a
