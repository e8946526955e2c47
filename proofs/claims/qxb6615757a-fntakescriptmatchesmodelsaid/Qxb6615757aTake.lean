/-
  (*Requests).Take and (*ruleState).take, said of the plain list of clients.
-/
import Derived.Test.Qxb6615757aForget
namespace Go.Proofs.Qxb6615757a
open Go.RowKit

/-- what the log knows after a request -/
def recL (L : List Cl) (x : ByteArray) (q n f now : Int) : Bool × List Cl :=
  match L.findIdx? (fun c => decide (c.id = x)) with
  | none => (true, L ++ [⟨x, q, f, n, now⟩])
  | some k => if q ≤ (L[k]?.map (·.seq)).getD 0 then (false, L) else (true, L.eraseIdx k ++ [⟨x, q, f, n, now⟩])
def oldL (now : Int) (c : Cl) : Bool := decide (3600000 < now - c.tm)
def tookL (L : List Cl) (x : ByteArray) (q n f now : Int) : Bool × List Cl := if x = ByteArray.empty then (true, L) else recL L x q n f now

/-- the log in memory: its blocks lie in F -/
def RS (F : List Nat) (w : World) (sb : Nat) (L : List Cl) (now K : Int) : Prop :=
  ∃ N m tbl peak, N.map (·.2) = L ∧ Req w sb N m tbl now peak ∧ 0 ≤ peak ∧ peak ≤ K ∧ ∀ k ∈ foot sb N m, k ∈ F
/-- what a call left -/
def Aft (F : List Nat) (w w' : World) (sb : Nat) (L : List Cl) (now K : Int) : Prop :=
  ∃ F', RS F' w' sb L now K ∧ Turn F w w' ∧ (∀ k ∈ F', k ∈ F ∨ w.heap.size ≤ k) ∧ (∀ a, w'.frozen? a = w.frozen? a) ∧ ∀ o, 5 ≤ o → w'.cell? ⟨sb, o, none⟩ = w.cell? ⟨sb, o, none⟩

theorem Req.find_none {w : World} {sb : Nat} {N : Nodes} {m : Option Nat} {tbl : List (ByteArray × Nat)} {now peak : Int} (h : Req w sb N m tbl now peak) {x : ByteArray} (hg : Pl.get tbl x = none) : (N.map (·.2)).findIdx? (fun c => decide (c.id = x)) = none := by
  rw [List.findIdx?_eq_none_iff]
  intro c hc
  obtain ⟨⟨b, c'⟩, hp, rfl⟩ := List.mem_map.1 hc
  simp only [decide_eq_false_iff_not]
  intro e
  have := (h.tb x b).2 ⟨c', hp, e⟩
  rw [hg] at this; cases this
theorem Req.find_some {w : World} {sb : Nat} {N : Nodes} {m : Option Nat} {tbl : List (ByteArray × Nat)} {now peak : Int} (h : Req w sb N m tbl now peak) {x : ByteArray} {b : Nat} (hg : Pl.get tbl x = some b) :
    ∃ k c, N[k]? = some (b, c) ∧ c.id = x ∧ (N.map (·.2)).findIdx? (fun c => decide (c.id = x)) = some k := by
  obtain ⟨c, hm, hid⟩ := (h.tb x b).1 hg
  obtain ⟨k, hk⟩ := List.mem_iff_getElem?.1 hm
  refine ⟨k, c, hk, hid, ?_⟩
  obtain ⟨hlt, hk'⟩ := List.getElem?_eq_some_iff.1 hk
  rw [List.findIdx?_eq_some_iff_getElem]
  refine ⟨by simpa using hlt, by simp [hk', hid], fun j hj => ?_⟩
  simp only [List.getElem_map, decide_eq_true_eq]
  intro e
  have hj' : j < N.length := by omega
  have m2 : N[j] ∈ N := List.getElem_mem hj'
  have g2 := (h.tb x N[j].1).2 ⟨N[j].2, m2, e⟩
  rw [hg] at g2
  have e1 : (blks N)[j]? = some b := by unfold blks; rw [List.getElem?_map, List.getElem?_eq_getElem hj']; simp only [Option.map_some]; exact g2.symm
  have e2 : (blks N)[k]? = some b := by unfold blks; rw [List.getElem?_map, hk]; rfl
  have := place_inj h.nd e1 e2
  omega
theorem map_erase (N : Nodes) (k : Nat) : (N.eraseIdx k).map (·.2) = (N.map (·.2)).eraseIdx k := by
  induction N generalizing k with
  | nil => rfl
  | cons p N ih => cases k with
    | zero => rfl
    | succ k => simp only [List.eraseIdx_cons_succ, List.map_cons, ih]

theorem Aft.still {F : List Nat} {w w' : World} {sb : Nat} {L : List Cl} {now K : Int} (h : RS F w sb L now K) (ht : Turn [] w w') (hf : ∀ a, w'.frozen? a = w.frozen? a) : Aft F w w' sb L now K := by
  obtain ⟨N, m, tbl, peak, hL, hr, h1, h2, h3⟩ := h
  exact ⟨F, ⟨N, m, tbl, peak, hL, hr.grow ht, h1, h2, h3⟩, ht.mono (fun _ e => by simp at e), fun k hk => .inl hk, hf, fun o _ => World.cell?_of_block (ht.block sb (lt_of_cell hr.c0) (by simp))⟩

theorem record_any {F : List Nat} {w : World} {sb : Nat} {L : List Cl} {now K : Int} (h : RS F w sb L now K) {x : ByteArray} (q n f : Int) (hx : x.size ≤ maxLen) (hlen : L.length < maxLen) (hK : (L.length : Int) + 1 ≤ K) :
    Calls Try.prog 45 #[.pointer (some ⟨sb, 0, none⟩), .agg #[.string x, .int .u64 q], .int .i64 n, .int .u64 f] w fun e w' => e = .returned (.bool (recL L x q n f now).1) ∧ Aft F w w' sb (recL L x q n f now).2 now K := by
  have h0 := h
  obtain ⟨N, m, tbl, peak, rfl, hr, hp0, hpK, hF⟩ := h
  have hN : (N.map (·.2)).length = N.length := by simp
  rw [hN] at hlen hK
  cases hg : Pl.get tbl x with
  | none =>
    have hfi := hr.find_none hg
    have e1 : recL (N.map (·.2)) x q n f now = (true, N.map (·.2) ++ [⟨x, q, f, n, now⟩]) := by unfold recL; rw [hfi]
    rw [e1]
    have fin : ∀ (w' : World) (b M' : Nat) (peak' : Int), w.heap.size ≤ b → (M' ∈ foot sb N m ∨ w.heap.size ≤ M') → (peak ≤ peak' ∧ peak' ≤ max peak (N.length + 1)) → Req w' sb (N ++ [(b, ⟨x, q, f, n, now⟩)]) (some M') (Pl.put tbl x b) now peak' → Turn (foot sb N m) w w' → (∀ a, w'.frozen? a = w.frozen? a) → (∀ o, 5 ≤ o → w'.cell? ⟨sb, o, none⟩ = w.cell? ⟨sb, o, none⟩) →
        Aft F w w' sb (N.map (·.2) ++ [⟨x, q, f, n, now⟩]) now K := by
      intro w' b M' peak' hb hM hpk hr' ht hf h5
      refine ⟨foot sb (N ++ [(b, ⟨x, q, f, n, now⟩)]) (some M'), ⟨_, _, _, peak', by simp, hr', by omega, by omega, fun _ hk => hk⟩, ht.mono (fun a ha _ => hF a ha), ?_, hf, h5⟩
      intro k hk
      unfold foot at hk
      simp only [Option.toList_some, List.map_append, List.map_cons, List.map_nil, List.mem_cons, List.mem_append, List.not_mem_nil, or_false] at hk
      rcases hk with rfl | rfl | hk | rfl
      · exact .inl (hF _ (by simp [foot]))
      · exact hM.elim (fun e => .inl (hF _ e)) .inr
      · exact .inl (hF _ (List.mem_cons_of_mem _ (List.mem_append_right _ hk)))
      · exact .inr hb
    cases m with
    | none =>
      refine (record_new_none hr q n f hx hg hlen).mono ?_
      rintro e w' ⟨he, b, M', peak', hb, hM, hpk, hr', ht, hf, h5⟩
      exact ⟨he, fin w' b M' peak' hb hM hpk hr' ht hf h5⟩
    | some M =>
      refine (record_new_some hr q n f hx hg hlen).mono ?_
      rintro e w' ⟨he, b, M', peak', hb, hM, hpk, hr', ht, hf, h5⟩
      exact ⟨he, fin w' b M' peak' hb hM hpk hr' ht hf h5⟩
  | some b =>
    obtain ⟨k, c, hk, hid, hfi⟩ := hr.find_some hg
    have hLk : (N.map (·.2))[k]? = some c := by rw [List.getElem?_map, hk]; rfl
    have mc : (b, c) ∈ N := List.mem_of_getElem? hk
    by_cases hq : q ≤ c.seq
    · have e1 : recL (N.map (·.2)) x q n f now = (false, N.map (·.2)) := by unfold recL; rw [hfi]; simp [hLk, hq]
      rw [e1]
      have hlook : ∀ (cc : Array Value) (t : TypeId) (n : Nat), (Instr.lookup 60 (.map m) (.string x) false).run Try.prog ((w.alloc (.cells cc t)).drewN n) = .ok (.pointer (some ⟨b, 0, none⟩)) ((w.alloc (.cells cc t)).drewN n) := fun cc t n => by
        have := hr.mp.look (u := (w.alloc (.cells cc t)).drewN n) (fun k hk => heap_alloc_drewN w _ n k hk) hx
        rw [hg] at this
        exact this
      have s0 := (hr.nodes _ mc).1
      refine (record_old sb b x q n f c.seq m w (lt_of_cell hr.c0) (lt_of_cell s0) hr.c0 hlook s0 (by simpa using hq)).mono ?_
      rintro e w' ⟨he, ht, hf⟩
      exact ⟨he, Aft.still h0 ht hf⟩
    · subst hid
      have e1 : recL (N.map (·.2)) c.id q n f now = (true, (N.map (·.2)).eraseIdx k ++ [⟨c.id, q, f, n, now⟩]) := by unfold recL; rw [hfi]; simp [hLk, hq]
      rw [e1]
      refine (record_later hr hk q n f hx hq).mono ?_
      rintro e w' ⟨he, hr', ht, hf, h5⟩
      refine ⟨he, foot sb (N.eraseIdx k ++ [(b, ⟨c.id, q, f, n, now⟩)]) m, ⟨_, _, _, peak, by rw [List.map_append, map_erase]; rfl, hr', hp0, hpK, fun _ hk => hk⟩, ht.mono (fun a ha _ => hF a ha), ?_, hf, h5⟩
      intro a ha
      refine .inl (hF a ?_)
      unfold foot at ha ⊢
      simp only [List.map_append, List.map_cons, List.map_nil, List.mem_cons, List.mem_append, List.not_mem_nil, or_false] at ha ⊢
      rcases ha with rfl | ha | ha | rfl
      · exact .inl rfl
      · exact .inr (.inl ha)
      · obtain ⟨p, hp, rfl⟩ := List.mem_map.1 ha
        exact .inr (.inr (List.mem_map_of_mem (List.mem_of_mem_eraseIdx hp)))
      · exact .inr (.inr (List.mem_map_of_mem (f := (·.1)) mc))
theorem dropW (now : Int) (N : Nodes) : (N.dropWhile (old now)).map (·.2) = (N.map (·.2)).dropWhile (oldL now) := by
  induction N with
  | nil => rfl
  | cons p N ih =>
    simp only [List.dropWhile_cons, List.map_cons]
    have : old now p = oldL now p.2 := rfl
    rw [← this]
    split
    · exact ih
    · rfl
theorem mem_dropW {α : Type} (p : α → Bool) (l : List α) (x : α) (h : x ∈ l.dropWhile p) : x ∈ l := (List.dropWhile_sublist p).mem h
theorem forget_any {F : List Nat} {w : World} {sb : Nat} {L : List Cl} {now K : Int} (h : RS F w sb L now K) (hK : K ≤ 9223372036854775807) :
    Calls Try.prog 46 #[.pointer (some ⟨sb, 0, none⟩)] w fun e w' => e = .returned (.tuple #[]) ∧ Aft F w w' sb (L.dropWhile (oldL now)) now K := by
  obtain ⟨N, m, tbl, peak, rfl, hr, hp0, hpK, hF⟩ := h
  refine (forget_c hr hp0 (by omega)).mono ?_
  rintro e w' ⟨he, tbl', m', peak', hr', hp0', hpk', hm', ht, hf, h5⟩
  refine ⟨he, foot sb (N.dropWhile (old now)) m', ⟨_, _, _, peak', dropW now N, hr', hp0', by omega, fun _ hk => hk⟩, ht.mono (fun a ha _ => hF a ha), ?_, hf, h5⟩
  intro a ha
  unfold foot at ha
  simp only [List.mem_cons, List.mem_append] at ha
  rcases ha with rfl | ha | ha
  · exact .inl (hF _ (by simp [foot]))
  · rcases hm' with rfl | ⟨M', rfl, hM⟩
    · exact .inl (hF a (List.mem_cons_of_mem _ (List.mem_append_left _ ha)))
    · simp at ha
      subst ha
      exact .inr hM
  · obtain ⟨p, hp, rfl⟩ := List.mem_map.1 ha
    exact .inl (hF _ (List.mem_cons_of_mem _ (List.mem_append_right _ (List.mem_map_of_mem (mem_dropW _ _ _ hp)))))

/-- the log's time goes on -/
theorem RS.time {F : List Nat} {w : World} {sb : Nat} {L : List Cl} {now K : Int} (h : RS F w sb L now K) {now' : Int} (h1 : now ≤ now') (h2 : now' ≤ 9223372036854775807) : Aft F w (w.setCell ⟨sb, 3, none⟩ (.int .i64 now')) sb L now' K := by
  obtain ⟨N, m, tbl, peak, rfl, h, hp0, hpK, hF⟩ := h
  have cl := cells_set h.c3 (.int .i64 now')
  have hc : ∀ a o, a ≠ sb ∨ o ≠ 3 → (w.setCell ⟨sb, 3, none⟩ (.int .i64 now')).cell? ⟨a, o, none⟩ = w.cell? ⟨a, o, none⟩ := fun a o ha => (congrFun (congrFun cl a) o).trans (ha.elim (upd_blk _ _) (upd_off _ _))
  refine ⟨F, ⟨N, m, tbl, peak, rfl, ⟨h.nd, ?_, h.ns, (hc sb 0 (.inr (by omega))).trans h.c0, (congrFun (congrFun cl sb) 3).trans (upd_same _ _ _ _), (hc sb 4 (.inr (by omega))).trans h.c4,
    fun p hp => (h.nodes p hp).congr (fun o _ => hc p.1 o (.inl (fun e => h.ns (e ▸ List.mem_map_of_mem hp)))), fun a ha o => by rw [World.frozen?_setCell]; exact h.fz a ha o, ?_, h.tb, h.tl, h.idl, fun p hp => ⟨(h.tms p hp).1, Int.le_trans (h.tms p hp).2 h1⟩, ⟨by have := h.nowb; omega, h2⟩⟩, hp0, hpK, hF⟩, (Turn.refl F w).setCell (fun _ => hF sb (by simp [foot])) _, fun k hk => .inl hk, fun a => by simp, fun o ho => hc sb o (.inr (by omega))⟩
  · exact ⟨(hc sb 1 (.inr (by omega))).trans h.lk.old, (hc sb 2 (.inr (by omega))).trans h.lk.new, fun i x hx => (hc x 5 (.inr (by omega))).trans (h.lk.prv i x hx), fun i x hx => (hc x 6 (.inr (by omega))).trans (h.lk.nxt i x hx)⟩
  · refine h.mp.congr (fun M e => Below.heap_setCell _ _ _ _ (h.map_off e).1)
theorem Aft.trans {F : List Nat} {a b c : World} {sb : Nat} {L : List Cl} {now K : Int} (F1 : List Nat) (ht : Turn F a b) (hF : ∀ k ∈ F1, k ∈ F ∨ a.heap.size ≤ k) (hf : ∀ x, b.frozen? x = a.frozen? x) (h5 : ∀ o, 5 ≤ o → b.cell? ⟨sb, o, none⟩ = a.cell? ⟨sb, o, none⟩) (h : Aft F1 b c sb L now K) : Aft F a c sb L now K := by
  obtain ⟨F2, hr, ht2, hF2, hf2, h52⟩ := h
  refine ⟨F2, hr, ht.trans ht2 (fun x hx hlt => (hF x hx).elim id (fun e => by omega)), fun k hk => ?_, fun x => (hf2 x).trans (hf x), fun o ho => (h52 o ho).trans (h5 o ho)⟩
  rcases hF2 k hk with e | e
  · exact hF k e
  · exact .inr (Nat.le_trans ht.size e)
end Go.Proofs.Qxb6615757a
