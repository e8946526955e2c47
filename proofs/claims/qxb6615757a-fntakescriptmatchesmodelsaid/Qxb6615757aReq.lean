/-
  WHAT A LOG KNOWS OF ITS CLIENTS, TOLD BY A PLAIN LIST ('Req'), AND (*Requests).record.
-/
import Derived.Test.Qxb6615757aTurn
namespace Go.Proofs.Qxb6615757a
open Go.RowKit

/-- a client -/
structure Cl where
  id : ByteArray
  seq : Int
  fst : Int
  ent : Int
  tm : Int

def Node (w : World) (b : Nat) (c : Cl) : Prop :=
  w.cell? ⟨b, 0, none⟩ = some (.int .u64 c.seq) ∧ w.cell? ⟨b, 1, none⟩ = some (.int .u64 c.fst) ∧ w.cell? ⟨b, 2, none⟩ = some (.int .i64 c.ent) ∧
    w.cell? ⟨b, 3, none⟩ = some (.string c.id) ∧ w.cell? ⟨b, 4, none⟩ = some (.int .i64 c.tm)

def Mp (w : World) : Option Nat → List (ByteArray × Nat) → Prop
  | none, tbl => tbl = []
  | some M, tbl => PMap w M tbl

abbrev Nodes := List (Nat × Cl)
abbrev blks (N : Nodes) : List Nat := N.map (·.1)

structure Req (w : World) (sb : Nat) (N : Nodes) (m : Option Nat) (tbl : List (ByteArray × Nat)) (now peak : Int) : Prop where
  nd : (blks N).Nodup
  lk : Lk (cellsOf w) sb (blks N)
  ns : sb ∉ blks N
  c0 : w.cell? ⟨sb, 0, none⟩ = some (.map m)
  c3 : w.cell? ⟨sb, 3, none⟩ = some (.int .i64 now)
  c4 : w.cell? ⟨sb, 4, none⟩ = some (.int .i64 peak)
  nodes : ∀ p ∈ N, Node w p.1 p.2
  fz : ∀ a, a = sb ∨ a ∈ blks N → ∀ o, w.frozen? ⟨a, o, none⟩ = false
  mp : Mp w m tbl
  tb : ∀ x b, Pl.get tbl x = some b ↔ ∃ c : Cl, (b, c) ∈ N ∧ c.id = x
  tl : tbl.length = N.length
  idl : ∀ p ∈ N, p.2.id.size ≤ maxLen
  tms : ∀ p ∈ N, 0 ≤ p.2.tm ∧ p.2.tm ≤ now
  nowb : 0 ≤ now ∧ now ≤ 9223372036854775807

/-- the blocks that are the log's -/
def foot (sb : Nat) (N : Nodes) (m : Option Nat) : List Nat := sb :: (m.toList ++ blks N)

theorem lt_of_cell {w : World} {a : Addr} {v : Value} (h : w.cell? a = some v) : a.block < w.heap.size := by
  unfold World.cell? at h
  cases e : w.heap[a.block]? with
  | none => rw [e] at h; simp at h
  | some o => exact (Array.getElem?_eq_some_iff.1 e).1

theorem Lk.congr {f g : Cells} {sb : Nat} {B : List Nat} (h : Lk f sb B) (hg : ∀ b, b = sb ∨ b ∈ B → ∀ o, g b o = f b o) : Lk g sb B :=
  ⟨(hg sb (.inl rfl) 1).trans h.old, (hg sb (.inl rfl) 2).trans h.new, fun i b hb => (hg b (.inr (List.mem_of_getElem? hb)) 5).trans (h.prv i b hb), fun i b hb => (hg b (.inr (List.mem_of_getElem? hb)) 6).trans (h.nxt i b hb)⟩
theorem Node.congr {w u : World} {b : Nat} {c : Cl} (h : Node w b c) (hu : ∀ o, o < 5 → u.cell? ⟨b, o, none⟩ = w.cell? ⟨b, o, none⟩) : Node u b c := by
  obtain ⟨h0, h1, h2, h3, h4⟩ := h
  exact ⟨(hu 0 (by omega)).trans h0, (hu 1 (by omega)).trans h1, (hu 2 (by omega)).trans h2, (hu 3 (by omega)).trans h3, (hu 4 (by omega)).trans h4⟩
theorem Mp.congr {w u : World} {m : Option Nat} {tbl : List (ByteArray × Nat)} (h : Mp w m tbl) (hu : ∀ k, m = some k → u.heap[k]? = w.heap[k]?) : Mp u m tbl := by
  cases m with
  | none => exact h
  | some M => exact PMap.of_block h (hu M rfl)
theorem Req.carry {w u : World} {sb : Nat} {N : Nodes} {m : Option Nat} {tbl : List (ByteArray × Nat)} {now peak : Int} (h : Req w sb N m tbl now peak) (hu : ∀ k, k ∈ foot sb N m → u.heap[k]? = w.heap[k]?) : Req u sb N m tbl now peak := by
  have h1 : ∀ a, a = sb ∨ a ∈ blks N → u.heap[a]? = w.heap[a]? := fun a ha => hu a (by
    unfold foot
    rcases ha with rfl | ha
    · simp
    · exact List.mem_cons_of_mem _ (List.mem_append_right _ ha))
  have hc : ∀ a, a = sb ∨ a ∈ blks N → ∀ o, u.cell? ⟨a, o, none⟩ = w.cell? ⟨a, o, none⟩ := fun a ha o => World.cell?_of_block (h1 a ha)
  exact ⟨h.nd, h.lk.congr hc, h.ns, (hc sb (.inl rfl) 0).trans h.c0, (hc sb (.inl rfl) 3).trans h.c3, (hc sb (.inl rfl) 4).trans h.c4,
    fun p hp => (h.nodes p hp).congr (fun o _ => hc p.1 (.inr (List.mem_map_of_mem hp)) o), fun a ha o => (World.frozen?_of_block (a := ⟨a, o, none⟩) (h1 a ha)).trans (h.fz a ha o),
    h.mp.congr (fun k e => hu k (by subst e; simp [foot])), h.tb, h.tl, h.idl, h.tms, h.nowb⟩
theorem Req.lt {w : World} {sb : Nat} {N : Nodes} {m : Option Nat} {tbl : List (ByteArray × Nat)} {now peak : Int} (h : Req w sb N m tbl now peak) : ∀ k, k ∈ foot sb N m → k < w.heap.size := by
  intro k hk
  unfold foot at hk
  rcases List.mem_cons.1 hk with rfl | hk
  · exact lt_of_cell h.c0
  · rcases List.mem_append.1 hk with hk | hk
    · cases m with
      | none => simp at hk
      | some M => simp at hk; subst hk; exact PMap.lt h.mp
    · obtain ⟨p, hp, rfl⟩ := List.mem_map.1 hk
      exact lt_of_cell (h.nodes p hp).1
theorem Req.grow {w u : World} {sb : Nat} {N : Nodes} {m : Option Nat} {tbl : List (ByteArray × Nat)} {now peak : Int} (h : Req w sb N m tbl now peak) (hu : Turn [] w u) : Req u sb N m tbl now peak :=
  h.carry fun k hk => hu.block k (h.lt k hk) (by simp)
/-- the map is none of the blocks of cells -/
theorem Req.map_off {w : World} {sb : Nat} {N : Nodes} {m : Option Nat} {tbl : List (ByteArray × Nat)} {now peak : Int} (h : Req w sb N m tbl now peak) {M : Nat} (e : m = some M) : M ≠ sb ∧ M ∉ blks N := by
  subst e
  have hm : PMap w M tbl := h.mp
  refine ⟨fun e => ?_, fun e => ?_⟩
  · subst e; have := h.c0; rw [hm.no_cell] at this; cases this
  · obtain ⟨p, hp, rfl⟩ := List.mem_map.1 e
    have := (h.nodes p hp).1; rw [hm.no_cell] at this; cases this

/-- one node b stands outside the list -/
structure Mid (w : World) (sb : Nat) (N : Nodes) (b : Nat) (m : Option Nat) (now peak : Int) : Prop where
  nd : (blks N).Nodup
  lk : Lk (cellsOf w) sb (blks N)
  ns : sb ∉ blks N
  nb : b ∉ blks N
  bs : b ≠ sb
  c0 : w.cell? ⟨sb, 0, none⟩ = some (.map m)
  c3 : w.cell? ⟨sb, 3, none⟩ = some (.int .i64 now)
  c4 : w.cell? ⟨sb, 4, none⟩ = some (.int .i64 peak)
  nodes : ∀ p ∈ N, Node w p.1 p.2
  fz : ∀ a, a = sb ∨ a = b ∨ a ∈ blks N → ∀ o, w.frozen? ⟨a, o, none⟩ = false
  b5 : w.cell? ⟨b, 5, none⟩ = some (ptr none)
  b6 : w.cell? ⟨b, 6, none⟩ = some (ptr none)

theorem cutOut_low (f : Cells) (sb : Nat) (p n : Option Nat) (b x o : Nat) (h1 : o ≠ 1 ∨ x ≠ sb) (h2 : o ≠ 2 ∨ x ≠ sb) (h5 : o ≠ 5) (h6 : o ≠ 6) : cutOut f sb p n b x o = f x o := by
  unfold cutOut
  rw [upd_off _ _ h6, upd_off _ _ h5]
  have e2 : cut2 (cut1 f sb p n) sb p n x o = cut1 f sb p n x o := by
    cases n with
    | none => rcases h2 with h | h
              · exact upd_off _ _ h
              · exact upd_blk _ _ h
    | some nb => exact upd_off _ _ h5
  rw [e2]
  cases p with
  | none => rcases h1 with h | h
            · exact upd_off _ _ h
            · exact upd_blk _ _ h
  | some pb => exact upd_off _ _ h6
theorem pushed_low (f : Cells) (sb : Nat) (B : List Nat) (b x o : Nat) (h1 : o ≠ 1 ∨ x ≠ sb) (h2 : o ≠ 2 ∨ x ≠ sb) (h5 : o ≠ 5) (h6 : o ≠ 6) : pushed f sb B b x o = f x o := by
  unfold pushed
  cases B[B.length - 1]? with
  | some l =>
    simp only
    have e : ∀ g : Cells, upd g sb 2 (ptr (some b)) x o = g x o := fun g => h2.elim (upd_off _ _) (upd_blk _ _)
    rw [e, upd_off _ _ h6, upd_off _ _ h5]
  | none =>
    simp only
    have e : ∀ g : Cells, upd g sb 2 (ptr (some b)) x o = g x o := fun g => h2.elim (upd_off _ _) (upd_blk _ _)
    have e1 : ∀ g : Cells, upd g sb 1 (ptr (some b)) x o = g x o := fun g => h1.elim (upd_off _ _) (upd_blk _ _)
    rw [e, e1, upd_off _ _ h5]

theorem blks_erase (N : Nodes) (k : Nat) : blks (N.eraseIdx k) = (blks N).eraseIdx k := by
  unfold blks
  induction N generalizing k with
  | nil => rfl
  | cons p N ih => cases k with
    | zero => rfl
    | succ k => simp only [List.eraseIdx_cons_succ, List.map_cons, ih]

/-- unlink -/
theorem unlink_req {w : World} {sb : Nat} {N : Nodes} {m : Option Nat} {tbl : List (ByteArray × Nat)} {now peak : Int} (h : Req w sb N m tbl now peak) {k b : Nat} {c : Cl} (hk : N[k]? = some (b, c)) :
    Calls Try.prog 50 #[.pointer (some ⟨sb, 0, none⟩), .pointer (some ⟨b, 0, none⟩)] w fun e w' => e = .returned (.tuple #[]) ∧
      Mid w' sb (N.eraseIdx k) b m now peak ∧ Node w' b c ∧ Mp w' m tbl ∧ Turn (sb :: blks N) w w' ∧ (∀ a, w'.frozen? a = w.frozen? a) ∧ ∀ o, 5 ≤ o → w'.cell? ⟨sb, o, none⟩ = w.cell? ⟨sb, o, none⟩ := by
  have hb : (blks N)[k]? = some b := by unfold blks; rw [List.getElem?_map, hk]; rfl
  have mb : b ∈ blks N := List.mem_of_getElem? hb
  have hbs : b ≠ sb := fun e => h.ns (e ▸ mb)
  have mc : (b, c) ∈ N := List.mem_of_getElem? hk
  refine (unlink_step h.lk h.nd hb h.fz).mono ?_
  rintro e w' ⟨he, hc, ht, hf⟩
  have lowc : ∀ x o, (o ≠ 1 ∨ x ≠ sb) → (o ≠ 2 ∨ x ≠ sb) → o ≠ 5 → o ≠ 6 → w'.cell? ⟨x, o, none⟩ = w.cell? ⟨x, o, none⟩ := fun x o h1 h2 h5 h6 =>
    (congrFun (congrFun hc x) o).trans (cutOut_low _ _ _ _ _ _ _ h1 h2 h5 h6)
  have hsub : ∀ a, a ∈ blks (N.eraseIdx k) → a ∈ blks N := fun a ha => by
    rw [blks_erase] at ha
    exact List.mem_of_mem_eraseIdx ha
  have hnode : ∀ p ∈ N, Node w' p.1 p.2 := fun p hp => by
    have hps : p.1 ≠ sb := fun e => h.ns (e ▸ List.mem_map_of_mem hp)
    exact (h.nodes p hp).congr (fun o ho => lowc p.1 o (.inr hps) (.inr hps) (by omega) (by omega))
  refine ⟨he, ⟨?_, ?_, fun hs => h.ns (hsub _ hs), ?_, hbs, (lowc sb 0 (.inl (by omega)) (.inl (by omega)) (by omega) (by omega)).trans h.c0, (lowc sb 3 (.inl (by omega)) (.inl (by omega)) (by omega) (by omega)).trans h.c3, (lowc sb 4 (.inl (by omega)) (.inl (by omega)) (by omega) (by omega)).trans h.c4,
    fun p hp => hnode p (List.mem_of_mem_eraseIdx hp), fun a ha o => (hf _).trans (h.fz a (ha.elim .inl (fun e => .inr (e.elim (fun e => e ▸ mb) (hsub a)))) o), ?_, ?_⟩, hnode _ mc, ?_, ht, hf, ?_⟩
  · rw [blks_erase]; exact h.nd.eraseIdx k
  · rw [hc, blks_erase]; exact h.lk.unlink h.nd hb h.ns
  · rw [blks_erase]
    intro e
    obtain ⟨i, hi, e⟩ := List.mem_eraseIdx_iff_getElem?.1 e
    exact hi (place_inj h.nd e hb)
  · refine (congrFun (congrFun hc b) 5).trans ?_
    unfold cutOut
    rw [upd_off _ _ (by omega), upd_same]
  · refine (congrFun (congrFun hc b) 6).trans ?_
    unfold cutOut
    rw [upd_same]
  · refine h.mp.congr (fun M e => ht.block M (h.lt M (by subst e; simp [foot])) ?_)
    have := h.map_off e
    simp only [List.mem_cons, not_or]
    exact this
  · intro o ho
    by_cases h5 : o = 5
    · subst h5
      refine (congrFun (congrFun hc sb) 5).trans ?_
      unfold cutOut
      rw [upd_off _ _ (by omega), upd_blk _ _ (fun e => hbs e.symm)]
      cases hx : (blks N)[k + 1]? with
      | none => exact (upd_off _ _ (by omega)).trans (cut1_off _ _ _ _ _ (by omega) (by omega))
      | some nb =>
        have : sb ≠ nb := fun e => h.ns (e ▸ List.mem_of_getElem? hx)
        exact (upd_blk _ _ this).trans (cut1_off _ _ _ _ _ (by omega) (by omega))
    · by_cases h6 : o = 6
      · subst h6
        refine (congrFun (congrFun hc sb) 6).trans ?_
        unfold cutOut
        rw [upd_blk _ _ (fun e => hbs e.symm), upd_blk _ _ (fun e => hbs e.symm)]
        refine (cut2_off _ _ _ _ _ (by omega) (by omega)).trans ?_
        cases hx : before (blks N) k with
        | none => exact upd_off _ _ (by omega)
        | some pb =>
          obtain ⟨j, _, hj⟩ := before_some hx
          have : sb ≠ pb := fun e => h.ns (e ▸ List.mem_of_getElem? hj)
          exact upd_blk _ _ this
      · exact lowc sb o (.inl (by omega)) (.inl (by omega)) h5 h6

/-- push -/
theorem push_mid {w : World} {sb : Nat} {N : Nodes} {b : Nat} {m : Option Nat} {tbl : List (ByteArray × Nat)} {now peak : Int} {c : Cl} (h : Mid w sb N b m now peak) (hc : Node w b c) (mp : Mp w m tbl)
    (tb : ∀ x b', Pl.get tbl x = some b' ↔ ∃ c' : Cl, (b', c') ∈ N ++ [(b, c)] ∧ c'.id = x) (tl : tbl.length = N.length + 1) (idl : ∀ p ∈ N ++ [(b, c)], p.2.id.size ≤ maxLen) (tms : ∀ p ∈ N ++ [(b, c)], 0 ≤ p.2.tm ∧ p.2.tm ≤ now) (nowb : 0 ≤ now ∧ now ≤ 9223372036854775807) :
    Calls Try.prog 51 #[.pointer (some ⟨sb, 0, none⟩), .pointer (some ⟨b, 0, none⟩)] w fun e w' => e = .returned (.tuple #[]) ∧
      Req w' sb (N ++ [(b, c)]) m tbl now peak ∧ Turn (sb :: b :: blks N) w w' ∧ (∀ a, w'.frozen? a = w.frozen? a) ∧ ∀ o, 5 ≤ o → w'.cell? ⟨sb, o, none⟩ = w.cell? ⟨sb, o, none⟩ := by
  have hbl : blks (N ++ [(b, c)]) = blks N ++ [b] := by simp [blks]
  refine (push_step h.lk h.nb h.b5 h.fz).mono ?_
  rintro e w' ⟨he, hcl, ht, hf⟩
  have lowc : ∀ x o, (o ≠ 1 ∨ x ≠ sb) → (o ≠ 2 ∨ x ≠ sb) → o ≠ 5 → o ≠ 6 → w'.cell? ⟨x, o, none⟩ = w.cell? ⟨x, o, none⟩ := fun x o h1 h2 h5 h6 =>
    (congrFun (congrFun hcl x) o).trans (pushed_low _ _ _ _ _ _ h1 h2 h5 h6)
  refine ⟨he, ⟨?_, ?_, ?_, (lowc sb 0 (.inl (by omega)) (.inl (by omega)) (by omega) (by omega)).trans h.c0, (lowc sb 3 (.inl (by omega)) (.inl (by omega)) (by omega) (by omega)).trans h.c3, (lowc sb 4 (.inl (by omega)) (.inl (by omega)) (by omega) (by omega)).trans h.c4,
    ?_, ?_, ?_, tb, by simp [tl], idl, tms, nowb⟩, ht, hf, ?_⟩
  · rw [hbl]
    exact List.nodup_append.2 ⟨h.nd, by simp, fun a ha a' ha' e => by simp at ha'; subst ha'; subst e; exact h.nb ha⟩
  · rw [hbl, hcl]
    exact h.lk.push h.nd h.nb h.ns h.bs h.b6
  · rw [hbl]
    simp only [List.mem_append, List.mem_singleton, not_or]
    exact ⟨h.ns, fun e => h.bs e.symm⟩
  · intro p hp
    rcases List.mem_append.1 hp with hp | hp
    · have hps : p.1 ≠ sb := fun e => h.ns (e ▸ List.mem_map_of_mem hp)
      exact (h.nodes p hp).congr (fun o ho => lowc p.1 o (.inr hps) (.inr hps) (by omega) (by omega))
    · simp at hp
      subst hp
      exact hc.congr (fun o ho => lowc b o (.inr h.bs) (.inr h.bs) (by omega) (by omega))
  · intro a ha o
    rw [hbl] at ha
    refine (hf _).trans (h.fz a ?_ o)
    rcases ha with ha | ha
    · exact .inl ha
    · rcases List.mem_append.1 ha with ha | ha
      · exact .inr (.inr ha)
      · exact .inr (.inl (by simpa using ha))
  · refine mp.congr (fun M e => ht.block M ?_ ?_)
    · subst e; exact PMap.lt mp
    · subst e
      have hm : PMap w M tbl := mp
      intro e
      rcases List.mem_cons.1 e with rfl | e
      · have := h.c0; rw [hm.no_cell] at this; cases this
      · rcases List.mem_cons.1 e with rfl | e
        · have := h.b5; rw [hm.no_cell] at this; cases this
        · obtain ⟨p, hp, rfl⟩ := List.mem_map.1 e
          have := (h.nodes p hp).1; rw [hm.no_cell] at this; cases this
  · intro o ho
    refine (congrFun (congrFun hcl sb) o).trans ?_
    unfold pushed
    cases hl : (blks N)[(blks N).length - 1]? with
    | some l =>
      simp only
      have : sb ≠ l := fun e => h.ns (e ▸ List.mem_of_getElem? hl)
      rw [upd_off _ _ (by omega), upd_blk _ _ this, upd_blk _ _ h.bs.symm]
      rfl
    | none =>
      simp only
      rw [upd_off _ _ (by omega), upd_off _ _ (by omega), upd_blk _ _ h.bs.symm]
      rfl
end Go.Proofs.Qxb6615757a
