/-
  (*Requests).record
-/
import Derived.Test.Qxb6615757aReq
import Derived.Deep.CutRange
import Derived.Deep.CutBlock
namespace Go.Proofs.Qxb6615757a
open Go.RowKit

theorem Mp.look {w u : World} {m : Option Nat} {tbl : List (ByteArray × Nat)} (h : Mp w m tbl) (hu : ∀ k, k < w.heap.size → u.heap[k]? = w.heap[k]?) {x : ByteArray} (hx : x.size ≤ maxLen) :
    (Instr.lookup 60 (.map m) (.string x) false).run Try.prog u = .ok (ptr (Pl.get tbl x)) u := by
  cases m with
  | none => have e : tbl = [] := h; subst e; exact look_nil hx
  | some M => have e : PMap w M tbl := h; exact (e.of_block (hu M e.lt)).look hx
theorem heap_alloc_drewN (w : World) (o : Obj) (n : Nat) (k : Nat) (h : k < w.heap.size) : ((w.alloc o).drewN n).heap[k]? = w.heap[k]? := Below.heap_alloc w o k h

set_option maxHeartbeats 2000000 in
/-- a request not later than the client's latest -/
theorem record_old (sb b : Nat) (x : ByteArray) (q n f sq : Int) (m : Option Nat) (w : World) (hs : sb < w.heap.size) (hb : b < w.heap.size) (c0 : w.cell? ⟨sb, 0, none⟩ = some (.map m))
    (hlook : ∀ (c : Array Value) (t : TypeId) (n : Nat), (Instr.lookup 60 (.map m) (.string x) false).run Try.prog ((w.alloc (.cells c t)).drewN n) = .ok (.pointer (some ⟨b, 0, none⟩)) ((w.alloc (.cells c t)).drewN n))
    (s0 : w.cell? ⟨b, 0, none⟩ = some (.int .u64 sq)) (hq : decide (q ≤ sq) = true) :
    Calls Try.prog 45 #[.pointer (some ⟨sb, 0, none⟩), .agg #[.string x, .int .u64 q], .int .i64 n, .int .u64 f] w fun e w' => e = .returned (.bool false) ∧ Turn [] w w' ∧ ∀ a, w'.frozen? a = w.frozen? a := by
  go_enter Try.func45, Try.ntmps45
  go_wp2
  go_quiet (fail)
  go_wp2
  go_quiet (fail)
  go_wp2
  go_ret
  exact ⟨rfl, (((Turn.refl [] w).alloc _).drewN _).drewN _, fun a => frozen?_alloc_cells _ _ _ a⟩

theorem eql_some (M : Nat) (u : World) : (binOp .eql 60 (.map (some M)) (.map none)).run Try.prog u = .ok (.bool false) u := by kernel_rfl
theorem eql_none (u : World) : (binOp .eql 60 (.map none) (.map none)).run Try.prog u = .ok (.bool true) u := by kernel_rfl
theorem Mid.carry {w u : World} {sb : Nat} {N : Nodes} {b : Nat} {m : Option Nat} {now peak : Int} (h : Mid w sb N b m now peak) (hu : ∀ a, a = sb ∨ a = b ∨ a ∈ blks N → u.heap[a]? = w.heap[a]?) : Mid u sb N b m now peak := by
  have hc : ∀ a, a = sb ∨ a = b ∨ a ∈ blks N → ∀ o, u.cell? ⟨a, o, none⟩ = w.cell? ⟨a, o, none⟩ := fun a ha o => World.cell?_of_block (hu a ha)
  exact ⟨h.nd, h.lk.congr (fun a ha o => hc a (ha.elim .inl (fun e => .inr (.inr e))) o), h.ns, h.nb, h.bs, (hc sb (.inl rfl) 0).trans h.c0, (hc sb (.inl rfl) 3).trans h.c3, (hc sb (.inl rfl) 4).trans h.c4,
    fun p hp => (h.nodes p hp).congr (fun o _ => hc p.1 (.inr (.inr (List.mem_map_of_mem hp))) o), fun a ha o => (World.frozen?_of_block (a := ⟨a, o, none⟩) (hu a ha)).trans (h.fz a ha o), (hc b (.inr (.inl rfl)) 5).trans h.b5, (hc b (.inr (.inl rfl)) 6).trans h.b6⟩
theorem Mid.off {w : World} {sb : Nat} {N : Nodes} {b : Nat} {m : Option Nat} {now peak : Int} (h : Mid w sb N b m now peak) {M : Nat} {tbl : List (ByteArray × Nat)} (hm : PMap w M tbl) : ∀ a, a = sb ∨ a = b ∨ a ∈ blks N → a ≠ M := by
  rintro a ha rfl
  rcases ha with rfl | rfl | ha
  · have := h.c0; rw [hm.no_cell] at this; cases this
  · have := h.b5; rw [hm.no_cell] at this; cases this
  · obtain ⟨p, hp, rfl⟩ := List.mem_map.1 ha
    have := (h.nodes p hp).1; rw [hm.no_cell] at this; cases this
theorem Mid.peak {w : World} {sb : Nat} {N : Nodes} {b : Nat} {m : Option Nat} {now peak : Int} (h : Mid w sb N b m now peak) (p' : Int) : Mid (w.setCell ⟨sb, 4, none⟩ (.int .i64 p')) sb N b m now p' := by
  have cl := cells_set h.c4 (.int .i64 p')
  have hc : ∀ a o, a ≠ sb ∨ o ≠ 4 → (w.setCell ⟨sb, 4, none⟩ (.int .i64 p')).cell? ⟨a, o, none⟩ = w.cell? ⟨a, o, none⟩ := fun a o ha => (congrFun (congrFun cl a) o).trans (ha.elim (upd_blk _ _) (upd_off _ _))
  refine ⟨h.nd, ?_, h.ns, h.nb, h.bs, (hc sb 0 (.inr (by omega))).trans h.c0, (hc sb 3 (.inr (by omega))).trans h.c3, (congrFun (congrFun cl sb) 4).trans (upd_same _ _ _ _),
    fun p hp => (h.nodes p hp).congr (fun o _ => hc p.1 o (.inl (fun e => h.ns (e ▸ List.mem_map_of_mem hp)))), fun a ha o => by rw [World.frozen?_setCell]; exact h.fz a ha o, (hc b 5 (.inr (by omega))).trans h.b5, (hc b 6 (.inr (by omega))).trans h.b6⟩
  exact ⟨(hc sb 1 (.inr (by omega))).trans h.lk.old, (hc sb 2 (.inr (by omega))).trans h.lk.new, fun i x hx => (hc x 5 (.inr (by omega))).trans (h.lk.prv i x hx), fun i x hx => (hc x 6 (.inr (by omega))).trans (h.lk.nxt i x hx)⟩
theorem map_block {u w : World} {M : Nat} (h : u.mapTurned w M) (k : Nat) (hk : k ≠ M) : w.heap[k]? = u.heap[k]? := by
  obtain ⟨es, clock, es', clock', hb, rfl⟩ := h
  exact Go.ChangeMaps.heap_setBlock_other hb _ hk
/-- the data of a client laid -/
def laid (w : World) (b : Nat) (q f n now : Int) : World :=
  (((w.setCell ⟨b, 0, none⟩ (.int .u64 q)).setCell ⟨b, 1, none⟩ (.int .u64 f)).setCell ⟨b, 2, none⟩ (.int .i64 n)).setCell ⟨b, 4, none⟩ (.int .i64 now)
theorem cells_laid {w : World} {b : Nat} {c : Cl} (h : Node w b c) (q f n now : Int) :
    cellsOf (laid w b q f n now) = upd (upd (upd (upd (cellsOf w) b 0 (.int .u64 q)) b 1 (.int .u64 f)) b 2 (.int .i64 n)) b 4 (.int .i64 now) := by
  obtain ⟨h0, h1, h2, h3, h4⟩ := h
  have k1 := cells_set h0 (.int .u64 q)
  have k2 := cells_set (w := w.setCell ⟨b, 0, none⟩ (.int .u64 q)) (b := b) (o := 1) ((congrFun (congrFun k1 b) 1).trans ((upd_off _ _ (by omega)).trans h1)) (.int .u64 f)
  have k3 := cells_set (w := (w.setCell ⟨b, 0, none⟩ (.int .u64 q)).setCell ⟨b, 1, none⟩ (.int .u64 f)) (b := b) (o := 2) ((congrFun (congrFun k2 b) 2).trans ((upd_off _ _ (by omega)).trans ((congrFun (congrFun k1 b) 2).trans ((upd_off _ _ (by omega)).trans h2)))) (.int .i64 n)
  have k4 := cells_set (w := ((w.setCell ⟨b, 0, none⟩ (.int .u64 q)).setCell ⟨b, 1, none⟩ (.int .u64 f)).setCell ⟨b, 2, none⟩ (.int .i64 n)) (b := b) (o := 4) ((congrFun (congrFun k3 b) 4).trans ((upd_off _ _ (by omega)).trans ((congrFun (congrFun k2 b) 4).trans ((upd_off _ _ (by omega)).trans ((congrFun (congrFun k1 b) 4).trans ((upd_off _ _ (by omega)).trans h4)))))) (.int .i64 now)
  rw [k3, k2, k1] at k4
  exact k4
theorem laid_far {w : World} {b : Nat} {c : Cl} (h : Node w b c) (q f n now : Int) (x o : Nat) (hx : x ≠ b ∨ o = 3 ∨ 5 ≤ o) : (laid w b q f n now).cell? ⟨x, o, none⟩ = w.cell? ⟨x, o, none⟩ := by
  refine (congrFun (congrFun (cells_laid h q f n now) x) o).trans ?_
  rcases hx with hx | hx | hx
  · rw [upd_blk _ _ hx, upd_blk _ _ hx, upd_blk _ _ hx, upd_blk _ _ hx]; rfl
  · rw [upd_off _ _ (by omega), upd_off _ _ (by omega), upd_off _ _ (by omega), upd_off _ _ (by omega)]; rfl
  · rw [upd_off _ _ (by omega), upd_off _ _ (by omega), upd_off _ _ (by omega), upd_off _ _ (by omega)]; rfl
theorem frozen_laid (w : World) (b : Nat) (q f n now : Int) (a : Addr) : (laid w b q f n now).frozen? a = w.frozen? a := by simp [laid]
theorem turn_laid (w : World) (b : Nat) (q f n now : Int) : Turn [b] w (laid w b q f n now) :=
  ((((Turn.refl [b] w).setCell (fun _ => by simp) _).setCell (fun _ => by simp) _).setCell (fun _ => by simp) _).setCell (fun _ => by simp) _
theorem Mid.laid {w : World} {sb : Nat} {N : Nodes} {b : Nat} {m : Option Nat} {now peak : Int} {c : Cl} (h : Mid w sb N b m now peak) (hc : Node w b c) (q f n : Int) :
    Mid (laid w b q f n now) sb N b m now peak ∧ Node (Qxb6615757a.laid w b q f n now) b ⟨c.id, q, f, n, now⟩ := by
  have far := laid_far hc q f n now
  have hsb : sb ≠ b := h.bs.symm
  have cl := cells_laid hc q f n now
  refine ⟨⟨h.nd, h.lk.congr (fun x hx o => far x o (.inl ?_)), h.ns, h.nb, h.bs, (far sb 0 (.inl hsb)).trans h.c0, (far sb 3 (.inl hsb)).trans h.c3, (far sb 4 (.inl hsb)).trans h.c4,
    fun p hp => (h.nodes p hp).congr (fun o _ => far p.1 o (.inl (fun e => h.nb (e ▸ List.mem_map_of_mem hp)))), fun a ha o => (frozen_laid _ _ _ _ _ _ _).trans (h.fz a ha o), (far b 5 (.inr (.inr (by omega)))).trans h.b5, (far b 6 (.inr (.inr (by omega)))).trans h.b6⟩, ?_⟩
  · rcases hx with rfl | hx
    · exact hsb
    · exact fun e => h.nb (e ▸ hx)
  · obtain ⟨h0, h1, h2, h3, h4⟩ := hc
    refine ⟨(congrFun (congrFun cl b) 0).trans ?_, (congrFun (congrFun cl b) 1).trans ?_, (congrFun (congrFun cl b) 2).trans ?_, (far b 3 (.inr (.inl rfl))).trans h3, (congrFun (congrFun cl b) 4).trans ?_⟩
    · rw [upd_off _ _ (by omega), upd_off _ _ (by omega), upd_off _ _ (by omega), upd_same]
    · rw [upd_off _ _ (by omega), upd_off _ _ (by omega), upd_same]
    · rw [upd_off _ _ (by omega), upd_same]
    · rw [upd_same]
theorem Mid.mp_laid {w : World} {sb : Nat} {N : Nodes} {b : Nat} {m : Option Nat} {now peak : Int} {tbl : List (ByteArray × Nat)} (h : Mid w sb N b m now peak) (mp : Mp w m tbl) (q f n : Int) : Mp (Qxb6615757a.laid w b q f n now) m tbl := by
  refine mp.congr (fun M e => (turn_laid w b q f n now).block M ?_ ?_)
  · subst e; exact PMap.lt mp
  · subst e
    have hm : PMap w M tbl := mp
    intro e
    simp at e
    subst e
    have := h.b5; rw [hm.no_cell] at this; cases this
theorem tb_replace {N : Nodes} {k b : Nat} {c c1 : Cl} (hk : N[k]? = some (b, c)) (hid : c1.id = c.id) (x : ByteArray) (b' : Nat) :
    (∃ c' : Cl, (b', c') ∈ N ∧ c'.id = x) ↔ ∃ c' : Cl, (b', c') ∈ N.eraseIdx k ++ [(b, c1)] ∧ c'.id = x := by
  constructor
  · rintro ⟨c', hm, rfl⟩
    obtain ⟨i, hi⟩ := List.mem_iff_getElem?.1 hm
    by_cases e : i = k
    · subst e
      rw [hk] at hi
      cases hi
      exact ⟨c1, by simp, hid⟩
    · exact ⟨c', List.mem_append_left _ (List.mem_eraseIdx_iff_getElem?.2 ⟨i, e, hi⟩), rfl⟩
  · rintro ⟨c', hm, rfl⟩
    rcases List.mem_append.1 hm with hm | hm
    · exact ⟨c', List.mem_of_mem_eraseIdx hm, rfl⟩
    · simp at hm
      obtain ⟨rfl, rfl⟩ := hm
      exact ⟨c, List.mem_of_getElem? hk, hid.symm⟩

set_option maxHeartbeats 2000000 in
/-- a later request of a known client -/
theorem record_later {w : World} {sb : Nat} {N : Nodes} {m : Option Nat} {tbl : List (ByteArray × Nat)} {now peak : Int} (h : Req w sb N m tbl now peak) {k b : Nat} {c : Cl} (hk : N[k]? = some (b, c)) (q n f : Int) (hx : c.id.size ≤ maxLen) (hq0 : ¬ q ≤ c.seq) :
    Calls Try.prog 45 #[.pointer (some ⟨sb, 0, none⟩), .agg #[.string c.id, .int .u64 q], .int .i64 n, .int .u64 f] w fun e w' => e = .returned (.bool true) ∧
      Req w' sb (N.eraseIdx k ++ [(b, ⟨c.id, q, f, n, now⟩)]) m tbl now peak ∧ Turn (foot sb N m) w w' ∧ (∀ a, w'.frozen? a = w.frozen? a) ∧ ∀ o, 5 ≤ o → w'.cell? ⟨sb, o, none⟩ = w.cell? ⟨sb, o, none⟩ := by
  have H : Hid (Req w sb N m tbl now peak) := h
  have HK : Hid (N[k]? = some (b, c)) := hk
  have hs : sb < w.heap.size := lt_of_cell h.c0
  have mc : (b, c) ∈ N := List.mem_of_getElem? hk
  obtain ⟨s0, s1, s2, s3, s4⟩ := h.nodes _ mc
  simp only at s0 s1 s2 s3 s4
  have hb : b < w.heap.size := lt_of_cell s0
  have hq : decide (q ≤ c.seq) = false := by simpa using hq0
  have c0 := h.c0
  have hg : Pl.get tbl c.id = some b := (h.tb c.id b).2 ⟨c, mc, rfl⟩
  have hlook : ∀ (cc : Array Value) (t : TypeId) (n : Nat), (Instr.lookup 60 (.map m) (.string c.id) false).run Try.prog ((w.alloc (.cells cc t)).drewN n) = .ok (.pointer (some ⟨b, 0, none⟩)) ((w.alloc (.cells cc t)).drewN n) := fun cc t n => by
    have := h.mp.look (u := (w.alloc (.cells cc t)).drewN n) (fun k hk => heap_alloc_drewN w _ n k hk) hx
    rw [hg] at this
    exact this
  clear hk h hq0 hg mc
  obtain ⟨x, sq, fs, en, tm⟩ := c
  simp only at hlook s0 s1 s2 s3 s4 hq hx
  go_enter Try.func45, Try.ntmps45
  go_wp2
  go_quiet (fail)
  go_wp2
  go_quiet (fail)
  go_wp2_with fail
  have T1 : ∀ n1, Turn [] w ((w.alloc (Obj.cells #[Value.string x, Value.int IntKind.u64 q] 68)).drewN n1) := fun n1 => ((Turn.refl [] w).alloc _).drewN _
  refine (unlink_req (H.out.grow (T1 _)) HK.out).mono ?_
  rintro e1 w2 ⟨rfl, hm, hnode, hmp, ht, hf, h5⟩
  have HM : Hid (Mid w2 sb (N.eraseIdx k) b m now peak ∧ Mp w2 m tbl ∧ Turn (foot sb N m) w w2 ∧ (∀ a, w2.frozen? a = w.frozen? a) ∧ ∀ o, 5 ≤ o → w2.cell? ⟨sb, o, none⟩ = w.cell? ⟨sb, o, none⟩) := by
    refine ⟨hm, hmp, ((T1 _).mono (fun _ e => by simp at e)).trans ht (fun a ha _ => ?_), fun a => (hf a).trans (frozen?_alloc_cells _ _ _ a), fun o ho => (h5 o ho).trans (World.cell?_alloc_lt _ _ _ hs)⟩
    unfold foot
    rcases List.mem_cons.1 ha with rfl | ha
    · simp
    · exact List.mem_cons_of_mem _ (List.mem_append_right _ ha)
  have hbox : w2.heap[w.heap.size]? = ((w.alloc (Obj.cells #[Value.string x, Value.int IntKind.u64 q] 68))).heap[w.heap.size]? := by
    refine ht.block _ (by simp) ?_
    intro e
    have := H.out.lt w.heap.size (by
      unfold foot
      rcases List.mem_cons.1 e with e | e
      · rw [e]; simp
      · exact List.mem_cons_of_mem _ (List.mem_append_right _ e))
    omega
  have d0 : w2.cell? ⟨w.heap.size, 1, none⟩ = some (.int .u64 q) := (World.cell?_of_block hbox).trans (by simp)
  have d6 : ∀ o, w2.frozen? ⟨b, o, none⟩ = false := fun o => hm.fz b (.inr (.inl rfl)) o
  have d7 : b ≠ sb := hm.bs
  have d5 := hm.c3
  obtain ⟨t0, t1, t2, t3, t4⟩ := hnode
  simp only at t0 t1 t2 t3 t4
  clear hm hmp ht hf h5 hbox
  go_wp2_with fail
  obtain ⟨hm, hmp, ht, hf, h5⟩ := HM.out
  have h := H.out
  have hk := HK.out
  have hlen : k < N.length := (List.getElem?_eq_some_iff.1 hk).1
  have hnode : Node w2 b ⟨x, sq, fs, en, tm⟩ := ⟨t0, t1, t2, t3, t4⟩
  obtain ⟨hm2, hnode2⟩ := hm.laid hnode q f n
  have hmem : ∀ p, p ∈ N.eraseIdx k ++ [(b, (⟨x, q, f, n, now⟩ : Cl))] → p ∈ N ∨ p = (b, (⟨x, q, f, n, now⟩ : Cl)) := fun p hp =>
    (List.mem_append.1 hp).elim (fun e => .inl (List.mem_of_mem_eraseIdx e)) (fun e => .inr (by simpa using e))
  refine (push_mid (c := ⟨x, q, f, n, now⟩) hm2 hnode2 (hm.mp_laid hmp q f n) (fun y b' => (h.tb y b').trans (tb_replace (c1 := ⟨x, q, f, n, now⟩) hk rfl y b')) ?_ ?_ ?_ h.nowb).mono ?_
  · rw [h.tl, List.length_eraseIdx, if_pos hlen]; omega
  · intro p hp
    rcases hmem p hp with e | rfl
    · exact h.idl p e
    · exact hx
  · intro p hp
    rcases hmem p hp with e | rfl
    · exact h.tms p e
    · exact ⟨h.nowb.1, Int.le_refl _⟩
  rintro e3 w3 ⟨rfl, hr, ht3, hf3, h53⟩
  have HR : Hid (Req w3 sb (N.eraseIdx k ++ [(b, ⟨x, q, f, n, now⟩)]) m tbl now peak ∧ Turn (foot sb N m) w w3 ∧ (∀ a, w3.frozen? a = w.frozen? a) ∧ ∀ o, 5 ≤ o → w3.cell? ⟨sb, o, none⟩ = w.cell? ⟨sb, o, none⟩) := by
    have mb : b ∈ foot sb N m := List.mem_cons_of_mem _ (List.mem_append_right _ (List.mem_map_of_mem (f := (·.1)) (List.mem_of_getElem? hk)))
    refine ⟨hr, (ht.trans (turn_laid w2 b q f n now) (fun a ha _ => ?_)).trans ht3 (fun a ha _ => ?_), fun a => (hf3 a).trans ((frozen_laid _ _ _ _ _ _ _).trans (hf a)), fun o ho => (h53 o ho).trans ((laid_far hnode q f n now sb o (.inl d7.symm)).trans (h5 o ho))⟩
    · simp at ha; subst ha; exact mb
    · rcases List.mem_cons.1 ha with rfl | ha
      · simp [foot]
      · rcases List.mem_cons.1 ha with rfl | ha
        · exact mb
        · rw [blks_erase] at ha
          exact List.mem_cons_of_mem _ (List.mem_append_right _ (List.mem_of_mem_eraseIdx ha))
  clear hm hmp ht hf h5 h hk hlen hnode hm2 hnode2 hmem hr ht3 hf3 h53
  go_wp2
  go_ret
  exact ⟨rfl, HR.out⟩









theorem run_make (u : World) : (Instr.makeMap 60 none).run Try.prog u = .ok (.map (some u.heap.size)) (u.alloc (.map #[] 0)) := by kernel_rfl
theorem Node.drew {w : World} {b : Nat} {c : Cl} (h : Node w b c) : Node w.drew b c := h
theorem Mid.drew {w : World} {sb : Nat} {N : Nodes} {b : Nat} {m : Option Nat} {now peak : Int} (h : Mid w sb N b m now peak) : Mid w.drew sb N b m now peak := h.carry (fun _ _ => rfl)
theorem Mp.drew {w : World} {m : Option Nat} {tbl : List (ByteArray × Nat)} (h : Mp w m tbl) : Mp w.drew m tbl := h.congr (fun _ _ => rfl)
theorem push_tail {w w5 : World} {sb : Nat} {N : Nodes} {b : Nat} {m : Option Nat} {tbl : List (ByteArray × Nat)} {now peak : Int} {c : Cl} {F : List Nat} (m5 : Mid w5 sb N b m now peak) (n5 : Node w5 b c) (p5 : Mp w5 m tbl)
    (tb : ∀ x b', Pl.get tbl x = some b' ↔ ∃ c' : Cl, (b', c') ∈ N ++ [(b, c)] ∧ c'.id = x) (tl : tbl.length = N.length + 1) (idl : ∀ p ∈ N ++ [(b, c)], p.2.id.size ≤ maxLen) (tms : ∀ p ∈ N ++ [(b, c)], 0 ≤ p.2.tm ∧ p.2.tm ≤ now) (nowb : 0 ≤ now ∧ now ≤ 9223372036854775807)
    (T5 : Turn F w w5) (f5 : ∀ a, w5.frozen? a = w.frozen? a) (c5 : ∀ o, 5 ≤ o → w5.cell? ⟨sb, o, none⟩ = w.cell? ⟨sb, o, none⟩) (hF : ∀ a, a = sb ∨ a = b ∨ a ∈ blks N → a < w.heap.size → a ∈ F) :
    Calls Try.prog 51 #[.pointer (some ⟨sb, 0, none⟩), .pointer (some ⟨b, 0, none⟩)] w5.drew fun e w' => e = .returned (.tuple #[]) ∧
      Hid (Req w' sb (N ++ [(b, c)]) m tbl now peak ∧ Turn F w w' ∧ (∀ a, w'.frozen? a = w.frozen? a) ∧ ∀ o, 5 ≤ o → w'.cell? ⟨sb, o, none⟩ = w.cell? ⟨sb, o, none⟩) := by
  refine (push_mid m5.drew n5.drew p5.drew tb tl idl tms nowb).mono ?_
  rintro e w' ⟨he, hr, ht7, hf7, h57⟩
  refine ⟨he, hr, T5.drew.trans ht7 (fun a ha ha2 => hF a ?_ ha2), fun a => (hf7 a).trans (f5 a), fun o ho => (h57 o ho).trans (c5 o ho)⟩
  rcases List.mem_cons.1 ha with e | ha
  · exact .inl e
  · exact .inr (List.mem_cons.1 ha)
theorem Req.mid {w u : World} {sb : Nat} {N : Nodes} {m : Option Nat} {tbl : List (ByteArray × Nat)} {now peak : Int} (h : Req w sb N m tbl now peak) {b : Nat} (hb : w.heap.size ≤ b) (hu : ∀ k, k < w.heap.size → u.heap[k]? = w.heap[k]?)
    (hf : ∀ o, u.frozen? ⟨b, o, none⟩ = false) (b5 : u.cell? ⟨b, 5, none⟩ = some (ptr none)) (b6 : u.cell? ⟨b, 6, none⟩ = some (ptr none)) : Mid u sb N b m now peak := by
  have r := h.carry (u := u) (fun k hk => hu k (h.lt k hk))
  have lt : ∀ k, k = sb ∨ k ∈ blks N → k < w.heap.size := fun k hk => h.lt k (by
    unfold foot
    rcases hk with rfl | hk
    · simp
    · exact List.mem_cons_of_mem _ (List.mem_append_right _ hk))
  refine ⟨r.nd, r.lk, r.ns, fun e => ?_, fun e => ?_, r.c0, r.c3, r.c4, r.nodes, fun a ha o => ?_, b5, b6⟩
  · have := lt b (.inr e); omega
  · have := lt b (.inl e); omega
  · rcases ha with rfl | rfl | ha
    · exact r.fz _ (.inl rfl) o
    · exact hf o
    · exact r.fz _ (.inr ha) o
theorem Req.map0 {w : World} {sb : Nat} {N : Nodes} {m : Option Nat} {tbl : List (ByteArray × Nat)} {now peak : Int} (h : Req w sb N m tbl now peak) {M : Nat} (hM : PMap w M tbl) : Req (w.setCell ⟨sb, 0, none⟩ (.map (some M))) sb N (some M) tbl now peak := by
  have cl := cells_set h.c0 (.map (some M))
  have hc : ∀ a o, a ≠ sb ∨ o ≠ 0 → (w.setCell ⟨sb, 0, none⟩ (.map (some M))).cell? ⟨a, o, none⟩ = w.cell? ⟨a, o, none⟩ := fun a o ha => (congrFun (congrFun cl a) o).trans (ha.elim (upd_blk _ _) (upd_off _ _))
  refine ⟨h.nd, ?_, h.ns, (congrFun (congrFun cl sb) 0).trans (upd_same _ _ _ _), (hc sb 3 (.inr (by omega))).trans h.c3, (hc sb 4 (.inr (by omega))).trans h.c4,
    fun p hp => (h.nodes p hp).congr (fun o _ => hc p.1 o (.inl (fun e => h.ns (e ▸ List.mem_map_of_mem hp)))), fun a ha o => by rw [World.frozen?_setCell]; exact h.fz a ha o, ?_, h.tb, h.tl, h.idl, h.tms, h.nowb⟩
  · exact ⟨(hc sb 1 (.inr (by omega))).trans h.lk.old, (hc sb 2 (.inr (by omega))).trans h.lk.new, fun i x hx => (hc x 5 (.inr (by omega))).trans (h.lk.prv i x hx), fun i x hx => (hc x 6 (.inr (by omega))).trans (h.lk.nxt i x hx)⟩
  · refine PMap.of_block hM (Below.heap_setCell _ _ _ _ ?_)
    rintro rfl
    have := h.c0; rw [hM.no_cell] at this; cases this
theorem tb_new {N : Nodes} {tbl : List (ByteArray × Nat)} (tb : ∀ x b, Pl.get tbl x = some b ↔ ∃ c : Cl, (b, c) ∈ N ∧ c.id = x) {c1 : Cl} {b : Nat} (hg : Pl.get tbl c1.id = none) (y : ByteArray) (b' : Nat) :
    Pl.get (Pl.put tbl c1.id b) y = some b' ↔ ∃ c' : Cl, (b', c') ∈ N ++ [(b, c1)] ∧ c'.id = y := by
  by_cases e : y = c1.id
  · subst e
    rw [Pl.get_put_same]
    constructor
    · intro e; cases e; exact ⟨c1, by simp, rfl⟩
    · rintro ⟨c', hm, hid⟩
      rcases List.mem_append.1 hm with hm | hm
      · have := (tb c1.id b').2 ⟨c', hm, hid⟩
        rw [hg] at this; cases this
      · simp at hm; rw [hm.1]
  · rw [Pl.get_put_other tbl b e, tb y b']
    constructor
    · rintro ⟨c', hm, hid⟩
      exact ⟨c', List.mem_append_left _ hm, hid⟩
    · rintro ⟨c', hm, hid⟩
      rcases List.mem_append.1 hm with hm | hm
      · exact ⟨c', hm, hid⟩
      · simp at hm
        obtain ⟨rfl, rfl⟩ := hm
        exact absurd hid.symm e

set_option maxRecDepth 100000 in
set_option maxHeartbeats 2000000 in
theorem record_new_some {w : World} {sb : Nat} {N : Nodes} {M : Nat} {tbl : List (ByteArray × Nat)} {now peak : Int} (h : Req w sb N (some M) tbl now peak) {x : ByteArray} (q n f : Int) (hx : x.size ≤ maxLen) (hg : Pl.get tbl x = none) (hlen : N.length < maxLen) :
    Calls Try.prog 45 #[.pointer (some ⟨sb, 0, none⟩), .agg #[.string x, .int .u64 q], .int .i64 n, .int .u64 f] w fun e w' => e = .returned (.bool true) ∧
      ∃ (b M' : Nat) (peak' : Int), w.heap.size ≤ b ∧ (M' ∈ foot sb N (some M) ∨ w.heap.size ≤ M') ∧ (peak ≤ peak' ∧ peak' ≤ max peak (N.length + 1)) ∧ Req w' sb (N ++ [(b, ⟨x, q, f, n, now⟩)]) (some M') (Pl.put tbl x b) now peak' ∧ Turn (foot sb N (some M)) w w' ∧ (∀ a, w'.frozen? a = w.frozen? a) ∧ ∀ o, 5 ≤ o → w'.cell? ⟨sb, o, none⟩ = w.cell? ⟨sb, o, none⟩ := by
  have H : Hid (Req w sb N (some M) tbl now peak) := h
  have HG : Hid (Pl.get tbl x = none) := hg
  have hs : sb < w.heap.size := lt_of_cell h.c0
  have c0 := h.c0
  have fs := h.fz sb (.inl rfl)
  have hlook : ∀ (cc : Array Value) (t : TypeId) (n : Nat), (Instr.lookup 60 (.map (some M)) (.string x) false).run Try.prog ((w.alloc (.cells cc t)).drewN n) = .ok (.pointer none) ((w.alloc (.cells cc t)).drewN n) := fun cc t n => by
    have := h.mp.look (u := (w.alloc (.cells cc t)).drewN n) (fun k hk => heap_alloc_drewN w _ n k hk) hx
    rw [hg] at this
    exact this
  have H8 : Hid (∀ d u, u = (((w.alloc (Obj.cells #[Value.string x, Value.int IntKind.u64 q] 68)).drewN d).alloc (Obj.cells #[Value.int IntKind.u64 0, Value.int IntKind.u64 0, Value.int IntKind.i64 0, Value.string x, Value.int IntKind.i64 0, Value.pointer none, Value.pointer none] 115)) → Mid u sb N (w.heap.size + 1) (some M) now peak ∧ PMap u M tbl ∧ u.cell? ⟨w.heap.size, 1, none⟩ = some (.int .u64 q) ∧ Turn (foot sb N (some M)) w u ∧ (∀ a, u.frozen? a = w.frozen? a) ∧ (∀ o, 5 ≤ o → u.cell? ⟨sb, o, none⟩ = w.cell? ⟨sb, o, none⟩) ∧ Node u (w.heap.size + 1) ⟨x, 0, 0, 0, 0⟩) := by
    rintro d u rfl
    have T1 : Turn [] w ((w.alloc (Obj.cells #[Value.string x, Value.int IntKind.u64 q] 68)).drewN d) := ((Turn.refl [] w).alloc _).drewN _
    have T2 := T1.alloc (Obj.cells #[Value.int IntKind.u64 0, Value.int IntKind.u64 0, Value.int IntKind.i64 0, Value.string x, Value.int IntKind.i64 0, Value.pointer none, Value.pointer none] 115)
    have hsz : (w.alloc (Obj.cells #[Value.string x, Value.int IntKind.u64 q] 68)).heap.size = w.heap.size + 1 := by simp
    refine ⟨h.mid (by omega) (fun k hk => T2.block k hk (by simp)) (fun o => World.frozen?_alloc_at _ _ _ _ hsz.symm) (World.cell?_alloc_at _ _ _ _ hsz.symm) (World.cell?_alloc_at _ _ _ _ hsz.symm), PMap.of_block h.mp (T2.block M (h.lt M (by simp [foot])) (by simp)), ?_, T2.mono (fun _ e => by simp at e), fun a => ?_, fun o _ => World.cell?_of_block (T2.block sb hs (by simp)), ?_⟩
    · refine (World.cell?_alloc_past _ _ _ (by rw [show ((w.alloc (Obj.cells #[Value.string x, Value.int IntKind.u64 q] 68)).drewN d).heap.size = w.heap.size + 1 from hsz]; omega)).trans ?_
      exact World.cell?_alloc_at _ _ _ _ rfl
    · exact (frozen?_alloc_cells _ _ _ a).trans (frozen?_alloc_cells _ _ _ a)
    · exact ⟨World.cell?_alloc_at _ _ _ _ hsz.symm, World.cell?_alloc_at _ _ _ _ hsz.symm, World.cell?_alloc_at _ _ _ _ hsz.symm, World.cell?_alloc_at _ _ _ _ hsz.symm, World.cell?_alloc_at _ _ _ _ hsz.symm⟩
  clear h hg
  have heq := eql_some M
  go_enter Try.func45, Try.ntmps45
  go_wp2
  go_quiet (fail)
  go_wp2
  go_quiet (fail)
  go_upto_region 8 with fail
  generalize hu : (((w.alloc (Obj.cells #[Value.string x, Value.int IntKind.u64 q] 68)).drewN _).alloc (Obj.cells #[Value.int IntKind.u64 0, Value.int IntKind.u64 0, Value.int IntKind.i64 0, Value.string x, Value.int IntKind.i64 0, Value.pointer none, Value.pointer none] 115)) = u
  obtain ⟨hm, hp, hbox, ht, hf, h5, hnode⟩ := H8.out _ _ hu.symm
  obtain ⟨w3, hrun, hp3, ht3⟩ := PMap.store (w := u.drew) (hp.of_block rfl) hx (w.heap.size + 1) (by rw [H.out.tl]; exact hlen)
  have b3 : ∀ k, k ≠ M → w3.heap[k]? = u.heap[k]? := fun k hk => map_block ht3 k hk
  have m3 : Mid w3 sb N (w.heap.size + 1) (some M) now peak := hm.carry (fun a ha => b3 a (hm.off hp a ha))
  have n3 : Node w3 (w.heap.size + 1) ⟨x, 0, 0, 0, 0⟩ := hnode.congr (fun o _ => World.cell?_of_block (b3 _ (hm.off hp _ (.inr (.inl rfl)))))
  have x3 : w3.cell? ⟨w.heap.size, 1, none⟩ = some (.int .u64 q) := (World.cell?_of_block (b3 _ (by have hh := H.out.lt M (by simp [foot]); simp only [ne_eq]; omega))).trans hbox
  have hl3 : (Pl.put tbl x (w.heap.size + 1)).length = N.length + 1 := by
    have nd : Pl.Nd tbl := hp.1
    rw [Pl.length_put nd, HG.out, H.out.tl]; simp
  have hrl : (Builtin.len_ #[60] 3 #[.map (some M)]).run Try.prog w3.drew = .ok (.int .i64 ((N.length : Int) + 1)) w3.drew := by
    have := (PMap.of_block (w' := w3.drew) hp3 rfl).len 3
    rw [hl3] at this
    exact this
  have e0 := hm.c0
  have e3 := hnode.2.2.2.1
  simp only at e3
  have i0 := m3.c0
  have i3 := m3.c3
  have i4 := m3.c4
  obtain ⟨t0, t1, t2, t3, t4⟩ := n3
  simp only at t0 t1 t2 t3 t4
  have fs3 : ∀ o, w3.frozen? ⟨sb, o, none⟩ = false := fun o => m3.fz sb (.inl rfl) o
  have fb3 : ∀ o, w3.frozen? ⟨w.heap.size + 1, o, none⟩ = false := fun o => m3.fz _ (.inr (.inl rfl)) o
  have hbs : w.heap.size + 1 ≠ sb := m3.bs
  have HM : Hid (Mid w3 sb N (w.heap.size + 1) (some M) now peak ∧ PMap w3 M (Pl.put tbl x (w.heap.size + 1)) ∧ Turn (foot sb N (some M)) w w3 ∧ (∀ a, w3.frozen? a = w.frozen? a) ∧ (∀ o, 5 ≤ o → w3.cell? ⟨sb, o, none⟩ = w.cell? ⟨sb, o, none⟩)) := by
    refine ⟨m3, hp3, ht.drew.map ht3 (fun hM => ?_), fun a => (ht3.frozen a).trans (hf a), fun o ho => (World.cell?_of_block (b3 sb (hm.off hp sb (.inl rfl)))).trans (h5 o ho)⟩
    simp [foot]
  have HP : Hid (∀ p' : Int, Calls Try.prog 51 #[.pointer (some ⟨sb, 0, none⟩), .pointer (some ⟨w.heap.size + 1, 0, none⟩)] (laid (w3.setCell ⟨sb, 4, none⟩ (.int .i64 p')) (w.heap.size + 1) q f n now).drew fun e w' => e = .returned (.tuple #[]) ∧
      Hid (Req w' sb (N ++ [(w.heap.size + 1, ⟨x, q, f, n, now⟩)]) (some M) (Pl.put tbl x (w.heap.size + 1)) now p' ∧ Turn (foot sb N (some M)) w w' ∧ (∀ a, w'.frozen? a = w.frozen? a) ∧ ∀ o, 5 ≤ o → w'.cell? ⟨sb, o, none⟩ = w.cell? ⟨sb, o, none⟩)) := by
    intro p'
    obtain ⟨m3, hp3, ht, hf, h5⟩ := HM.out
    have h := H.out
    have m4 := m3.peak p'
    have n3 : Node w3 (w.heap.size + 1) ⟨x, 0, 0, 0, 0⟩ := ⟨t0, t1, t2, t3, t4⟩
    have far4 : ∀ a o, a ≠ sb ∨ o ≠ 4 → (w3.setCell ⟨sb, 4, none⟩ (.int .i64 p')).cell? ⟨a, o, none⟩ = w3.cell? ⟨a, o, none⟩ := fun a o ha => (congrFun (congrFun (cells_set i4 (.int .i64 p')) a) o).trans (ha.elim (upd_blk _ _) (upd_off _ _))
    have n4 : Node (w3.setCell ⟨sb, 4, none⟩ (.int .i64 p')) (w.heap.size + 1) ⟨x, 0, 0, 0, 0⟩ := n3.congr (fun o _ => far4 _ o (.inl hbs))
    have p4 : Mp (w3.setCell ⟨sb, 4, none⟩ (.int .i64 p')) (some M) (Pl.put tbl x (w.heap.size + 1)) := PMap.of_block hp3 (Below.heap_setCell _ _ _ _ (fun e => m3.off hp3 sb (.inl rfl) e.symm))
    obtain ⟨m5, n5⟩ := m4.laid n4 q f n
    have p5 := m4.mp_laid p4 q f n
    have hmem : ∀ p, p ∈ N ++ [(w.heap.size + 1, (⟨x, q, f, n, now⟩ : Cl))] → p ∈ N ∨ p = (w.heap.size + 1, (⟨x, q, f, n, now⟩ : Cl)) := fun p hp =>
      (List.mem_append.1 hp).elim .inl (fun e => .inr (by simpa using e))
    refine push_tail (w := w) (F := foot sb N (some M)) (c := ⟨x, q, f, n, now⟩) (tbl := Pl.put tbl x (w.heap.size + 1)) m5 n5 p5 (tb_new (c1 := ⟨x, q, f, n, now⟩) h.tb HG.out) hl3 ?_ ?_ h.nowb ((ht.setCell (fun _ => by simp [foot]) _).trans (turn_laid _ _ q f n now) (fun a ha ha2 => ?_)) (fun a => (frozen_laid _ _ _ _ _ _ a).trans ((World.frozen?_setCell _ _ _ _).trans (hf a)))
      (fun o ho => (laid_far n4 q f n now sb o (.inl hbs.symm)).trans ((far4 sb o (.inr (by omega))).trans (h5 o ho))) ?_
    · intro p hp
      rcases hmem p hp with e | rfl
      · exact h.idl p e
      · exact hx
    · intro p hp
      rcases hmem p hp with e | rfl
      · exact h.tms p e
      · exact ⟨h.nowb.1, Int.le_refl _⟩
    · simp at ha; omega
    · rintro a (rfl | rfl | ha) ha2
      · simp [foot]
      · omega
      · exact List.mem_cons_of_mem _ (List.mem_append_right _ ha)
  clear hm hp hbox ht hf h5 hnode hp3 ht3 b3 m3 hl3 hu H8
  go_region
  go_wp2_with fail
  go_region
  go_wp2_with fail
  all_goals refine (HP.out _).mono ?_
  all_goals rintro e5 w5 ⟨rfl, hlast⟩
  all_goals go_wp2
  all_goals go_ret
  all_goals refine ⟨rfl, w.heap.size + 1, M, _, by omega, ?_, ?_, hlast.out⟩
  all_goals first | exact (.inl (by simp [foot])) | omega

set_option maxRecDepth 100000 in
set_option maxHeartbeats 2000000 in
theorem record_new_none {w : World} {sb : Nat} {N : Nodes} {tbl : List (ByteArray × Nat)} {now peak : Int} (h : Req w sb N none tbl now peak) {x : ByteArray} (q n f : Int) (hx : x.size ≤ maxLen) (hg : Pl.get tbl x = none) (hlen : N.length < maxLen) :
    Calls Try.prog 45 #[.pointer (some ⟨sb, 0, none⟩), .agg #[.string x, .int .u64 q], .int .i64 n, .int .u64 f] w fun e w' => e = .returned (.bool true) ∧
      ∃ (b M' : Nat) (peak' : Int), w.heap.size ≤ b ∧ (M' ∈ foot sb N none ∨ w.heap.size ≤ M') ∧ (peak ≤ peak' ∧ peak' ≤ max peak (N.length + 1)) ∧ Req w' sb (N ++ [(b, ⟨x, q, f, n, now⟩)]) (some M') (Pl.put tbl x b) now peak' ∧ Turn (foot sb N none) w w' ∧ (∀ a, w'.frozen? a = w.frozen? a) ∧ ∀ o, 5 ≤ o → w'.cell? ⟨sb, o, none⟩ = w.cell? ⟨sb, o, none⟩ := by
  have H : Hid (Req w sb N none tbl now peak) := h
  have HG : Hid (Pl.get tbl x = none) := hg
  have hs : sb < w.heap.size := lt_of_cell h.c0
  have c0 := h.c0
  have fs := h.fz sb (.inl rfl)
  have hlook : ∀ (cc : Array Value) (t : TypeId) (n : Nat), (Instr.lookup 60 (.map none) (.string x) false).run Try.prog ((w.alloc (.cells cc t)).drewN n) = .ok (.pointer none) ((w.alloc (.cells cc t)).drewN n) := fun cc t n => by
    have := h.mp.look (u := (w.alloc (.cells cc t)).drewN n) (fun k hk => heap_alloc_drewN w _ n k hk) hx
    rw [hg] at this
    exact this
  have H8 : Hid (∀ d u, u = (((((w.alloc (Obj.cells #[Value.string x, Value.int IntKind.u64 q] 68)).drewN d).setCell ⟨sb, 0, none⟩ (.map (some (w.heap.size + 1)))).alloc (.map #[] 0)).alloc (Obj.cells #[Value.int IntKind.u64 0, Value.int IntKind.u64 0, Value.int IntKind.i64 0, Value.string x, Value.int IntKind.i64 0, Value.pointer none, Value.pointer none] 115)) → Mid u sb N (w.heap.size + 2) (some (w.heap.size + 1)) now peak ∧ PMap u (w.heap.size + 1) tbl ∧ u.cell? ⟨w.heap.size, 1, none⟩ = some (.int .u64 q) ∧ Turn (foot sb N none) w u ∧ (∀ a, u.frozen? a = w.frozen? a) ∧ (∀ o, 5 ≤ o → u.cell? ⟨sb, o, none⟩ = w.cell? ⟨sb, o, none⟩) ∧ Node u (w.heap.size + 2) ⟨x, 0, 0, 0, 0⟩) := by
    rintro d u rfl
    rw [← World.setCell_alloc_past (w := (w.alloc (Obj.cells #[Value.string x, Value.int IntKind.u64 q] 68)).drewN d) (.map #[] 0) sb 0 (.map (some (w.heap.size + 1))) (show sb < (w.alloc (Obj.cells #[Value.string x, Value.int IntKind.u64 q] 68)).heap.size from by simp; omega)]
    have T1 : Turn [] w ((w.alloc (Obj.cells #[Value.string x, Value.int IntKind.u64 q] 68)).drewN d) := ((Turn.refl [] w).alloc _).drewN _
    have hsz1 : ((w.alloc (Obj.cells #[Value.string x, Value.int IntKind.u64 q] 68)).drewN d).heap.size = w.heap.size + 1 := by simp [World.drewN]
    have x1 : ((w.alloc (Obj.cells #[Value.string x, Value.int IntKind.u64 q] 68)).drewN d).cell? ⟨w.heap.size, 1, none⟩ = some (.int .u64 q) := World.cell?_alloc_at _ _ _ _ rfl
    have f1 : ∀ a, ((w.alloc (Obj.cells #[Value.string x, Value.int IntKind.u64 q] 68)).drewN d).frozen? a = w.frozen? a := fun a => frozen?_alloc_cells _ _ _ a
    generalize ((w.alloc (Obj.cells #[Value.string x, Value.int IntKind.u64 q] 68)).drewN d) = w1 at T1 hsz1 x1 f1 ⊢
    have etbl : tbl = [] := h.mp
    subst etbl
    have r1 := (h.grow T1).grow ((Turn.refl [] w1).alloc (.map #[] 0))
    have pm : PMap (w1.alloc (.map #[] 0)) (w.heap.size + 1) [] := hsz1 ▸ pmap_made w1
    have r2 := r1.map0 pm
    have T2 : Turn (foot sb N none) w ((w1.alloc (.map #[] 0)).setCell ⟨sb, 0, none⟩ (.map (some (w.heap.size + 1)))) := ((T1.mono (G := foot sb N none) (fun _ e => by simp at e)).alloc _).setCell (fun _ => by simp [foot]) _
    have hsz2 : ((w1.alloc (.map #[] 0)).setCell ⟨sb, 0, none⟩ (.map (some (w.heap.size + 1)))).heap.size = w.heap.size + 2 := by simp [World.setCell, hsz1]
    have x2 : ((w1.alloc (.map #[] 0)).setCell ⟨sb, 0, none⟩ (.map (some (w.heap.size + 1)))).cell? ⟨w.heap.size, 1, none⟩ = some (.int .u64 q) := (World.cell?_setCell_other _ _ _ _ (fun e => by injection e with e1 e2; omega)).trans ((World.cell?_alloc_past _ _ _ (by omega)).trans x1)
    have f2 : ∀ a, ((w1.alloc (.map #[] 0)).setCell ⟨sb, 0, none⟩ (.map (some (w.heap.size + 1)))).frozen? a = w.frozen? a := fun a => (World.frozen?_setCell _ _ _ _).trans ((frozen?_alloc_map _ _ _ a).trans (f1 a))
    have c2 : ∀ o, 5 ≤ o → ((w1.alloc (.map #[] 0)).setCell ⟨sb, 0, none⟩ (.map (some (w.heap.size + 1)))).cell? ⟨sb, o, none⟩ = w.cell? ⟨sb, o, none⟩ := fun o ho => (World.cell?_setCell_other _ _ _ _ (fun e => by injection e with e1 e2; omega)).trans ((World.cell?_alloc_past _ _ _ (by omega)).trans (World.cell?_of_block (T1.block sb hs (by simp))))
    generalize ((w1.alloc (.map #[] 0)).setCell ⟨sb, 0, none⟩ (.map (some (w.heap.size + 1)))) = w2 at r2 T2 hsz2 x2 f2 c2 ⊢
    have T3 := (Turn.refl [] w2).alloc (Obj.cells #[Value.int IntKind.u64 0, Value.int IntKind.u64 0, Value.int IntKind.i64 0, Value.string x, Value.int IntKind.i64 0, Value.pointer none, Value.pointer none] 115)
    refine ⟨r2.mid (by omega) (fun k hk => T3.block k hk (by simp)) (fun o => World.frozen?_alloc_at _ _ _ _ hsz2.symm) (World.cell?_alloc_at _ _ _ _ hsz2.symm) (World.cell?_alloc_at _ _ _ _ hsz2.symm), PMap.of_block (show PMap w2 _ _ from r2.mp) (T3.block _ (r2.lt _ (by simp [foot])) (by simp)), ?_, T2.alloc _, fun a => (frozen?_alloc_cells _ _ _ a).trans (f2 a), fun o ho => (World.cell?_alloc_past _ _ _ (by omega)).trans (c2 o ho), ?_⟩
    · exact (World.cell?_alloc_past _ _ _ (by omega)).trans x2
    · exact ⟨World.cell?_alloc_at _ _ _ _ hsz2.symm, World.cell?_alloc_at _ _ _ _ hsz2.symm, World.cell?_alloc_at _ _ _ _ hsz2.symm, World.cell?_alloc_at _ _ _ _ hsz2.symm, World.cell?_alloc_at _ _ _ _ hsz2.symm⟩
  clear h hg
  have heq := eql_none
  have hmk := run_make
  go_enter Try.func45, Try.ntmps45
  go_wp2
  go_quiet (fail)
  go_wp2
  go_quiet (fail)
  go_upto_region 8 with fail
  generalize hu : (((((w.alloc (Obj.cells #[Value.string x, Value.int IntKind.u64 q] 68)).drewN _).setCell ⟨sb, 0, none⟩ (.map (some (w.heap.size + 1)))).alloc (.map #[] 0)).alloc (Obj.cells #[Value.int IntKind.u64 0, Value.int IntKind.u64 0, Value.int IntKind.i64 0, Value.string x, Value.int IntKind.i64 0, Value.pointer none, Value.pointer none] 115)) = u
  obtain ⟨hm, hp, hbox, ht, hf, h5, hnode⟩ := H8.out _ _ hu.symm
  obtain ⟨w3, hrun, hp3, ht3⟩ := PMap.store (w := u.drew) (hp.of_block rfl) hx (w.heap.size + 2) (by rw [H.out.tl]; exact hlen)
  have b3 : ∀ k, k ≠ (w.heap.size + 1) → w3.heap[k]? = u.heap[k]? := fun k hk => map_block ht3 k hk
  have m3 : Mid w3 sb N (w.heap.size + 2) (some (w.heap.size + 1)) now peak := hm.carry (fun a ha => b3 a (hm.off hp a ha))
  have n3 : Node w3 (w.heap.size + 2) ⟨x, 0, 0, 0, 0⟩ := hnode.congr (fun o _ => World.cell?_of_block (b3 _ (hm.off hp _ (.inr (.inl rfl)))))
  have x3 : w3.cell? ⟨w.heap.size, 1, none⟩ = some (.int .u64 q) := (World.cell?_of_block (b3 _ (by simp only [ne_eq]; omega))).trans hbox
  have hl3 : (Pl.put tbl x (w.heap.size + 2)).length = N.length + 1 := by
    have nd : Pl.Nd tbl := hp.1
    rw [Pl.length_put nd, HG.out, H.out.tl]; simp
  have hrl : (Builtin.len_ #[60] 3 #[.map (some (w.heap.size + 1))]).run Try.prog w3.drew = .ok (.int .i64 ((N.length : Int) + 1)) w3.drew := by
    have := (PMap.of_block (w' := w3.drew) hp3 rfl).len 3
    rw [hl3] at this
    exact this
  have e0 := hm.c0
  have e3 := hnode.2.2.2.1
  simp only at e3
  have i0 := m3.c0
  have i3 := m3.c3
  have i4 := m3.c4
  obtain ⟨t0, t1, t2, t3, t4⟩ := n3
  simp only at t0 t1 t2 t3 t4
  have fs3 : ∀ o, w3.frozen? ⟨sb, o, none⟩ = false := fun o => m3.fz sb (.inl rfl) o
  have fb3 : ∀ o, w3.frozen? ⟨w.heap.size + 2, o, none⟩ = false := fun o => m3.fz _ (.inr (.inl rfl)) o
  have hbs : w.heap.size + 2 ≠ sb := m3.bs
  have HM : Hid (Mid w3 sb N (w.heap.size + 2) (some (w.heap.size + 1)) now peak ∧ PMap w3 (w.heap.size + 1) (Pl.put tbl x (w.heap.size + 2)) ∧ Turn (foot sb N none) w w3 ∧ (∀ a, w3.frozen? a = w.frozen? a) ∧ (∀ o, 5 ≤ o → w3.cell? ⟨sb, o, none⟩ = w.cell? ⟨sb, o, none⟩)) := by
    refine ⟨m3, hp3, ht.drew.map ht3 (fun hM => ?_), fun a => (ht3.frozen a).trans (hf a), fun o ho => (World.cell?_of_block (b3 sb (hm.off hp sb (.inl rfl)))).trans (h5 o ho)⟩
    omega
  have HP : Hid (∀ p' : Int, Calls Try.prog 51 #[.pointer (some ⟨sb, 0, none⟩), .pointer (some ⟨w.heap.size + 2, 0, none⟩)] (laid (w3.setCell ⟨sb, 4, none⟩ (.int .i64 p')) (w.heap.size + 2) q f n now).drew fun e w' => e = .returned (.tuple #[]) ∧
      Hid (Req w' sb (N ++ [(w.heap.size + 2, ⟨x, q, f, n, now⟩)]) (some (w.heap.size + 1)) (Pl.put tbl x (w.heap.size + 2)) now p' ∧ Turn (foot sb N none) w w' ∧ (∀ a, w'.frozen? a = w.frozen? a) ∧ ∀ o, 5 ≤ o → w'.cell? ⟨sb, o, none⟩ = w.cell? ⟨sb, o, none⟩)) := by
    intro p'
    obtain ⟨m3, hp3, ht, hf, h5⟩ := HM.out
    have h := H.out
    have m4 := m3.peak p'
    have n3 : Node w3 (w.heap.size + 2) ⟨x, 0, 0, 0, 0⟩ := ⟨t0, t1, t2, t3, t4⟩
    have far4 : ∀ a o, a ≠ sb ∨ o ≠ 4 → (w3.setCell ⟨sb, 4, none⟩ (.int .i64 p')).cell? ⟨a, o, none⟩ = w3.cell? ⟨a, o, none⟩ := fun a o ha => (congrFun (congrFun (cells_set i4 (.int .i64 p')) a) o).trans (ha.elim (upd_blk _ _) (upd_off _ _))
    have n4 : Node (w3.setCell ⟨sb, 4, none⟩ (.int .i64 p')) (w.heap.size + 2) ⟨x, 0, 0, 0, 0⟩ := n3.congr (fun o _ => far4 _ o (.inl hbs))
    have p4 : Mp (w3.setCell ⟨sb, 4, none⟩ (.int .i64 p')) (some (w.heap.size + 1)) (Pl.put tbl x (w.heap.size + 2)) := PMap.of_block hp3 (Below.heap_setCell _ _ _ _ (fun e => m3.off hp3 sb (.inl rfl) e.symm))
    obtain ⟨m5, n5⟩ := m4.laid n4 q f n
    have p5 := m4.mp_laid p4 q f n
    have hmem : ∀ p, p ∈ N ++ [(w.heap.size + 2, (⟨x, q, f, n, now⟩ : Cl))] → p ∈ N ∨ p = (w.heap.size + 2, (⟨x, q, f, n, now⟩ : Cl)) := fun p hp =>
      (List.mem_append.1 hp).elim .inl (fun e => .inr (by simpa using e))
    refine push_tail (w := w) (F := foot sb N none) (c := ⟨x, q, f, n, now⟩) (tbl := Pl.put tbl x (w.heap.size + 2)) m5 n5 p5 (tb_new (c1 := ⟨x, q, f, n, now⟩) h.tb HG.out) hl3 ?_ ?_ h.nowb ((ht.setCell (fun _ => by simp [foot]) _).trans (turn_laid _ _ q f n now) (fun a ha ha2 => ?_)) (fun a => (frozen_laid _ _ _ _ _ _ a).trans ((World.frozen?_setCell _ _ _ _).trans (hf a)))
      (fun o ho => (laid_far n4 q f n now sb o (.inl hbs.symm)).trans ((far4 sb o (.inr (by omega))).trans (h5 o ho))) ?_
    · intro p hp
      rcases hmem p hp with e | rfl
      · exact h.idl p e
      · exact hx
    · intro p hp
      rcases hmem p hp with e | rfl
      · exact h.tms p e
      · exact ⟨h.nowb.1, Int.le_refl _⟩
    · simp at ha; omega
    · rintro a (rfl | rfl | ha) ha2
      · simp [foot]
      · omega
      · exact List.mem_cons_of_mem _ (List.mem_append_right _ ha)
  clear hm hp hbox ht hf h5 hnode hp3 ht3 b3 m3 hl3 hu H8
  go_region
  go_wp2_with fail
  go_region
  go_wp2_with fail
  all_goals refine (HP.out _).mono ?_
  all_goals rintro e5 w5 ⟨rfl, hlast⟩
  all_goals go_wp2
  all_goals go_ret
  all_goals refine ⟨rfl, w.heap.size + 2, (w.heap.size + 1), _, by omega, ?_, ?_, hlast.out⟩
  all_goals first | exact (.inr (by omega)) | omega
end Go.Proofs.Qxb6615757a
