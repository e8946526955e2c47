/-
  (*Requests).forget
-/
import Derived.Test.Qxb6615757aRecord
import Derived.Deep.LoopGhost
import Derived.Test.Qxb6615757aCopy
namespace Go.Proofs.Qxb6615757a
open Go.RowKit

theorem ms_c (w : World) : Calls Try.prog 52 #[.int .i64 3600000000000] w fun e w' => e = .returned (.int .i64 3600000) ∧ w' = w := by
  go_enter Try.func52, Try.ntmps52
  go_wp2
  go_ret
  exact ⟨rfl, rfl⟩

/-- left behind -/
def old (now : Int) (p : Nat × Cl) : Bool := decide (3600000 < now - p.2.tm)

theorem len_nil60 (w : World) : (Builtin.len_ #[60] 3 #[.map none]).run Try.prog w = .ok (.int .i64 0) w := by kernel_rfl
theorem Mp.len {w : World} {m : Option Nat} {tbl : List (ByteArray × Nat)} (h : Mp w m tbl) : (Builtin.len_ #[60] 3 #[.map m]).run Try.prog w = .ok (.int .i64 (tbl.length : Int)) w := by
  cases m with
  | none =>
    have e : tbl = [] := h
    subst e
    exact len_nil60 w
  | some M => exact PMap.len h 3

theorem req_unlinked {w u : World} {sb : Nat} {p : Nat × Cl} {N : Nodes} {m : Option Nat} {tbl : List (ByteArray × Nat)} {now peak peak2 : Int} (h : Req w sb (p :: N) m tbl now peak) (h2 : Mid u sb N p.1 m now peak2) (mp : Mp u m (Pl.del tbl p.2.id)) (nd : Pl.Nd tbl) :
    Req u sb N m (Pl.del tbl p.2.id) now peak2 := by
  have hp : Pl.get tbl p.2.id = some p.1 := (h.tb _ _).2 ⟨p.2, by simp, rfl⟩
  have nb : p.1 ∉ blks N := h2.nb
  refine ⟨h2.nd, h2.lk, h2.ns, h2.c0, h2.c3, h2.c4, h2.nodes, fun a ha o => h2.fz a (ha.elim .inl (fun e => .inr (.inr e))) o, mp, ?_, ?_, fun q hq => h.idl q (List.mem_cons_of_mem _ hq), fun q hq => h.tms q (List.mem_cons_of_mem _ hq), h.nowb⟩
  · intro y b'
    by_cases e : y = p.2.id
    · subst e
      rw [Pl.get_del_same]
      refine Iff.intro (fun e => by cases e) ?_
      rintro ⟨c', hm, hid⟩
      have := (h.tb p.2.id b').2 ⟨c', List.mem_cons_of_mem _ hm, hid⟩
      rw [hp] at this
      cases this
      exact absurd (List.mem_map_of_mem (f := (·.1)) hm) nb
    · rw [Pl.get_del_other tbl e, h.tb y b']
      constructor
      · rintro ⟨c', hm, hid⟩
        rcases List.mem_cons.1 hm with hm | hm
        · subst hm; exact absurd hid.symm e
        · exact ⟨c', hm, hid⟩
      · rintro ⟨c', hm, hid⟩
        exact ⟨c', List.mem_cons_of_mem _ hm, hid⟩
  · have := Pl.length_del nd p.2.id
    rw [hp, h.tl] at this
    simpa using this

theorem del_run {w u : World} {sb : Nat} {p : Nat × Cl} {N : Nodes} {m : Option Nat} {tbl : List (ByteArray × Nat)} {now peak : Int} (h : Req w sb (p :: N) m tbl now peak) (mp : Mp u m tbl) (h2 : Mid u sb N p.1 m now peak) (hx : p.2.id.size ≤ maxLen) :
    ∃ u', (Builtin.delete_ #[60, 9] 0 #[.map m, .string p.2.id]).run Try.prog u = .ok (.tuple #[]) u' ∧ Req u' sb N m (Pl.del tbl p.2.id) now peak ∧ Turn (foot sb N m) u u' ∧ (∀ a, u'.frozen? a = u.frozen? a) ∧ ∀ o, u'.cell? ⟨sb, o, none⟩ = u.cell? ⟨sb, o, none⟩ := by
  cases m with
  | none =>
    have e : tbl = [] := h.mp
    have := h.tl
    rw [e] at this
    simp at this
  | some M =>
    have hp : PMap u M tbl := mp
    obtain ⟨u', hrun, hp', ht⟩ := hp.drop hx 0
    refine ⟨u', hrun, req_unlinked h (h2.carry (fun a ha => map_block ht a (h2.off hp a ha))) hp' hp.1, (Turn.refl _ u).map ht (fun _ => by simp [foot]), ht.frozen, fun o => World.cell?_of_block (map_block ht sb (h2.off hp sb (.inl rfl)))⟩

theorem run_make_hint (n : Nat) (w : World) : (Instr.makeMap 60 (some (.int .i64 n))).run Try.prog w = .ok (.map (some w.heap.size)) (w.alloc (.map #[] 0)) := by
  simp [Instr.makeMap, run_underlying Try.underlying60, asInt, asIntOf]
theorem Req.peak {w : World} {sb : Nat} {N : Nodes} {m : Option Nat} {tbl : List (ByteArray × Nat)} {now peak : Int} (h : Req w sb N m tbl now peak) (p' : Int) : Req (w.setCell ⟨sb, 4, none⟩ (.int .i64 p')) sb N m tbl now p' := by
  have cl := cells_set h.c4 (.int .i64 p')
  have hc : ∀ a o, a ≠ sb ∨ o ≠ 4 → (w.setCell ⟨sb, 4, none⟩ (.int .i64 p')).cell? ⟨a, o, none⟩ = w.cell? ⟨a, o, none⟩ := fun a o ha => (congrFun (congrFun cl a) o).trans (ha.elim (upd_blk _ _) (upd_off _ _))
  refine ⟨h.nd, ?_, h.ns, (hc sb 0 (.inr (by omega))).trans h.c0, (hc sb 3 (.inr (by omega))).trans h.c3, (congrFun (congrFun cl sb) 4).trans (upd_same _ _ _ _),
    fun p hp => (h.nodes p hp).congr (fun o _ => hc p.1 o (.inl (fun e => h.ns (e ▸ List.mem_map_of_mem hp)))), fun a ha o => by rw [World.frozen?_setCell]; exact h.fz a ha o, ?_, h.tb, h.tl, h.idl, h.tms, h.nowb⟩
  · exact ⟨(hc sb 1 (.inr (by omega))).trans h.lk.old, (hc sb 2 (.inr (by omega))).trans h.lk.new, fun i x hx => (hc x 5 (.inr (by omega))).trans (h.lk.prv i x hx), fun i x hx => (hc x 6 (.inr (by omega))).trans (h.lk.nxt i x hx)⟩
  · refine h.mp.congr (fun M e => Below.heap_setCell _ _ _ _ (h.map_off e).1)
theorem copy_any {u : World} {m : Option Nat} {tbl : List (ByteArray × Nat)} (h : Mp u m tbl) (hl : tbl.length ≤ maxLen) :
    Calls Try.prog 53 #[.map (some u.heap.size), .map m] (u.alloc (.map #[] 0)) fun e w' => e = .returned (.tuple #[]) ∧ PMap w' u.heap.size tbl ∧ (u.alloc (.map #[] 0)).grownBy w' (some u.heap.size) ∧ ∀ a, w'.frozen? a = (u.alloc (.map #[] 0)).frozen? a := by
  cases m with
  | none =>
    have e : tbl = [] := h
    subst e
    exact copy_nil u.heap.size _ (pmap_made u)
  | some M =>
    have hm : PMap u M tbl := h
    exact copy_c u.heap.size M tbl _ (World.ownsMap_made u _ _ _) (hm.of_block (Below.heap_alloc u _ M hm.lt)) (fun e => by have := hm.lt; omega) hl
/-- what forget leaves -/
def Fgt (w w' : World) (sb : Nat) (N : Nodes) (m : Option Nat) (now peak : Int) : Prop :=
  ∃ tbl' m' peak', Req w' sb (N.dropWhile (old now)) m' tbl' now peak' ∧ 0 ≤ peak' ∧ peak' ≤ peak ∧ (m' = m ∨ ∃ M', m' = some M' ∧ w.heap.size ≤ M') ∧ Turn (foot sb N m) w w' ∧ (∀ a, w'.frozen? a = w.frozen? a) ∧ ∀ o, 5 ≤ o → w'.cell? ⟨sb, o, none⟩ = w.cell? ⟨sb, o, none⟩

/-- the map is laid anew -/
theorem shrunk {w u u1 u2 : World} {sb : Nat} {N N' : Nodes} {m : Option Nat} {tbl : List (ByteArray × Nat)} {now peak : Int} {bd : Nat} (hr : Req u sb N' m tbl now peak) (hN : N.dropWhile (old now) = N') (ht : Turn (foot sb N m) w u) (hf : ∀ a, u.frozen? a = w.frozen? a) (h5 : ∀ o, 5 ≤ o → u.cell? ⟨sb, o, none⟩ = w.cell? ⟨sb, o, none⟩)
    (hb : bd = u.heap.size) (t1 : Turn [] u u1) (f1 : ∀ a, u1.frozen? a = u.frozen? a) (hp : PMap u2 bd tbl) (g2 : u1.grownBy u2 (some bd)) (f2 : ∀ a, u2.frozen? a = u1.frozen? a) (hl : (tbl.length : Int) ≤ peak) :
    Fgt w ((u2.setCell ⟨sb, 0, none⟩ (.map (some bd))).setCell ⟨sb, 4, none⟩ (.int .i64 tbl.length)) sb N m now peak := by
  have hsl : sb < u.heap.size := lt_of_cell hr.c0
  have hbs : sb ≠ bd := by omega
  have T2 : Turn [] u u2 := ⟨g2.os.trans t1.os, g2.tape.trans t1.tape, g2.output.trans t1.output, Nat.le_trans t1.size g2.size, fun i hi hn => (g2.block i (Nat.lt_of_lt_of_le hi t1.size) (fun e => by cases e; omega)).trans (t1.block i hi (by simp))⟩
  have r2 : Req u2 sb N' m tbl now peak := hr.grow T2
  have r3 : Req ((u2.setCell ⟨sb, 0, none⟩ (.map (some bd))).setCell ⟨sb, 4, none⟩ (.int .i64 tbl.length)) sb N' (some bd) tbl now tbl.length := (r2.map0 hp).peak _
  rw [← hN] at r3
  have hsF : sb ∈ foot sb N m := by simp [foot]
  have T3 : Turn (foot sb N m) w u2 := ht.trans T2 (fun x hx => by simp at hx)
  refine ⟨tbl, some bd, tbl.length, r3, by omega, hl, .inr ⟨bd, rfl, by have := ht.size; omega⟩, (T3.setCell (fun _ => hsF) _).setCell (fun _ => hsF) _, fun a => by simp only [World.frozen?_setCell]; exact (f2 a).trans ((f1 a).trans (hf a)), fun o ho => ?_⟩
  have c0 := r2.c0
  have e1 : ((u2.setCell ⟨sb, 0, none⟩ (.map (some bd))).setCell ⟨sb, 4, none⟩ (.int .i64 tbl.length)).cell? ⟨sb, o, none⟩ = u2.cell? ⟨sb, o, none⟩ := by
    rw [World.cell?_setCell_other _ _ _ _ (fun e => by injection e with _ e2 _; omega), World.cell?_setCell_other _ _ _ _ (fun e => by injection e with _ e2 _; omega)]
  rw [e1]
  exact (World.cell?_of_block (T2.block sb hsl (by simp))).trans (h5 o ho)

set_option maxRecDepth 100000 in
set_option maxHeartbeats 2000000 in
theorem forget_c {w : World} {sb : Nat} {N : Nodes} {m : Option Nat} {tbl : List (ByteArray × Nat)} {now peak : Int} (h : Req w sb N m tbl now peak) (hp0 : 0 ≤ peak) (hpm : peak ≤ 9223372036854775807) :
    Calls Try.prog 46 #[.pointer (some ⟨sb, 0, none⟩)] w fun e w' => e = .returned (.tuple #[]) ∧ Fgt w w' sb N m now peak := by
  have H : Hid (Req w sb N m tbl now peak) := h
  clear h
  go_enter Try.func46, Try.ntmps46
  go_wp2
  go_loopg [2] N.length (fun k _ wr => ∃ (N' : Nodes) (tbl' : List (ByteArray × Nat)), k = N'.length ∧ N'.dropWhile (old now) = N.dropWhile (old now) ∧ (∀ p, p ∈ N' → p ∈ N) ∧ Req wr sb N' m tbl' now peak ∧ Turn (foot sb N m) w wr ∧ (∀ a, wr.frozen? a = w.frozen? a) ∧ ∀ o, 5 ≤ o → wr.cell? ⟨sb, o, none⟩ = w.cell? ⟨sb, o, none⟩)
  case atStart => exact ⟨N, tbl, rfl, rfl, fun _ h => h, H.out, Turn.refl _ _, fun _ => rfl, fun _ _ => rfl⟩
  case round =>
    obtain ⟨N', tbl', hk, hdw, hsub, hr, ht, hf, h5⟩ := hrel
    subst hk
    cases N' with
    | nil =>
      have q1 : wr.cell? ⟨sb, 1, none⟩ = some (.pointer none) := hr.lk.old
      have HR : Hid (N.dropWhile (old now) = [] ∧ Req wr sb [] m tbl' now peak ∧ Turn (foot sb N m) w wr ∧ (∀ a, wr.frozen? a = w.frozen? a) ∧ ∀ o, 5 ≤ o → wr.cell? ⟨sb, o, none⟩ = w.cell? ⟨sb, o, none⟩) := ⟨by simpa using hdw.symm, hr, ht, hf, h5⟩
      have q0 := hr.c0
      have q4 := hr.c4
      have ql : ∀ n, (Builtin.len_ #[60] 3 #[.map m]).run Try.prog (wr.drewN n) = .ok (.int .i64 (tbl'.length : Int)) (wr.drewN n) := fun n => (hr.mp.congr (u := wr.drewN n) (fun _ _ => rfl)).len
      have ql0 : (0 : Int) ≤ (tbl'.length : Int) := by omega
      clear hdw hsub hr ht hf h5
      go_wp2
      go_quiet (fail)
      revert nq
      intro n1
      go_wp2
      go_quiet (fail)
      have hs : sb < wr.heap.size := lt_of_cell q0
      by_cases hq : (tbl'.length : Int) < peak / 4
      · have hmk := run_make_hint tbl'.length
        have hz : ((wr.drewN (n1 + nq)).alloc (.map #[] 0)).cell? ⟨sb, 0, none⟩ = some (.map m) := (World.cell?_of_block ((World.grownBy_alloc (wr.drewN (n1 + nq)) (.map #[] 0) none).block sb hs (by simp))).trans q0
        go_wp2_with fail
        clear hmk hz
        obtain ⟨hdn, hr, ht, hf, h5⟩ := HR.out
        have C := copy_any (u := wr.drewN (n1 + nq)) (hr.mp.congr (fun _ _ => rfl)) (by have : maxLen = 9223372036854775807 := rfl; omega)
        refine Calls.mono C ?_
        rintro e3 u2 ⟨rfl, hp, hg, hfz⟩
        have hr1 : Req (wr.drewN (n1 + nq)) sb (N.dropWhile (old now)) m tbl' now peak := by rw [hdn]; exact hr.carry (fun _ _ => rfl)
        have gA : (wr.drewN (n1 + nq)).grownBy ((wr.drewN (n1 + nq)).alloc (.map #[] 0)) none := World.grownBy_alloc _ _ none
        have hb2 : u2.heap[sb]? = wr.heap[sb]? := (hg.block sb (by simp; omega) (fun e => by have e := Option.some.inj e; simp at e; omega)).trans (gA.block sb hs (by simp))
        have z0 : u2.cell? ⟨sb, 0, none⟩ = some (.map m) := (World.cell?_of_block hb2).trans q0
        have z4 : u2.cell? ⟨sb, 4, none⟩ = some (.int .i64 peak) := (World.cell?_of_block hb2).trans q4
        have zf : ∀ o, u2.frozen? ⟨sb, o, none⟩ = false := fun o => (World.frozen?_of_block hb2).trans (hr.fz sb (.inl rfl) o)
        have zl : (Builtin.len_ #[60] 3 #[.map (some wr.heap.size)]).run Try.prog u2 = .ok (.int .i64 (tbl'.length : Int)) u2 := hp.len 3
        have FIN : Hid (Fgt w ((u2.setCell ⟨sb, 0, none⟩ (.map (some wr.heap.size))).setCell ⟨sb, 4, none⟩ (.int .i64 tbl'.length)) sb N m now peak) := by
          refine shrunk hr1 rfl (ht.drewN (n1 + nq)) hf h5 rfl ((Turn.refl [] (wr.drewN (n1 + nq))).alloc _) (fun a => ?_) hp hg hfz (by omega)
          by_cases h1 : a.block < (wr.drewN (n1 + nq)).heap.size
          · exact World.frozen?_of_block (gA.block a.block h1 (by simp))
          · rw [frozen_beyond (w := wr.drewN (n1 + nq)) (by omega)]
            by_cases h2 : a.block = (wr.drewN (n1 + nq)).heap.size
            · have hb : ((wr.drewN (n1 + nq)).alloc (.map #[] 0)).heap[(wr.drewN (n1 + nq)).heap.size]? = some (.map #[] 0) := by
                show ((wr.drewN (n1 + nq)).heap.push (.map #[] 0))[(wr.drewN (n1 + nq)).heap.size]? = _
                simp
              unfold World.frozen?
              rw [h2, hb]
            · exact frozen_beyond (by simp at h1 h2 ⊢; omega)
        clear hdn hr ht hf h5 C hr1 gA hb2 hp hg hfz
        go_wp2
        go_end0
        exact ⟨rfl, FIN.out⟩
      · go_wp2
        go_end0
        obtain ⟨hdn, hr, ht, hf, h5⟩ := HR.out
        refine ⟨rfl, tbl', m, peak, ?_, hp0, Int.le_refl _, .inl rfl, ht.drewN _, hf, h5⟩
        rw [hdn]
        exact hr.carry (fun _ _ => rfl)
    | cons p N1 =>
      obtain ⟨b, c⟩ := p
      have nb := hr.nowb
      have tmb := hr.tms (b, c) (by simp)
      obtain ⟨n0, n1, n2, n3, n4⟩ := hr.nodes (b, c) (by simp)
      simp only at n0 n1 n2 n3 n4 tmb
      have q1 : wr.cell? ⟨sb, 1, none⟩ = some (.pointer (some ⟨b, 0, none⟩)) := hr.lk.old
      have q0 := hr.c0
      have q3 := hr.c3
      have q4 := hr.c4
      have hwr : IntKind.i64.wrap (now - c.tm) = now - c.tm := by simp [IntKind.wrap, IntKind.bits, IntKind.signed]; omega
      by_cases hold : 3600000 < now - c.tm
      · have hd : decide (3600000 < now - c.tm) = true := by simpa using hold
        have HR : Hid (N1.dropWhile (old now) = N.dropWhile (old now) ∧ Req wr sb ((b, c) :: N1) m tbl' now peak ∧ Turn (foot sb N m) w wr ∧ (∀ a, wr.frozen? a = w.frozen? a) ∧ ∀ o, 5 ≤ o → wr.cell? ⟨sb, o, none⟩ = w.cell? ⟨sb, o, none⟩) := by
          refine ⟨?_, hr, ht, hf, h5⟩
          rw [← hdw, List.dropWhile_cons, if_pos (show old now (b, c) = true from hd)]
        have HS : Hid (∀ p, p ∈ (b, c) :: N1 → p ∈ N) := hsub
        clear hdw hsub hr ht hf h5
        go_wp2
        go_quiet ((go_at_call 52; refine Calls.quiet_of_same (ms_c _)))
        go_wp2_with fail
        obtain ⟨hdw, hr, ht, hf, h5⟩ := HR.out
        have hr' : Req (wr.drewN nq) sb ((b, c) :: N1) m tbl' now peak := hr.carry (fun _ _ => rfl)
        refine (unlink_req (k := 0) (b := b) (c := c) hr' rfl).mono ?_
        rintro e1 w2 ⟨rfl, hm2, hn2, hp2, ht2, hf2, h52⟩
        have hx : c.id.size ≤ maxLen := hr.idl (b, c) (by simp)
        have hm2 : Mid w2 sb N1 b m now peak := hm2
        obtain ⟨w3, hrun, hr3, ht3, hf3, h53⟩ := del_run (p := (b, c)) hr hp2.drew hm2.drew hx
        simp only at hrun
        have z0 := hm2.c0
        have z3 := hn2.2.2.2.1
        have HR3 : Hid (N1.dropWhile (old now) = N.dropWhile (old now) ∧ Req w3 sb N1 m (Pl.del tbl' c.id) now peak ∧ Turn (foot sb N m) w w3 ∧ (∀ a, w3.frozen? a = w.frozen? a) ∧ ∀ o, 5 ≤ o → w3.cell? ⟨sb, o, none⟩ = w.cell? ⟨sb, o, none⟩) := by
          have hin : ∀ a, a ∈ blks ((b, c) :: N1) → a ∈ foot sb N m := fun a ha => by
            obtain ⟨p, hp, rfl⟩ := List.mem_map.1 ha
            exact List.mem_cons_of_mem _ (List.mem_append_right _ (List.mem_map_of_mem (f := (·.1)) (HS.out p hp)))
          refine ⟨hdw, hr3, ((ht.drewN nq).trans ht2 (fun a ha _ => ?_)).drew.trans ht3 (fun a ha _ => ?_), fun a => (hf3 a).trans ((hf2 a).trans (hf a)), fun o ho => (h53 o).trans ((h52 o ho).trans (h5 o ho))⟩
          · rcases List.mem_cons.1 ha with rfl | ha
            · simp [foot]
            · exact hin a ha
          · unfold foot at ha
            rcases List.mem_cons.1 ha with rfl | ha
            · simp [foot]
            · rcases List.mem_append.1 ha with ha | ha
              · exact List.mem_cons_of_mem _ (List.mem_append_left _ ha)
              · exact hin a (List.mem_cons_of_mem _ ha)
        clear hdw hr ht hf h5 hr' hm2 hn2 hp2 ht2 hf2 h52 hr3 ht3 hf3 h53
        go_wp2_with fail
        go_region
        go_wp2
        go_roundg N1.length
        case measure => simp
        case rel =>
          obtain ⟨hdw, hr, ht, hf, h5⟩ := HR3.out
          exact ⟨N1, _, rfl, hdw, fun p hp => HS.out p (List.mem_cons_of_mem _ hp), hr, ht, hf, h5⟩
      · have hd : decide (3600000 < now - c.tm) = false := by simpa using hold
        have HR : Hid (N.dropWhile (old now) = (b, c) :: N1 ∧ Req wr sb ((b, c) :: N1) m tbl' now peak ∧ Turn (foot sb N m) w wr ∧ (∀ a, wr.frozen? a = w.frozen? a) ∧ ∀ o, 5 ≤ o → wr.cell? ⟨sb, o, none⟩ = w.cell? ⟨sb, o, none⟩) := by
          refine ⟨?_, hr, ht, hf, h5⟩
          rw [← hdw, List.dropWhile_cons, if_neg (by rw [show old now (b, c) = false from hd]; exact Bool.false_ne_true)]
        have ql : ∀ n, (Builtin.len_ #[60] 3 #[.map m]).run Try.prog (wr.drewN n) = .ok (.int .i64 (tbl'.length : Int)) (wr.drewN n) := fun n => (hr.mp.congr (u := wr.drewN n) (fun _ _ => rfl)).len
        have ql0 : (0 : Int) ≤ (tbl'.length : Int) := by omega
        clear hdw hsub hr ht hf h5 hold
        go_wp2
        go_quiet ((go_at_call 52; refine Calls.quiet_of_same (ms_c _)))
        revert nq
        intro n1
        go_wp2
        go_quiet (fail)
        have hs : sb < wr.heap.size := lt_of_cell q0
        by_cases hq : (tbl'.length : Int) < peak / 4
        · have hmk := run_make_hint tbl'.length
          have hz : ((wr.drewN (n1 + nq)).alloc (.map #[] 0)).cell? ⟨sb, 0, none⟩ = some (.map m) := (World.cell?_of_block ((World.grownBy_alloc (wr.drewN (n1 + nq)) (.map #[] 0) none).block sb hs (by simp))).trans q0
          go_wp2_with fail
          clear hmk hz
          obtain ⟨hdn, hr, ht, hf, h5⟩ := HR.out
          have C := copy_any (u := wr.drewN (n1 + nq)) (hr.mp.congr (fun _ _ => rfl)) (by have : maxLen = 9223372036854775807 := rfl; omega)
          refine Calls.mono C ?_
          rintro e3 u2 ⟨rfl, hp, hg, hfz⟩
          have hr1 : Req (wr.drewN (n1 + nq)) sb (N.dropWhile (old now)) m tbl' now peak := by rw [hdn]; exact hr.carry (fun _ _ => rfl)
          have gA : (wr.drewN (n1 + nq)).grownBy ((wr.drewN (n1 + nq)).alloc (.map #[] 0)) none := World.grownBy_alloc _ _ none
          have hb2 : u2.heap[sb]? = wr.heap[sb]? := (hg.block sb (by simp; omega) (fun e => by have e := Option.some.inj e; simp at e; omega)).trans (gA.block sb hs (by simp))
          have z0 : u2.cell? ⟨sb, 0, none⟩ = some (.map m) := (World.cell?_of_block hb2).trans q0
          have z4 : u2.cell? ⟨sb, 4, none⟩ = some (.int .i64 peak) := (World.cell?_of_block hb2).trans q4
          have zf : ∀ o, u2.frozen? ⟨sb, o, none⟩ = false := fun o => (World.frozen?_of_block hb2).trans (hr.fz sb (.inl rfl) o)
          have zl : (Builtin.len_ #[60] 3 #[.map (some wr.heap.size)]).run Try.prog u2 = .ok (.int .i64 (tbl'.length : Int)) u2 := hp.len 3
          have FIN : Hid (Fgt w ((u2.setCell ⟨sb, 0, none⟩ (.map (some wr.heap.size))).setCell ⟨sb, 4, none⟩ (.int .i64 tbl'.length)) sb N m now peak) := by
            refine shrunk hr1 rfl (ht.drewN (n1 + nq)) hf h5 rfl ((Turn.refl [] (wr.drewN (n1 + nq))).alloc _) (fun a => ?_) hp hg hfz (by omega)
            by_cases h1 : a.block < (wr.drewN (n1 + nq)).heap.size
            · exact World.frozen?_of_block (gA.block a.block h1 (by simp))
            · rw [frozen_beyond (w := wr.drewN (n1 + nq)) (by omega)]
              by_cases h2 : a.block = (wr.drewN (n1 + nq)).heap.size
              · have hb : ((wr.drewN (n1 + nq)).alloc (.map #[] 0)).heap[(wr.drewN (n1 + nq)).heap.size]? = some (.map #[] 0) := by
                  show ((wr.drewN (n1 + nq)).heap.push (.map #[] 0))[(wr.drewN (n1 + nq)).heap.size]? = _
                  simp
                unfold World.frozen?
                rw [h2, hb]
              · exact frozen_beyond (by simp at h1 h2 ⊢; omega)
          clear hdn hr ht hf h5 C hr1 gA hb2 hp hg hfz
          go_wp2
          go_end0
          exact ⟨rfl, FIN.out⟩
        · go_wp2
          go_end0
          obtain ⟨hdn, hr, ht, hf, h5⟩ := HR.out
          refine ⟨rfl, tbl', m, peak, ?_, hp0, Int.le_refl _, .inl rfl, ht.drewN _, hf, h5⟩
          rw [hdn]
          exact hr.carry (fun _ _ => rfl)
end Go.Proofs.Qxb6615757a
