/-
  (*Requests).forget
-/
import Derived.Test.Qxb6615757aRecord
import Derived.Deep.LoopGhost
namespace Go.Proofs.Qxb6615757a
open Go.RowKit

theorem ms_c (w : World) : Calls Try.prog 52 #[.int .i64 3600000000000] w fun e w' => e = .returned (.int .i64 3600000) ∧ w' = w := by
  go_enter Try.func52, Try.ntmps52
  go_wp2
  go_ret
  exact ⟨rfl, rfl⟩

/-- left behind -/
def old (now : Int) (p : Nat × Cl) : Bool := decide (3600000 < now - p.2.tm)

theorem len_nil60 (w : World) : (Builtin.len_ #[60] 3 #[.map none]).run Try.prog w = .ok (.int .i64 0) w := by kernel_rfl
theorem Mp.len {w : World} {m : Option Nat} {tbl : List (ByteArray × Nat)} (h : Mp w m tbl) : (Builtin.len_ #[60] 3 #[.map m]).run Try.prog w = .ok (.int .i64 (tbl.length : Int)) w := by
  cases m with
  | none =>
    have e : tbl = [] := h
    subst e
    exact len_nil60 w
  | some M => exact PMap.len h 3

theorem req_unlinked {w u : World} {sb : Nat} {p : Nat × Cl} {N : Nodes} {m : Option Nat} {tbl : List (ByteArray × Nat)} {now peak peak2 : Int} (h : Req w sb (p :: N) m tbl now peak) (h2 : Mid u sb N p.1 m now peak2) (mp : Mp u m (Pl.del tbl p.2.id)) (nd : Pl.Nd tbl) :
    Req u sb N m (Pl.del tbl p.2.id) now peak2 := by
  have hp : Pl.get tbl p.2.id = some p.1 := (h.tb _ _).2 ⟨p.2, by simp, rfl⟩
  have nb : p.1 ∉ blks N := h2.nb
  refine ⟨h2.nd, h2.lk, h2.ns, h2.c0, h2.c3, h2.c4, h2.nodes, fun a ha o => h2.fz a (ha.elim .inl (fun e => .inr (.inr e))) o, mp, ?_, ?_, fun q hq => h.idl q (List.mem_cons_of_mem _ hq), fun q hq => h.tms q (List.mem_cons_of_mem _ hq), h.nowb⟩
  · intro y b'
    by_cases e : y = p.2.id
    · subst e
      rw [Pl.get_del_same]
      refine Iff.intro (fun e => by cases e) ?_
      rintro ⟨c', hm, hid⟩
      have := (h.tb p.2.id b').2 ⟨c', List.mem_cons_of_mem _ hm, hid⟩
      rw [hp] at this
      cases this
      exact absurd (List.mem_map_of_mem (f := (·.1)) hm) nb
    · rw [Pl.get_del_other tbl e, h.tb y b']
      constructor
      · rintro ⟨c', hm, hid⟩
        rcases List.mem_cons.1 hm with hm | hm
        · subst hm; exact absurd hid.symm e
        · exact ⟨c', hm, hid⟩
      · rintro ⟨c', hm, hid⟩
        exact ⟨c', List.mem_cons_of_mem _ hm, hid⟩
  · have := Pl.length_del nd p.2.id
    rw [hp, h.tl] at this
    simpa using this

theorem del_run {w u : World} {sb : Nat} {p : Nat × Cl} {N : Nodes} {m : Option Nat} {tbl : List (ByteArray × Nat)} {now peak : Int} (h : Req w sb (p :: N) m tbl now peak) (mp : Mp u m tbl) (h2 : Mid u sb N p.1 m now peak) (hx : p.2.id.size ≤ maxLen) :
    ∃ u', (Builtin.delete_ #[60, 9] 0 #[.map m, .string p.2.id]).run Try.prog u = .ok (.tuple #[]) u' ∧ Req u' sb N m (Pl.del tbl p.2.id) now peak ∧ Turn (foot sb N m) u u' ∧ (∀ a, u'.frozen? a = u.frozen? a) ∧ ∀ o, u'.cell? ⟨sb, o, none⟩ = u.cell? ⟨sb, o, none⟩ := by
  cases m with
  | none =>
    have e : tbl = [] := h.mp
    have := h.tl
    rw [e] at this
    simp at this
  | some M =>
    have hp : PMap u M tbl := mp
    obtain ⟨u', hrun, hp', ht⟩ := hp.drop hx 0
    refine ⟨u', hrun, req_unlinked h (h2.carry (fun a ha => map_block ht a (h2.off hp a ha))) hp' hp.1, (Turn.refl _ u).map ht (fun _ => by simp [foot]), ht.frozen, fun o => World.cell?_of_block (map_block ht sb (h2.off hp sb (.inl rfl)))⟩

set_option maxRecDepth 100000 in
set_option maxHeartbeats 2000000 in
theorem forget_c {w : World} {sb : Nat} {N : Nodes} {m : Option Nat} {tbl : List (ByteArray × Nat)} {now peak : Int} (h : Req w sb N m tbl now peak) (hpk : peak < 4) (hp0 : 0 ≤ peak) :
    Calls Try.prog 46 #[.pointer (some ⟨sb, 0, none⟩)] w fun e w' => e = .returned (.tuple #[]) ∧
      ∃ tbl', Req w' sb (N.dropWhile (old now)) m tbl' now peak ∧ Turn (foot sb N m) w w' ∧ (∀ a, w'.frozen? a = w.frozen? a) ∧ ∀ o, 5 ≤ o → w'.cell? ⟨sb, o, none⟩ = w.cell? ⟨sb, o, none⟩ := by
  have H : Hid (Req w sb N m tbl now peak) := h
  clear h
  go_enter Try.func46, Try.ntmps46
  go_wp2
  go_loopg [2] N.length (fun k _ wr => ∃ (N' : Nodes) (tbl' : List (ByteArray × Nat)), k = N'.length ∧ N'.dropWhile (old now) = N.dropWhile (old now) ∧ (∀ p, p ∈ N' → p ∈ N) ∧ Req wr sb N' m tbl' now peak ∧ Turn (foot sb N m) w wr ∧ (∀ a, wr.frozen? a = w.frozen? a) ∧ ∀ o, 5 ≤ o → wr.cell? ⟨sb, o, none⟩ = w.cell? ⟨sb, o, none⟩)
  case atStart => exact ⟨N, tbl, rfl, rfl, fun _ h => h, H.out, Turn.refl _ _, fun _ => rfl, fun _ _ => rfl⟩
  case round =>
    obtain ⟨N', tbl', hk, hdw, hsub, hr, ht, hf, h5⟩ := hrel
    subst hk
    cases N' with
    | nil =>
      have q1 : wr.cell? ⟨sb, 1, none⟩ = some (.pointer none) := hr.lk.old
      have HR : Hid (N.dropWhile (old now) = [] ∧ Req wr sb [] m tbl' now peak ∧ Turn (foot sb N m) w wr ∧ (∀ a, wr.frozen? a = w.frozen? a) ∧ ∀ o, 5 ≤ o → wr.cell? ⟨sb, o, none⟩ = w.cell? ⟨sb, o, none⟩) := ⟨by simpa using hdw.symm, hr, ht, hf, h5⟩
      have q0 := hr.c0
      have q4 := hr.c4
      have ql : ∀ n, (Builtin.len_ #[60] 3 #[.map m]).run Try.prog (wr.drewN n) = .ok (.int .i64 (tbl'.length : Int)) (wr.drewN n) := fun n => (hr.mp.congr (u := wr.drewN n) (fun _ _ => rfl)).len
      have ql0 : (0 : Int) ≤ (tbl'.length : Int) := by omega
      clear hdw hsub hr ht hf h5
      go_wp2
      go_quiet (fail)
      go_wp2
      go_quiet (fail)
      go_wp2
      go_end0
      obtain ⟨hdn, hr, ht, hf, h5⟩ := HR.out
      refine ⟨rfl, tbl', ?_, (ht.drewN _).drewN _, hf, h5⟩
      rw [hdn]
      exact hr.carry (fun _ _ => rfl)
    | cons p N1 =>
      obtain ⟨b, c⟩ := p
      have nb := hr.nowb
      have tmb := hr.tms (b, c) (by simp)
      obtain ⟨n0, n1, n2, n3, n4⟩ := hr.nodes (b, c) (by simp)
      simp only at n0 n1 n2 n3 n4 tmb
      have q1 : wr.cell? ⟨sb, 1, none⟩ = some (.pointer (some ⟨b, 0, none⟩)) := hr.lk.old
      have q0 := hr.c0
      have q3 := hr.c3
      have q4 := hr.c4
      have hwr : IntKind.i64.wrap (now - c.tm) = now - c.tm := by simp [IntKind.wrap, IntKind.bits, IntKind.signed]; omega
      by_cases hold : 3600000 < now - c.tm
      · have hd : decide (3600000 < now - c.tm) = true := by simpa using hold
        have HR : Hid (N1.dropWhile (old now) = N.dropWhile (old now) ∧ Req wr sb ((b, c) :: N1) m tbl' now peak ∧ Turn (foot sb N m) w wr ∧ (∀ a, wr.frozen? a = w.frozen? a) ∧ ∀ o, 5 ≤ o → wr.cell? ⟨sb, o, none⟩ = w.cell? ⟨sb, o, none⟩) := by
          refine ⟨?_, hr, ht, hf, h5⟩
          rw [← hdw, List.dropWhile_cons, if_pos (show old now (b, c) = true from hd)]
        have HS : Hid (∀ p, p ∈ (b, c) :: N1 → p ∈ N) := hsub
        clear hdw hsub hr ht hf h5
        go_wp2
        go_quiet ((go_at_call 52; refine Calls.quiet_of_same (ms_c _)))
        go_wp2_with fail
        obtain ⟨hdw, hr, ht, hf, h5⟩ := HR.out
        have hr' : Req (wr.drewN nq) sb ((b, c) :: N1) m tbl' now peak := hr.carry (fun _ _ => rfl)
        refine (unlink_req (k := 0) (b := b) (c := c) hr' rfl).mono ?_
        rintro e1 w2 ⟨rfl, hm2, hn2, hp2, ht2, hf2, h52⟩
        have hx : c.id.size ≤ maxLen := hr.idl (b, c) (by simp)
        have hm2 : Mid w2 sb N1 b m now peak := hm2
        obtain ⟨w3, hrun, hr3, ht3, hf3, h53⟩ := del_run (p := (b, c)) hr hp2.drew hm2.drew hx
        simp only at hrun
        have z0 := hm2.c0
        have z3 := hn2.2.2.2.1
        have HR3 : Hid (N1.dropWhile (old now) = N.dropWhile (old now) ∧ Req w3 sb N1 m (Pl.del tbl' c.id) now peak ∧ Turn (foot sb N m) w w3 ∧ (∀ a, w3.frozen? a = w.frozen? a) ∧ ∀ o, 5 ≤ o → w3.cell? ⟨sb, o, none⟩ = w.cell? ⟨sb, o, none⟩) := by
          have hin : ∀ a, a ∈ blks ((b, c) :: N1) → a ∈ foot sb N m := fun a ha => by
            obtain ⟨p, hp, rfl⟩ := List.mem_map.1 ha
            exact List.mem_cons_of_mem _ (List.mem_append_right _ (List.mem_map_of_mem (f := (·.1)) (HS.out p hp)))
          refine ⟨hdw, hr3, ((ht.drewN nq).trans ht2 (fun a ha _ => ?_)).drew.trans ht3 (fun a ha _ => ?_), fun a => (hf3 a).trans ((hf2 a).trans (hf a)), fun o ho => (h53 o).trans ((h52 o ho).trans (h5 o ho))⟩
          · rcases List.mem_cons.1 ha with rfl | ha
            · simp [foot]
            · exact hin a ha
          · unfold foot at ha
            rcases List.mem_cons.1 ha with rfl | ha
            · simp [foot]
            · rcases List.mem_append.1 ha with ha | ha
              · exact List.mem_cons_of_mem _ (List.mem_append_left _ ha)
              · exact hin a (List.mem_cons_of_mem _ ha)
        clear hdw hr ht hf h5 hr' hm2 hn2 hp2 ht2 hf2 h52 hr3 ht3 hf3 h53
        go_wp2_with fail
        go_region
        go_wp2
        go_roundg N1.length
        case measure => simp
        case rel =>
          obtain ⟨hdw, hr, ht, hf, h5⟩ := HR3.out
          exact ⟨N1, _, rfl, hdw, fun p hp => HS.out p (List.mem_cons_of_mem _ hp), hr, ht, hf, h5⟩
      · have hd : decide (3600000 < now - c.tm) = false := by simpa using hold
        have HR : Hid (N.dropWhile (old now) = (b, c) :: N1 ∧ Req wr sb ((b, c) :: N1) m tbl' now peak ∧ Turn (foot sb N m) w wr ∧ (∀ a, wr.frozen? a = w.frozen? a) ∧ ∀ o, 5 ≤ o → wr.cell? ⟨sb, o, none⟩ = w.cell? ⟨sb, o, none⟩) := by
          refine ⟨?_, hr, ht, hf, h5⟩
          rw [← hdw, List.dropWhile_cons, if_neg (by rw [show old now (b, c) = false from hd]; exact Bool.false_ne_true)]
        have ql : ∀ n, (Builtin.len_ #[60] 3 #[.map m]).run Try.prog (wr.drewN n) = .ok (.int .i64 (tbl'.length : Int)) (wr.drewN n) := fun n => (hr.mp.congr (u := wr.drewN n) (fun _ _ => rfl)).len
        have ql0 : (0 : Int) ≤ (tbl'.length : Int) := by omega
        clear hdw hsub hr ht hf h5 hold
        go_wp2
        go_quiet ((go_at_call 52; refine Calls.quiet_of_same (ms_c _)))
        go_wp2
        go_quiet (fail)
        go_wp2
        go_end0
        obtain ⟨hdn, hr, ht, hf, h5⟩ := HR.out
        refine ⟨rfl, tbl', ?_, (ht.drewN _).drewN _, hf, h5⟩
        rw [hdn]
        exact hr.carry (fun _ _ => rfl)
end Go.Proofs.Qxb6615757a
