/-
  THE WALK of FnMoveClaimOnceTwiceFrame.
-/
import Derived.Test.Qxb6615505aTwo
import Derived.Test.Qxb6615505aExt
import Derived.Test.Qxb6615505aRead
import Derived.WalkKit
import Derived.WalkSpells
import Derived.WalkLawsBesides
import Derived.Deep.LoopGhost
import Derived.Deep.QuietTactic
import Derived.BigQuiet
import Derived.BigRegion
import Derived.RegionTactic
import Derived.Deep.CutBlock
import Derived.Deep.CutRange
import Derived.Deep.DeepCutAuto
namespace Go.Proofs.Qxb6615505a
open Go.RowKit
open Pl (CRec CRow Key Tab)

set_option maxRecDepth 100000 in
set_option maxHeartbeats 4000000 in
theorem frame_any (a : Option Addr) (len cap : Nat) (R : Nat → CRow) (pv : Option Addr) (prev : Option CRec) (r : CRec) (mp : Option Addr) (w : World) (hs : ∀ i, i < len → RowAt w a i (R i)) (hl : len ≤ maxLen)
    (hp : PrevIn w pv prev) (hm : MachIs w mp r.mach) (hok : ∀ i, i < len → RowOk (R i)) (hrok : RecOk r) (hpok : ∀ p, prev = some p → RecOk p) :
    Calls Try.prog 4 #[.slice a len cap, .pointer pv, .agg #[.string r.id, .string r.ten, .pointer mp, .bool r.excl, .string r.st]] w fun e w' => e = .returned (.bool true) ∧ w.grownBy w' none := by
  have HW : Hid (w.grownBy (w.alloc (.cells #[.string r.id, .string r.ten, .pointer mp, .bool r.excl, .string r.st] 27)) none) := below_box w _
  have HS : Hid (∀ i, i < len → RowAt (w.alloc (.cells #[.string r.id, .string r.ten, .pointer mp, .bool r.excl, .string r.st] 27)) a i (R i)) := fun i hi => (hs i hi).kept HW.out
  have HP : Hid (PrevIn (w.alloc (.cells #[.string r.id, .string r.ten, .pointer mp, .bool r.excl, .string r.st] 27)) pv prev) := hp.kept HW.out
  have HR : Hid (RecCells (w.alloc (.cells #[.string r.id, .string r.ten, .pointer mp, .bool r.excl, .string r.st] 27)) w.heap.size 0 r mp) := recCells_box w r mp hm
  have HL : Hid (len ≤ maxLen) := hl
  have HO : Hid ((∀ i, i < len → RowOk (R i)) ∧ RecOk r ∧ ∀ p, prev = some p → RecOk p) := ⟨hok, hrok, hpok⟩
  clear hs hp hm hl hok hrok hpok
  by_cases hbig : (len : Int) > 4096
  · go_enter Try.func4, Try.ntmps4
    go_wp2_with fail
    refine (bytes2_any a len cap R pv prev r mp _ HS.out HL.out HP.out HR.out.m).mono ?_
    rintro e w2 ⟨⟨fits, rfl⟩, g2⟩
    have G2 : Hid (w.grownBy w2 none) := HW.out.trans g2
    clear g2
    cases fits
    · go_wp2
      go_ret
      exact ⟨rfl, G2.out⟩
    · go_wp2
      go_ret
      exact ⟨rfl, G2.out⟩
  go_enter Try.func4, Try.ntmps4
  go_wp2_with fail
  refine (bytes2_any a len cap R pv prev r mp _ HS.out HL.out HP.out HR.out.m).mono ?_
  generalize w.alloc (.cells #[.string r.id, .string r.ten, .pointer mp, .bool r.excl, .string r.st] 27) = w1 at *
  generalize w.heap.size = rb at *
  rintro e w2 ⟨⟨fits, rfl⟩, g2⟩
  have G2 : Hid (w1.grownBy w2 none) := g2
  clear g2
  cases fits
  · go_wp2
    go_ret
    exact ⟨rfl, HW.out.trans G2.out⟩
  have RC : Hid (RecCells w2 rb 0 r mp) := HR.out.kept G2.out
  obtain ⟨d0, d1, d2, d3, d4, dm⟩ := RC.out
  have DM : Hid (MachIs w2 mp r.mach) := dm
  clear dm
  go_wp2_with fail
  refine (recBytes_any r mp _ DM.out).mono ?_
  rintro e w3 ⟨⟨z3, rfl⟩, g3⟩
  have G3 : Hid (w1.grownBy w3 none) := G2.out.trans g3
  clear g3 d0 d1 d2 d3 d4 DM RC G2
  go_upto_if 51 with fail
  go_cut [7] from 52 to 57 (fun s wc => (∃ z : Int, s = .int .i64 z) ∧ w1.grownBy wc none)
  case first =>
    rcases HP.out.kept G3.out with ⟨e1, _⟩ | ⟨pb, po, pr, pm, e1, _, ⟨q0, q1, q2, q3, q4, qm⟩⟩
    · subst e1
      go_wp2_with fail
      go_meet
      case rel => exact ⟨⟨_, rfl⟩, G3.out⟩
    · subst e1
      have QM : Hid (MachIs w3 pm pr.mach) := qm
      clear qm
      go_wp2_with fail
      refine (recBytes_any pr pm _ QM.out).mono ?_
      rintro e w4 ⟨⟨z4, rfl⟩, g4⟩
      have G4 : Hid (w1.grownBy w4 none) := G3.out.trans g4
      clear g4
      go_wp2_with fail
      go_meet
      case rel => exact ⟨⟨_, rfl⟩, G4.out⟩
  case rest =>
    obtain ⟨⟨z, hz⟩, hg⟩ := hcut
    rw [hz]
    have G4 : Hid (w1.grownBy wc none) := hg
    clear hz hg G3
    by_cases hcap : (z : Int) > 1048576
    · go_wp2
      go_ret
      exact ⟨rfl, HW.out.trans G4.out⟩
    go_wp2_with fail
    go_loopg [7, 8] len (fun g t i wr => ∃ (k : Nat) (z : Int), k ≤ len ∧ g = len - k ∧ i = .int .i64 k ∧ t = .int .i64 z ∧ w1.grownBy wr none)
    case atStart => exact ⟨0, _, Nat.zero_le _, rfl, rfl, rfl, G4.out⟩
    case round =>
      obtain ⟨k, z, hk, hg, rfl, rfl, hgr⟩ := hrel
      have GR : Hid (w1.grownBy wr none ∧ gk = len - k) := ⟨hgr, hg⟩
      clear hgr hg
      by_cases hlt : k < len
      · obtain ⟨b, off, ea, c0, c1, c2⟩ := (HS.out k hlt).kept GR.out.1
        subst ea
        go_wp2_with fail
        go_quiet (fail)
        go_wp2_with fail
        · go_ret
          exact ⟨rfl, HW.out.trans (grown_drewN GR.out.1 nq)⟩
        · go_roundg (len - (k + 1))
          case measure => have := GR.out.2; omega
          case rel => exact ⟨k + 1, _, by omega, rfl, by go_num, rfl, grown_drewN GR.out.1 nq⟩
      · -- the two maps
        have GA : Hid (w1.grownBy wr none) := GR.out.1
        clear GR G4
        go_wp2_with fail
        refine (rowsMap_any a len cap R wr (fun i hi => (HS.out i hi).kept GA.out) HO.out.1 (by omega)).mono ?_
        rintro e w5 ⟨M, rfl, hm5, g5, hM⟩
        have A5 : Hid (MapIs w5 M len (Pl.tab R len) ∧ w1.grownBy w5 none ∧ w1.heap.size ≤ M) := ⟨hm5, GA.out.trans g5, Nat.le_trans GA.out.size hM⟩
        clear hm5 g5 hM
        go_wp2_with fail
        refine (rowsMap_any a len cap R w5 (fun i hi => (HS.out i hi).kept A5.out.2.1) HO.out.1 (by omega)).mono ?_
        rintro e w6 ⟨M2, rfl, hm6, g6, hM2⟩
        have A6 : Hid (Two w1 M M2 len len (Pl.tab R len) (Pl.tab R len) w6) :=
          ⟨A5.out.1.kept g6 (by simp), hm6, A5.out.2.1.trans g6, A5.out.2.2, Nat.le_trans A5.out.2.1.size hM2, Nat.lt_of_lt_of_le A5.out.1.lt hM2⟩
        clear hm6 g6 hM2 A5 GA
        go_upto_if 96 with fail
        go_cut [11, 12] from 97 to 104 (fun s t wc => PrevAt (Xs M M2) wc s prev ∧ PrevAt (Xs M M2) wc t prev ∧ Two w1 M M2 len len (Pl.tab R len) (Pl.tab R len) wc)
        case first =>
          rcases HP.out.kept A6.out.g with ⟨e1, e2⟩ | ⟨pb, po, pr, pm, e1, e2, hrc⟩
          · subst e1
            go_wp2_with fail
            go_meet
            case rel => exact ⟨Or.inl ⟨rfl, e2⟩, Or.inl ⟨rfl, e2⟩, A6.out⟩
          · subst e1
            have QC : Hid (RecCells w6 pb po pr pm ∧ prev = some pr) := ⟨hrc, e2⟩
            obtain ⟨q0, q1, q2, q3, q4, _⟩ := hrc
            clear e2
            go_wp2_with fail
            refine (record_any (Xs M M2) pr pm _ QC.out.1.m A6.out.free).mono ?_
            rintro e w7 ⟨r7, rfl, _, hr7, g7⟩
            have A7 : Hid (Two w1 M M2 len len (Pl.tab R len) (Pl.tab R len) w7 ∧ RecAt (Xs M M2) w7 r7 pr ∧ RecCells w7 pb po pr pm) := ⟨A6.out.grow g7, hr7, QC.out.1.kept g7⟩
            clear g7 hr7 q0 q1 q2 q3 q4
            obtain ⟨q0, q1, q2, q3, q4, _⟩ := A7.out.2.2
            go_wp2_with fail
            refine (record_any (Xs M M2) pr pm _ A7.out.2.2.m A7.out.1.free).mono ?_
            rintro e w8 ⟨r8, rfl, _, hr8, g8⟩
            have A8 : Hid (Two w1 M M2 len len (Pl.tab R len) (Pl.tab R len) w8 ∧ RecAt (Xs M M2) w8 r7 pr ∧ RecAt (Xs M M2) w8 r8 pr) := ⟨A7.out.1.grow g8, A7.out.2.1.kept g8 (by simp), hr8⟩
            clear g8 hr8 q0 q1 q2 q3 q4
            go_wp2_with fail
            go_meet
            case rel => exact ⟨Or.inr ⟨r7, pr, rfl, QC.out.2, A8.out.2.1⟩, Or.inr ⟨r8, pr, rfl, QC.out.2, A8.out.2.2⟩, A8.out.1⟩
        case rest =>
          have B0 : Hid (PrevAt (Xs M M2) wc u11 prev ∧ PrevAt (Xs M M2) wc u12 prev ∧ Two w1 M M2 len len (Pl.tab R len) (Pl.tab R len) wc) := hcut
          clear hcut A6
          have RC : Hid (RecCells wc rb 0 r mp) := HR.out.kept B0.out.2.2.g
          obtain ⟨d0, d1, d2, d3, d4, _⟩ := RC.out
          go_wp2_with fail
          refine (record_any (Xs M M2) r mp _ RC.out.m B0.out.2.2.free).mono ?_
          rintro e w7 ⟨r7, rfl, _, hr7, g7⟩
          have B7 : Hid (PrevAt (Xs M M2) w7 u11 prev ∧ PrevAt (Xs M M2) w7 u12 prev ∧ Two w1 M M2 len len (Pl.tab R len) (Pl.tab R len) w7 ∧ RecAt (Xs M M2) w7 r7 r) := ⟨B0.out.1.kept g7 (by simp), B0.out.2.1.kept g7 (by simp), B0.out.2.2.grow g7, hr7⟩
          clear g7 hr7 d0 d1 d2 d3 d4 RC B0
          have RC : Hid (RecCells w7 rb 0 r mp) := HR.out.kept B7.out.2.2.1.g
          obtain ⟨d0, d1, d2, d3, d4, _⟩ := RC.out
          go_wp2_with fail
          refine (record_any (Xs M M2) r mp _ RC.out.m B7.out.2.2.1.free).mono ?_
          rintro e w8 ⟨r8, rfl, _, hr8, g8⟩
          have B8 : Hid (PrevAt (Xs M M2) w8 u11 prev ∧ PrevAt (Xs M M2) w8 u12 prev ∧ Two w1 M M2 len len (Pl.tab R len) (Pl.tab R len) w8 ∧ RecAt (Xs M M2) w8 r7 r ∧ RecAt (Xs M M2) w8 r8 r) := ⟨B7.out.1.kept g8 (by simp), B7.out.2.1.kept g8 (by simp), B7.out.2.2.1.grow g8, B7.out.2.2.2.kept g8 (by simp), hr8⟩
          clear g8 hr8 d0 d1 d2 d3 d4 RC B7
          have PO : Hid (∀ k, prev.bind Pl.claim = some k → Ok k) := by
            intro k hk
            cases hpv : prev with
            | none => rw [hpv] at hk; cases hk
            | some p => rw [hpv] at hk; exact (HO.out.2.2 p hpv).2 k hk
          -- once
          go_wp2_with fail
          refine (newRecords_any _ _).mono ?_
          rintro e w9 ⟨rfl, c9, g9⟩
          have B9 : Hid (PrevAt (Xs M M2) w9 u11 prev ∧ PrevAt (Xs M M2) w9 u12 prev ∧ Two w1 M M2 len len (Pl.tab R len) (Pl.tab R len) w9 ∧ RecAt (Xs M M2) w9 r7 r ∧ RecAt (Xs M M2) w9 r8 r ∧ w9.cell? ⟨w8.heap.size, 2, none⟩ = some (.map (some M)) ∧ w8.heap.size ≠ M ∧ w8.heap.size ≠ M2) :=
            ⟨B8.out.1.kept g9 (by simp), B8.out.2.1.kept g9 (by simp), B8.out.2.2.1.grow g9, B8.out.2.2.2.1.kept g9 (by simp), B8.out.2.2.2.2.kept g9 (by simp), c9, by have := B8.out.2.2.1.m1.lt; omega, by have := B8.out.2.2.1.m2.lt; omega⟩
          clear g9 c9 B8
          generalize w8.heap.size = S1 at *
          go_wp2_with fail
          refine (zzmove_any (Xs M M2) S1 M len (Pl.tab R len) u11 prev r7 r w9 B9.out.2.2.2.2.2.1 B9.out.2.2.1.m1 B9.out.1 B9.out.2.2.2.1 (Or.inl rfl) B9.out.2.2.2.2.2.2.1 PO.out HO.out.2.1.2 HO.out.2.1.1 (by unfold maxLen; omega)).mono ?_
          rintro e w10 ⟨rfl, h10, g10⟩
          have B10 : Hid (PrevAt (Xs M M2) w10 u12 prev ∧ Two w1 M M2 (len + 1) len (Pl.move (Pl.tab R len) prev r) (Pl.tab R len) w10 ∧ RecAt (Xs M M2) w10 r8 r) :=
            ⟨B9.out.2.1.kept g10 (fun k e => by cases e; exact Or.inl rfl), B9.out.2.2.1.move1 g10 h10, B9.out.2.2.2.2.1.kept g10 (fun k e => by cases e; exact Or.inl rfl)⟩
          clear g10 h10 B9
          -- twice
          go_wp2_with fail
          refine (newRecords_any _ _).mono ?_
          rintro e w11 ⟨rfl, c11, g11⟩
          have B11 : Hid (PrevAt (Xs M M2) w11 u12 prev ∧ Two w1 M M2 (len + 1) len (Pl.move (Pl.tab R len) prev r) (Pl.tab R len) w11 ∧ RecAt (Xs M M2) w11 r8 r ∧ w11.cell? ⟨w10.heap.size, 2, none⟩ = some (.map (some M2)) ∧ w10.heap.size ≠ M2) :=
            ⟨B10.out.1.kept g11 (by simp), B10.out.2.1.grow g11, B10.out.2.2.kept g11 (by simp), c11, by have := B10.out.2.1.m2.lt; omega⟩
          clear g11 c11 B10
          generalize w10.heap.size = S2 at *
          go_wp2_with fail
          refine (zzmove_any (Xs M M2) S2 M2 len (Pl.tab R len) u12 prev r8 r w11 B11.out.2.2.2.1 B11.out.2.1.m2 B11.out.1 B11.out.2.2.1 (Or.inr rfl) B11.out.2.2.2.2 PO.out HO.out.2.1.2 HO.out.2.1.1 (by unfold maxLen; omega)).mono ?_
          rintro e w12 ⟨rfl, h12, g12⟩
          have B12 : Hid (PrevAt (Xs M M2) w12 u12 prev ∧ Two w1 M M2 (len + 1) (len + 1) (Pl.move (Pl.tab R len) prev r) (Pl.move (Pl.tab R len) prev r) w12 ∧ RecAt (Xs M M2) w12 r8 r ∧ w12.cell? ⟨S2, 2, none⟩ = some (.map (some M2)) ∧ S2 ≠ M2) :=
            ⟨B11.out.1.kept g12 (fun k e => by cases e; exact Or.inr rfl), B11.out.2.1.move2 g12 h12, B11.out.2.2.1.kept g12 (fun k e => by cases e; exact Or.inr rfl), g12.cell B11.out.2.2.2.1 (by simpa using B11.out.2.2.2.2), B11.out.2.2.2.2⟩
          clear g12 h12 B11
          go_wp2_with fail
          refine (zzmove_any (Xs M M2) S2 M2 (len + 1) (Pl.move (Pl.tab R len) prev r) u12 prev r8 r w12 B12.out.2.2.2.1 B12.out.2.1.m2 B12.out.1 B12.out.2.2.1 (Or.inr rfl) B12.out.2.2.2.2 PO.out HO.out.2.1.2 HO.out.2.1.1 (by unfold maxLen; omega)).mono ?_
          rintro e w13 ⟨rfl, h13, g13⟩
          have C0 : Hid (Two w1 M M2 (len + 1) (len + 1 + 1) (Pl.move (Pl.tab R len) prev r) (Pl.move (Pl.move (Pl.tab R len) prev r) prev r) w13) := B12.out.2.1.move2 g13 h13
          clear g13 h13 B12
          go_upto_region 28 with fail
          obtain ⟨T0, hT0⟩ : ∃ T, T = Pl.tab R len := ⟨_, rfl⟩
          obtain ⟨T1, hT1⟩ : ∃ T, T = Pl.move T0 prev r := ⟨_, rfl⟩
          obtain ⟨T2, hT2⟩ : ∃ T, T = Pl.move T1 prev r := ⟨_, rfl⟩
          have TE : Hid (T0 = Pl.tab R len ∧ T1 = Pl.move T0 prev r ∧ T2 = Pl.move T1 prev r) := ⟨hT0, hT1, hT2⟩
          rw [← hT0, ← hT1, ← hT2] at C0
          clear hT0 hT1 hT2
          obtain ⟨ph, hph⟩ : ∃ b, b = (prev.bind Pl.claim).isSome := ⟨_, rfl⟩
          have PH : Hid (ph = (prev.bind Pl.claim).isSome) := hph
          clear hph
          go_cut [16] from 124 to 131 (fun s wc => s = .bool ph ∧ Two w1 M M2 (len + 1) (len + 1 + 1) T1 T2 wc)
          case first =>
            rcases HP.out.kept C0.out.g with ⟨e1, e2⟩ | ⟨pb, po, pr, pm, e1, e2, hrc⟩
            · subst e1
              go_wp2_with fail
              go_meet
              case rel => exact ⟨by rw [PH.out, e2]; rfl, C0.out⟩
            · subst e1
              have QC : Hid (RecCells w13 pb po pr pm ∧ prev = some pr) := ⟨hrc, e2⟩
              obtain ⟨q0, q1, q2, q3, q4, _⟩ := hrc
              clear e2
              go_wp2_with fail
              refine (holds_any pr pm _ QC.out.1.m.some_iff).mono ?_
              rintro e w14 ⟨rfl, g14⟩
              have C1 : Hid (Two w1 M M2 (len + 1) (len + 1 + 1) T1 T2 w14) := C0.out.grow g14
              clear g14
              go_wp2_with fail
              go_meet
              case rel => exact ⟨by rw [PH.out, QC.out.2]; rfl, C1.out⟩
          case rest =>
            obtain ⟨h16, hcc⟩ := hcut
            have C1 : Hid (Two w1 M M2 (len + 1) (len + 1 + 1) T1 T2 wc) := hcc
            rw [h16]
            clear h16 hcc C0
            have RC : Hid (RecCells wc rb 0 r mp) := HR.out.kept C1.out.g
            obtain ⟨d0, d1, d2, d3, d4, _⟩ := RC.out
            go_wp2_with fail
            refine (holds_any r mp _ RC.out.m.some_iff).mono ?_
            rintro e w14 ⟨rfl, g14⟩
            have C2 : Hid (Two w1 M M2 (len + 1) (len + 1 + 1) T1 T2 w14) := C1.out.grow g14
            clear g14 d0 d1 d2 d3 d4 RC C1
            obtain ⟨rh, hrh⟩ : ∃ b, b = Pl.holds r := ⟨_, rfl⟩
            have RH : Hid (rh = Pl.holds r) := hrh
            rw [← hrh]
            clear hrh
            obtain ⟨pk, hpk⟩ : ∃ k : Key, k = (prev.bind Pl.claim).getD (⟨#[]⟩, ⟨#[]⟩) := ⟨_, rfl⟩
            have PK : Hid (pk = (prev.bind Pl.claim).getD (⟨#[]⟩, ⟨#[]⟩)) := hpk
            clear hpk
            obtain ⟨rk, hrk⟩ : ∃ k : Key, k = (Pl.claim r).getD (⟨#[]⟩, ⟨#[]⟩) := ⟨_, rfl⟩
            have RK : Hid (rk = (Pl.claim r).getD (⟨#[]⟩, ⟨#[]⟩)) := hrk
            clear hrk
            go_upto_if 134 with fail
            go_cut [] from 135 to 145 (fun wc => ∃ m, wc = ((w14.alloc (.cells #[.string pk.1, .string pk.2] 38)).alloc (.cells #[.string ⟨#[]⟩, .string ⟨#[]⟩] 38)).drewN m)
            case first =>
              cases ph
              · have hk : pk = (⟨#[]⟩, ⟨#[]⟩) := by
                  rw [PK.out]
                  cases hb : prev.bind Pl.claim with
                  | none => rfl
                  | some k => have := PH.out; rw [hb] at this; cases this
                subst hk
                go_wp2_with fail
                go_meet
                case rel => exact ⟨0, rfl⟩
              · have g14 := C2.out.g
                rcases HP.out.kept g14 with ⟨e1, e2⟩ | ⟨pb, po, pr, pm, e1, e2, hrc⟩
                · have := PH.out; rw [e2] at this; cases this
                · subst e1
                  have hh : Pl.holds pr = true := by have := PH.out; rw [e2] at this; exact this.symm
                  obtain ⟨m, hm1, hcl⟩ := Pl.holds_claim hh
                  have hk : pk = (pr.ten, m) := by rw [PK.out, e2]; simp [hcl]
                  obtain ⟨q0, q1, q2, q3, q4, qm⟩ := hrc
                  obtain ⟨pi, hpi, hci⟩ : ∃ pi, pm = some pi ∧ w14.cell? pi = some (.string m) := by
                    rcases qm with ⟨_, e⟩ | ⟨p, s, e1, e2, e3⟩
                    · rw [hm1] at e; cases e
                    · rw [hm1] at e2; cases e2; exact ⟨p, e1, e3⟩
                  subst hpi
                  subst hk
                  have b1 := World.block_lt_of_cell? _ _ q0
                  have b2 := World.block_lt_of_cell? _ _ hci
                  clear qm hm1 hcl hh e2 g14
                  go_wp2_with fail
                  go_region
                  go_wp2_with fail
                  go_meet
                  case rel => exact ⟨1, rfl⟩
            case rest =>
              obtain ⟨m, hwc⟩ := hcut
              rw [hwc]
              clear hwc
              go_upto_if 146 with fail
              go_cut [] from 147 to 153 (fun wc => w14.grownBy wc none ∧ wc.cell? ⟨w14.heap.size, 0, none⟩ = some (.string pk.1) ∧ wc.cell? ⟨w14.heap.size, 1, none⟩ = some (.string pk.2) ∧ wc.cell? ⟨w14.heap.size + 1, 0, none⟩ = some (.string rk.1) ∧ wc.cell? ⟨w14.heap.size + 1, 1, none⟩ = some (.string rk.2))
              case first =>
                cases rh
                · have hk : rk = (⟨#[]⟩, ⟨#[]⟩) := by
                    rw [RK.out]
                    cases hb : Pl.claim r with
                    | none => rfl
                    | some k => have := RH.out; rw [Pl.holds, hb] at this; cases this
                  subst hk
                  go_wp2_with fail
                  go_meet
                  case rel => exact ⟨grown_drewN ((below_box w14 _).trans (below_box _ _)) m, by simp [go_sem], by simp [go_sem], by simp [go_sem], by simp [go_sem]⟩
                · obtain ⟨ma, hm1, hcl⟩ := Pl.holds_claim RH.out.symm
                  have hk : rk = (r.ten, ma) := by rw [RK.out]; simp [hcl]
                  obtain ⟨q0, q1, q2, q3, q4, qm⟩ := HR.out.kept C2.out.g
                  obtain ⟨pi, hpi, hci⟩ : ∃ pi, mp = some pi ∧ w14.cell? pi = some (.string ma) := by
                    rcases qm with ⟨_, e⟩ | ⟨p, s, e1, e2, e3⟩
                    · rw [hm1] at e; cases e
                    · rw [hm1] at e2; cases e2; exact ⟨p, e1, e3⟩
                  subst hpi
                  subst hk
                  have b1 := World.block_lt_of_cell? _ _ q0
                  have b2 := World.block_lt_of_cell? _ _ hci
                  clear qm hm1 hcl
                  go_wp2_with fail
                  go_region
                  go_wp2_with fail
                  go_meet
                  case rel =>
                    obtain ⟨g, s0, s1, so⟩ := store2 (w0 := w14) (W := ((w14.alloc (.cells #[.string pk.1, .string pk.2] 38)).alloc (.cells #[.string ⟨#[]⟩, .string ⟨#[]⟩] 38)).drewN (m + 1)) (B := w14.heap.size + 1) (.string r.ten) (.string ma)
                      (grown_drewN ((below_box w14 _).trans (below_box _ _)) (m + 1)) (by omega) (x := .string ⟨#[]⟩) (y := .string ⟨#[]⟩) (by simp [go_sem]) (by simp [go_sem])
                    refine ⟨g, (so _ (by simp)).trans (by simp [go_sem]), (so _ (by simp)).trans (by simp [go_sem]), s0, s1⟩
              case rest =>
                obtain ⟨hgw, hp0, hp1, hr0, hr1⟩ := hcut
                have D0 : Hid (Two w1 M M2 (len + 1) (len + 1 + 1) T1 T2 wc ∧ wc.cell? ⟨w14.heap.size, 0, none⟩ = some (.string pk.1) ∧ wc.cell? ⟨w14.heap.size, 1, none⟩ = some (.string pk.2) ∧ wc.cell? ⟨w14.heap.size + 1, 0, none⟩ = some (.string rk.1) ∧ wc.cell? ⟨w14.heap.size + 1, 1, none⟩ = some (.string rk.2)) := by
                  exact ⟨C2.out.grow hgw, hp0, hp1, hr0, hr1⟩
                clear hgw hp0 hp1 hr0 hr1 C2
                generalize wc = wi at *
                generalize w14.heap.size = B at *
                have p0 := D0.out.2.1
                have p1 := D0.out.2.2.1
                have r0 := D0.out.2.2.2.1
                have r1 := D0.out.2.2.2.2
                have heq := run_eql38
                go_upto_region 35 with fail
                obtain ⟨sm, hsm⟩ : ∃ b, b = (ph && rh && decide (pk = rk)) := ⟨_, rfl⟩
                have SM : Hid (sm = (ph && rh && decide (pk = rk))) := hsm
                clear hsm
                go_cut [20] from 154 to 162 (fun s wd => s = .bool sm ∧ wd = wi)
                case first =>
                  cases ph
                  · go_wp2_with fail
                    go_meet
                    case rel => exact ⟨by rw [SM.out]; simp, rfl⟩
                  · cases rh
                    · go_wp2_with fail
                      go_meet
                      case rel => exact ⟨by rw [SM.out]; simp, rfl⟩
                    · go_wp2_with fail
                      go_meet
                      case rel => exact ⟨by rw [SM.out]; obtain ⟨_, _⟩ := pk; obtain ⟨_, _⟩ := rk; simp, rfl⟩
                case rest =>
                  obtain ⟨h20, hwd⟩ := hcut
                  rw [h20, hwd]
                  clear h20 hwd
                  clear p0 p1 r0 r1
                  go_wp2_with fail
                  go_loopg [21, 22] len (fun g c i wr => ∃ k : Nat, k ≤ len ∧ g = len - k ∧ c = .int .i64 (Pl.uniq R len k) ∧ i = .int .i64 k ∧ ∃ m, wr = wi.drewN m)
                  case atStart => exact ⟨0, Nat.zero_le _, rfl, rfl, rfl, 0, rfl⟩
                  case round =>
                    obtain ⟨k, hk, hg, rfl, rfl, m, rfl⟩ := hrel
                    have HG : Hid (gk = len - k) := hg
                    clear hg
                    have hul := Pl.uniq_le R len k
                    by_cases hlt : k < len
                    · obtain ⟨b, off, ea, c0, c1, c2⟩ := (HS.out k hlt).kept D0.out.1.g
                      subst ea
                      go_upto_block 4 with fail
                      go_cut [23, 24] from 171 to 200 (fun s _ wc => s = .bool (Pl.dupB R len k) ∧ ∃ m, wc = wi.drewN m)
                      case first =>
                        go_wp2_with fail
                        go_loopg [23, 24] (len - (k + 1)) (fun g d j wr => ∃ n : Nat, k < n ∧ n ≤ len ∧ g = len - n ∧ d = .bool false ∧ j = .int .i64 n ∧ (∀ x, k < x → x < n → Pl.key (R x) ≠ Pl.key (R k)) ∧ ∃ m, wr = wi.drewN m)
                        case atStart => exact ⟨k + 1, by omega, by omega, rfl, rfl, by go_num, fun x a b => by omega, m, rfl⟩
                        case round =>
                          obtain ⟨n, hkn, hn, hgn, rfl, rfl, hno, m2, rfl⟩ := hrel
                          have NO : Hid ((∀ x, k < x → x < n → Pl.key (R x) ≠ Pl.key (R k)) ∧ gk = len - n) := ⟨hno, hgn⟩
                          clear hno hgn
                          by_cases hnl : n < len
                          · obtain ⟨b', off', eb, n0, n1, n2⟩ := (HS.out n hnl).kept D0.out.1.g
                            cases eb
                            by_cases h1 : (R n).ten = (R k).ten
                            · have hT : ((R n).ten.toList == (R k).ten.toList) = true := by rw [str_beq]; simp [h1]
                              by_cases h2 : (R n).mach = (R k).mach
                              · have hU : ((R n).mach.toList == (R k).mach.toList) = true := by rw [str_beq]; simp [h2]
                                have HE : Hid (Pl.key (R n) = Pl.key (R k)) := by show _ = _; simp [Pl.key, h1, h2]
                                clear h1 h2
                                go_wp2_with fail
                                go_quiet (fail)
                                go_wp2_with fail
                                go_meet
                                case rel => exact ⟨by rw [Pl.dupB_true hkn hnl HE.out], m2 + nq, World.drewN_drewN _ _ _⟩
                              · have hU : ((R n).mach.toList == (R k).mach.toList) = false := by rw [str_beq]; simp [h2]
                                have HE : Hid (Pl.key (R n) ≠ Pl.key (R k)) := fun e => h2 (by simp [Pl.key] at e; exact e.2)
                                clear h1 h2
                                go_wp2_with fail
                                go_quiet (fail)
                                go_wp2_with fail
                                go_roundg (len - (n + 1))
                                case measure => have := NO.out.2; omega
                                case rel =>
                                  refine ⟨n + 1, by omega, by omega, rfl, rfl, by go_num, fun x d e => ?_, m2 + nq, rfl⟩
                                  by_cases hx : x = n
                                  · rw [hx]; exact HE.out
                                  · exact NO.out.1 x d (by omega)
                            · have hT : ((R n).ten.toList == (R k).ten.toList) = false := by rw [str_beq]; simp [h1]
                              have HE : Hid (Pl.key (R n) ≠ Pl.key (R k)) := fun e => h1 (by simp [Pl.key] at e; exact e.1)
                              clear h1
                              go_wp2_with fail
                              go_quiet (fail)
                              go_wp2_with fail
                              go_roundg (len - (n + 1))
                              case measure => have := NO.out.2; omega
                              case rel =>
                                refine ⟨n + 1, by omega, by omega, rfl, rfl, by go_num, fun x d e => ?_, m2 + nq, rfl⟩
                                by_cases hx : x = n
                                · rw [hx]; exact HE.out
                                · exact NO.out.1 x d (by omega)
                          · go_wp2_with fail
                            go_meet
                            case rel => exact ⟨by rw [Pl.dupB_false (fun j a b => NO.out.1 j a (by omega))], m2, rfl⟩
                      case rest =>
                        obtain ⟨h23, m2, hw2⟩ := hcut
                        rw [h23, hw2]
                        clear h23 hw2
                        cases hd : Pl.dupB R len k
                        · have HU : Hid (Pl.uniq R len (k + 1) = Pl.uniq R len k + 1) := by show _ = _; rw [Pl.uniq_succ, hd]; rfl
                          clear hd
                          go_wp2_with fail
                          go_roundg (len - (k + 1))
                          case measure => have := HG.out; omega
                          case rel => exact ⟨k + 1, by omega, rfl, by rw [HU.out]; go_num, by go_num, m2, rfl⟩
                        · have HU : Hid (Pl.uniq R len (k + 1) = Pl.uniq R len k) := by show _ = _; rw [Pl.uniq_succ, hd]; rfl
                          clear hd
                          go_wp2_with fail
                          go_roundg (len - (k + 1))
                          case measure => have := HG.out; omega
                          case rel => exact ⟨k + 1, by omega, rfl, by rw [HU.out], by go_num, m2, rfl⟩
                    · have hkl : k = len := by omega
                      have UQ : Hid (Pl.uniq R len k = T0.length) := by show _ = _; rw [hkl, TE.out.1, Pl.length_tab]
                      have E0 : Hid (Two w1 M M2 (len + 1) (len + 1 + 1) T1 T2 (wi.drewN m) ∧ wi.grownBy (wi.drewN m) none) := ⟨D0.out.1.grow (grown_drewN (grown_refl wi none) m), grown_drewN (grown_refl wi none) m⟩
                      rw [UQ.out]
                      clear hkl hul
                      generalize wi.drewN m = wj at *
                      have WS : Hid (∀ wx : World, wj.grownBy wx none → (∀ i, i < len → RowAt wx a i (R i)) ∧ Two w1 M M2 (len + 1) (len + 1 + 1) T1 T2 wx ∧ RecCells wx rb 0 r mp ∧
                          wx.cell? ⟨B, 0, none⟩ = some (.string pk.1) ∧ wx.cell? ⟨B, 1, none⟩ = some (.string pk.2) ∧ wx.cell? ⟨B + 1, 0, none⟩ = some (.string rk.1) ∧ wx.cell? ⟨B + 1, 1, none⟩ = some (.string rk.2)) := fun wx g =>
                        ⟨fun i hi => (HS.out i hi).kept (E0.out.1.g.trans g), E0.out.1.grow g, HR.out.kept (E0.out.1.g.trans g), (E0.out.2.trans g).cell D0.out.2.1 (by simp), (E0.out.2.trans g).cell D0.out.2.2.1 (by simp), (E0.out.2.trans g).cell D0.out.2.2.2.1 (by simp), (E0.out.2.trans g).cell D0.out.2.2.2.2 (by simp)⟩
                      have LL : Hid (T0.length ≤ len ∧ T1.length + (if Pl.lost T0 prev r then 1 else 0) = T0.length + (if Pl.fresh T0 r then 1 else 0)) := by
                        refine ⟨?_, ?_⟩
                        · rw [TE.out.1]; exact Pl.length_tab_le R len
                        · rw [TE.out.2.1]; exact Pl.length_move_eq (by rw [TE.out.1]; exact Pl.nd_tab R len)
                      have hT0 := LL.out.1
                      have LK : Hid (∀ k, Pl.look R len k = Pl.get T0 k) := fun k => by rw [TE.out.1, Pl.get_tab]
                      go_upto_region 48 with fail
                      go_cut [209] from 205 to 209 (fun s wd => s = .bool (ph && !sm) ∧ wd = wj)
                      case first =>
                        cases ph
                        · go_wp2_with fail
                          go_meet
                          case rel => exact ⟨by simp, rfl⟩
                        · go_wp2_with fail
                          go_meet
                          case rel => exact ⟨by simp, rfl⟩
                      case rest =>
                        obtain ⟨h209, hwd⟩ := hcut
                        rw [h209, hwd]
                        clear h209 hwd
                        go_upto_if 209 with fail
                        go_cut [21, 25, 26, 27, 28] from 209 to 242 (fun c _ _ _ _ wx => c = .int .i64 ((T0.length : Int) - (if Pl.lost T0 prev r then 1 else 0)) ∧ wx = wj)
                        case first =>
                          cases hps : (ph && !sm)
                          · have HLo : Hid (Pl.lost T0 prev r = false) := by
                              show _ = _
                              unfold Pl.lost
                              cases hb : prev.bind Pl.claim with
                              | none => rfl
                              | some kk =>
                                have h1 : ph = true := by rw [PH.out, hb]; rfl
                                have h2 : sm = true := by rw [h1] at hps; simpa using hps
                                rw [SM.out, Bool.and_eq_true, Bool.and_eq_true] at h2
                                have h3 : Pl.holds r = true := by rw [← RH.out]; exact h2.1.2
                                obtain ⟨mm, _, hcl⟩ := Pl.holds_claim h3
                                have h4 : pk = rk := by simpa using h2.2
                                rw [PK.out, RK.out, hb, hcl] at h4
                                simp only [Option.getD_some] at h4
                                simp [hcl, h4]
                            clear hps
                            go_wp2_with fail
                            go_meet
                            case rel => exact ⟨by rw [HLo.out]; simp, rfl⟩
                          · have hph1 : ph = true := by rw [Bool.and_eq_true] at hps; exact hps.1
                            have hsm1 : sm = false := by rw [Bool.and_eq_true] at hps; simpa using hps.2
                            have hb : prev.bind Pl.claim = some pk := by
                              have := PH.out
                              rw [hph1] at this
                              obtain ⟨kk, hkk⟩ := Option.isSome_iff_exists.1 this.symm
                              rw [PK.out, hkk]
                              rfl
                            have hr1 : Pl.claim r ≠ some pk := fun e => by
                              have h3 : rh = true := by rw [RH.out]; exact Pl.holds_of_claim e
                              have h4 : rk = pk := by rw [RK.out, e]; rfl
                              have := SM.out
                              rw [hsm1, hph1, h3, h4] at this
                              simp at this
                            have hlost : Pl.lost T0 prev r = decide (Pl.get T0 pk = some r.id) := by simp [Pl.lost, hb, hr1]
                            have hg1 : Pl.get T1 pk = if Pl.get T0 pk = some r.id then none else Pl.get T0 pk := by rw [TE.out.2.1]; exact Pl.move_prev hb hr1
                            have OKP : Hid (Ok pk) := PO.out pk hb
                            obtain ⟨hrows, htwo, hrc, p0, p1, _, _⟩ := WS.out wj (grown_refl wj none)
                            have d0 := hrc.c0
                            have HRW : Hid (∀ i, i < len → RowAt wj a i (R i)) := hrows
                            have HTW : Hid (Two w1 M M2 (len + 1) (len + 1 + 1) T1 T2 wj) := htwo
                            clear hrows htwo hrc hps hb hr1
                            by_cases hg : Pl.get T0 pk = some r.id
                            · have HK : Hid (Pl.look R len pk = some r.id) := (LK.out pk).trans hg
                              have hl1 := MapIs.look_none HTW.out.m1 OKP.out (by rw [hg1, if_pos hg])
                              have HLo : Hid (Pl.lost T0 prev r = true) := by show _ = _; rw [hlost]; simp [hg]
                              have hpos : 0 < T0.length := by
                                cases hT : T0 with
                                | nil => rw [hT] at hg; cases hg
                                | cons _ _ => simp
                              clear hlost hg1 hg hph1 hsm1
                              go_wp2_with fail
                              refine (rowLookup_some a len cap R pk r.id wj HRW.out (by omega) HK.out).mono ?_
                              rintro e wx ⟨rfl, hwx⟩
                              rw [hwx]
                              clear hwx
                              go_wp2_with fail
                              go_meet
                              case rel => exact ⟨by rw [HLo.out]; simp, rfl⟩
                            · have HLo : Hid (Pl.lost T0 prev r = false) := by show _ = _; rw [hlost]; simp [hg]
                              rw [if_neg hg] at hg1
                              cases hv : Pl.get T0 pk with
                              | none =>
                                have HK : Hid (Pl.look R len pk = none) := (LK.out pk).trans hv
                                have hl1 := MapIs.look_none HTW.out.m1 OKP.out (by rw [hg1, hv])
                                clear hlost hg1 hg hph1 hsm1 hv
                                go_wp2_with fail
                                refine (rowLookup_none a len cap R pk wj HRW.out (by omega) HK.out).mono ?_
                                rintro e wx ⟨rfl, hwx⟩
                                rw [hwx]
                                clear hwx
                                go_wp2_with fail
                                go_meet
                                case rel => exact ⟨by rw [HLo.out]; simp, rfl⟩
                              | some v =>
                                have HK : Hid (Pl.look R len pk = some v) := (LK.out pk).trans hv
                                have hl1 := MapIs.look_some HTW.out.m1 OKP.out (v := v) (by rw [hg1, hv])
                                have hne : (v.toList == r.id.toList) = false := by
                                  rw [str_beq]
                                  have : v ≠ r.id := fun e => hg (by rw [hv, e])
                                  simp [this]
                                clear hlost hg1 hg hph1 hsm1 hv
                                go_wp2_with fail
                                refine (rowLookup_some a len cap R pk v wj HRW.out (by omega) HK.out).mono ?_
                                rintro e wx ⟨rfl, hwx⟩
                                rw [hwx]
                                clear hwx
                                go_wp2_with fail
                                go_meet
                                case rel => exact ⟨by rw [HLo.out]; simp, rfl⟩
                        case rest =>
                          obtain ⟨h21, hwx⟩ := hcut
                          rw [h21, hwx]
                          clear h21 hwx
                          obtain ⟨q, hq⟩ : ∃ q : Int, q = (T0.length : Int) - (if Pl.lost T0 prev r then 1 else 0) := ⟨_, rfl⟩
                          rw [← hq]
                          have hq1 : -1 ≤ q ∧ q ≤ 4096 := by rw [hq]; split <;> omega
                          have QE : Hid (q = (T0.length : Int) - (if Pl.lost T0 prev r then 1 else 0)) := hq
                          clear hq
                          obtain ⟨hq1, hq2⟩ := hq1
                          go_upto_if 243 with fail
                          go_cut [21, 29, 30, 31, 32] from 243 to 270 (fun c _ _ _ _ wx => c = .int .i64 (T1.length : Int) ∧ wx = wj)
                          case first =>
                            cases rh
                            · have HF : Hid (q = (T1.length : Int)) := by
                                show _ = _
                                have h1 : Pl.claim r = none := by
                                  cases hc : Pl.claim r with
                                  | none => rfl
                                  | some k => have := RH.out; rw [Pl.holds, hc] at this; cases this
                                have h2 : Pl.fresh T0 r = false := by simp [Pl.fresh, h1]
                                have h3 := LL.out.2
                                rw [h2] at h3
                                rw [QE.out]
                                cases hlo : Pl.lost T0 prev r <;> rw [hlo] at h3 <;> simp at h3 ⊢ <;> omega
                              go_wp2_with fail
                              go_meet
                              case rel => exact ⟨by rw [HF.out], rfl⟩
                            · obtain ⟨mm, _, hcl0⟩ := Pl.holds_claim RH.out.symm
                              have hcl : Pl.claim r = some rk := by rw [RK.out, hcl0]; rfl
                              have OKR : Hid (Ok rk) := HO.out.2.1.2 rk hcl
                              obtain ⟨hrows, htwo, hrc, _, _, r0, r1⟩ := WS.out wj (grown_refl wj none)
                              have d0 := hrc.c0
                              have HRW : Hid (∀ i, i < len → RowAt wj a i (R i)) := hrows
                              have hl1 := MapIs.look_some htwo.m1 OKR.out (v := r.id) (by rw [TE.out.2.1]; exact Pl.move_hold hcl)
                              clear hrows htwo hrc hcl0
                              have hfr : Pl.fresh T0 r = (Pl.get T0 rk).isNone := by simp [Pl.fresh, hcl]
                              have h3 := LL.out.2
                              rw [hfr] at h3
                              cases hv : Pl.get T0 rk with
                              | none =>
                                have HK : Hid (Pl.look R len rk = none) := (LK.out rk).trans hv
                                have HF : Hid (q + 1 = (T1.length : Int)) := by
                                  show _ = _
                                  rw [hv] at h3
                                  rw [QE.out]
                                  cases hlo : Pl.lost T0 prev r <;> rw [hlo] at h3 <;> simp at h3 ⊢ <;> omega
                                clear hv h3 hfr hcl
                                go_wp2_with fail
                                refine (rowLookup_none a len cap R rk wj HRW.out (by omega) HK.out).mono ?_
                                rintro e wx ⟨rfl, hwx⟩
                                rw [hwx]
                                clear hwx
                                go_wp2_with fail
                                go_meet
                                case rel => exact ⟨by rw [HF.out], rfl⟩
                              | some v =>
                                have HK : Hid (Pl.look R len rk = some v) := (LK.out rk).trans hv
                                have HF : Hid (q = (T1.length : Int)) := by
                                  show _ = _
                                  rw [hv] at h3
                                  rw [QE.out]
                                  cases hlo : Pl.lost T0 prev r <;> rw [hlo] at h3 <;> simp at h3 ⊢ <;> omega
                                clear hv h3 hfr hcl
                                go_wp2_with fail
                                refine (rowLookup_some a len cap R rk v wj HRW.out (by omega) HK.out).mono ?_
                                rintro e wx ⟨rfl, hwx⟩
                                rw [hwx]
                                clear hwx
                                go_wp2_with fail
                                go_meet
                                case rel => exact ⟨by rw [HF.out], rfl⟩
                          case rest =>
                            obtain ⟨h21, hwx⟩ := hcut
                            rw [h21, hwx]
                            clear h21 hwx hq1 hq2 heq
                            go_wp2_with fail
                            go_loopg [33] len (fun g i wx => ∃ k : Nat, k ≤ len ∧ g = len - k ∧ i = .int .i64 k ∧ wj.grownBy wx none)
                            case atStart => exact ⟨0, Nat.zero_le _, rfl, rfl, grown_refl _ _⟩
                            case round =>
                              obtain ⟨k, hk, hg, rfl, hgr⟩ := hrel
                              have GR : Hid (wj.grownBy wr none ∧ gk = len - k) := ⟨hgr, hg⟩
                              clear hgr hg
                              by_cases hlt : k < len
                              · obtain ⟨hrows, _, _, p0, p1, r0, r1⟩ := WS.out wr GR.out.1
                                obtain ⟨b, off, ea, c0, c1, c2⟩ := hrows k hlt
                                clear hrows
                                subst ea
                                have bB := World.block_lt_of_cell? _ _ p0
                                have bB1 := World.block_lt_of_cell? _ _ r0
                                have bb := World.block_lt_of_cell? _ _ c0
                                simp only at bB bB1 bb
                                go_wp2_with fail
                                go_region
                                go_upto_region 68 with fail
                                have W5 : Hid (wj.grownBy (wr.alloc (Obj.cells #[.string (R k).ten, .string (R k).mach] 38)).drew none ∧ (wr.alloc (Obj.cells #[.string (R k).ten, .string (R k).mach] 38)).drew.cell? ⟨wr.heap.size, 0, none⟩ = some (.string (R k).ten) ∧ (wr.alloc (Obj.cells #[.string (R k).ten, .string (R k).mach] 38)).drew.cell? ⟨wr.heap.size, 1, none⟩ = some (.string (R k).mach)) :=
                                  ⟨GR.out.1.trans (grown_drewN (below_box wr _) 1), by simp [go_sem], by simp [go_sem]⟩
                                clear p0 p1 r0 r1 c0 c1 c2 bB bB1 bb
                                generalize (wr.alloc (Obj.cells #[.string (R k).ten, .string (R k).mach] 38)).drew = w5 at *
                                generalize wr.heap.size = KB at *
                                obtain ⟨_, _, _, p0, p1, r0, r1⟩ := WS.out w5 W5.out.1
                                have k0 := W5.out.2.1
                                have k1 := W5.out.2.2
                                obtain ⟨cc, hcc⟩ : ∃ c, c = ((ph && decide (Pl.key (R k) = pk)) || (rh && decide (Pl.key (R k) = rk))) := ⟨_, rfl⟩
                                have CC : Hid (cc = ((ph && decide (Pl.key (R k) = pk)) || (rh && decide (Pl.key (R k) = rk)))) := hcc
                                clear hcc
                                have NC : Hid (cc = false → prev.bind Pl.claim ≠ some (Pl.key (R k)) ∧ Pl.claim r ≠ some (Pl.key (R k))) := by
                                  intro hc
                                  rw [CC.out, Bool.or_eq_false_iff] at hc
                                  refine ⟨fun e => ?_, fun e => ?_⟩
                                  · have h1 : ph = true := by rw [PH.out, e]; rfl
                                    have h2 : pk = Pl.key (R k) := by rw [PK.out, e]; rfl
                                    rw [h1, h2] at hc
                                    simp at hc
                                  · have h1 : rh = true := by rw [RH.out]; exact Pl.holds_of_claim e
                                    have h2 : rk = Pl.key (R k) := by rw [RK.out, e]; rfl
                                    rw [h1, h2] at hc
                                    simp at hc
                                have hq1 := fun w => run_eql38 w (R k).ten (R k).mach pk.1 pk.2
                                have hq2 := fun w => run_eql38 w (R k).ten (R k).mach rk.1 rk.2
                                have E1 : ((R k).ten, (R k).mach) = (pk.1, pk.2) ↔ Pl.key (R k) = pk := Iff.rfl
                                have E2 : ((R k).ten, (R k).mach) = (rk.1, rk.2) ↔ Pl.key (R k) = rk := Iff.rfl
                                have D1 : Hid (decide (((R k).ten, (R k).mach) = (pk.1, pk.2)) = decide (Pl.key (R k) = pk)) := by show _ = _; rw [Bool.eq_iff_iff]; simp only [decide_eq_true_iff]; exact E1
                                have D2 : Hid (decide (((R k).ten, (R k).mach) = (rk.1, rk.2)) = decide (Pl.key (R k) = rk)) := by show _ = _; rw [Bool.eq_iff_iff]; simp only [decide_eq_true_iff]; exact E2
                                rw [D1.out] at hq1
                                rw [D2.out] at hq2
                                clear E1 E2 D1 D2
                                generalize decide (Pl.key (R k) = rk) = x2 at *
                                go_cut [301] from 288 to 301 (fun s wx => s = .bool cc ∧ wx = w5)
                                case first =>
                                  cases ph
                                  · cases rh
                                    · go_wp2_with fail
                                      go_meet
                                      case rel => exact ⟨by rw [CC.out]; simp, rfl⟩
                                    · go_wp2_with fail
                                      go_meet
                                      case rel => exact ⟨by rw [CC.out]; simp, rfl⟩
                                  · generalize decide (Pl.key (R k) = pk) = x1 at *
                                    cases x1
                                    · cases rh
                                      · go_wp2_with fail
                                        go_meet
                                        case rel => exact ⟨by rw [CC.out]; simp, rfl⟩
                                      · go_wp2_with fail
                                        go_meet
                                        case rel => exact ⟨by rw [CC.out]; simp, rfl⟩
                                    · go_wp2_with fail
                                      go_meet
                                      case rel => exact ⟨by rw [CC.out]; simp, rfl⟩
                                case rest =>
                                  obtain ⟨h301, hwx⟩ := hcut
                                  rw [h301, hwx]
                                  clear h301 hwx hq1 hq2 p0 p1 r0 r1
                                  cases cc
                                  · obtain ⟨n1, n2⟩ := NC.out rfl
                                    obtain ⟨v, hv⟩ := Option.isSome_iff_exists.1 (Pl.look_there (R := R) hlt)
                                    have hl1 : (Instr.lookup 28 (.map (some M)) (.agg #[.string (R k).ten, .string (R k).mach]) true).run Try.prog w5 = .ok (.tuple #[.string v, .bool true]) w5 :=
                                      MapIs.look_some (WS.out w5 W5.out.1).2.1.m1 (k := ((R k).ten, (R k).mach)) (HO.out.1 k hlt).1 (v := v) (by
                                        rw [TE.out.2.1]
                                        refine (Pl.move_other n1 n2).trans ?_
                                        rw [← LK.out]
                                        exact hv)
                                    have HV : Hid (Pl.look R len (Pl.key (R k)) = some v) := hv
                                    clear hv n1 n2
                                    go_wp2_with fail
                                    refine (rowLookup_some (some ⟨b, off, none⟩) len cap R ((R k).ten, (R k).mach) v w5 (WS.out w5 W5.out.1).1 (by omega) HV.out).mono ?_
                                    rintro e wx ⟨rfl, hwx⟩
                                    rw [hwx]
                                    clear hwx
                                    go_wp2_with fail
                                    go_roundg (len - (k + 1))
                                    case measure => have := GR.out.2; omega
                                    case rel => exact ⟨k + 1, by omega, rfl, by go_num, W5.out.1⟩
                                  · go_wp2_with fail
                                    go_roundg (len - (k + 1))
                                    case measure => have := GR.out.2; omega
                                    case rel => exact ⟨k + 1, by omega, rfl, by go_num, W5.out.1⟩
                              · have hlen1 : ∀ ty, (Builtin.len_ #[28] ty #[.map (some M)]).run Try.prog wr = .ok (.int .i64 (T1.length : Int)) wr := fun ty => (WS.out wr GR.out.1).2.1.m1.len ty
                                have hlen2 : ∀ ty, (Builtin.len_ #[28] ty #[.map (some M2)]).run Try.prog wr = .ok (.int .i64 (T2.length : Int)) wr := fun ty => (WS.out wr GR.out.1).2.1.m2.len ty
                                have hLT : T2.length = T1.length := by rw [TE.out.2.2, TE.out.2.1]; exact Pl.length_twice (by rw [TE.out.1]; exact Pl.nd_tab R len)
                                rw [hLT] at hlen2
                                have SG : Hid (∀ k, Pl.get T1 k = Pl.get T2 k) := fun k => by rw [TE.out.2.2, TE.out.2.1]; exact (Pl.move_twice k).symm
                                have GA : Hid (wj.grownBy wr none) := GR.out.1
                                clear hLT GR
                                go_wp2_with fail
                                clear hlen1 hlen2
                                go_loopg [39] len (fun g i wx => ∃ k : Nat, k ≤ len ∧ g = len - k ∧ i = .int .i64 k ∧ wj.grownBy wx none)
                                case atStart => exact ⟨0, Nat.zero_le _, rfl, rfl, GA.out⟩
                                case round =>
                                  obtain ⟨k, hk, hg, rfl, hgr⟩ := hrel
                                  have GR : Hid (wj.grownBy wr none ∧ gk = len - k) := ⟨hgr, hg⟩
                                  clear hgr hg
                                  by_cases hlt : k < len
                                  · obtain ⟨b, off, ea, _⟩ := (WS.out wr GR.out.1).1 k hlt
                                    subst ea
                                    have hne : Nonempty (Ext wr) := ⟨⟨wr, grown_refl wr none⟩⟩
                                    have RX : Hid (∀ x : Ext wr, RowAt x.val (some ⟨b, off, none⟩) k (R k)) := fun x => (WS.out x.val (GR.out.1.trans x.grown)).1 k hlt
                                    have c0 : ∀ x : Ext wr, x.val.cell? ⟨b, off + k * 3, none⟩ = some (.string (R k).ten) := fun x => by
                                      obtain ⟨b', off', eb, c0, c1, c2⟩ := RX.out x
                                      cases eb
                                      exact c0
                                    have c1 : ∀ x : Ext wr, x.val.cell? ⟨b, off + k * 3 + 1, none⟩ = some (.string (R k).mach) := fun x => by
                                      obtain ⟨b', off', eb, c0, c1, c2⟩ := RX.out x
                                      cases eb
                                      exact c1
                                    have SE : Hid (∀ x : Ext wr, Calls Try.prog 15 #[.map (some M), .map (some M2), .agg #[.string (R k).ten, .string (R k).mach]] x.val fun e w' => e = .returned (.bool true) ∧ x.val.grownBy w' none) := fun x =>
                                      sameEntry_any M M2 _ _ T1 T2 ((R k).ten, (R k).mach) x.val (WS.out x.val (GR.out.1.trans x.grown)).2.1.m1 (WS.out x.val (GR.out.1.trans x.grown)).2.1.m2 (HO.out.1 k hlt).1 (SG.out _)
                                    go_wp2_with fail
                                    refine wp_region_ext (by kernel_rfl) (by kernel_rfl) ?_
                                    repeat (go_big_quiet_step ((go_at_call 15; exact ext_of (SE.out _))))
                                    refine wpQuiet_nil ?_
                                    intro w6 hw6
                                    obtain ⟨x6, hx6⟩ := hw6
                                    have G6 : Hid (wj.grownBy w6 none) := by rw [hx6]; exact GR.out.1.trans x6.grown
                                    clear hx6 c0 c1
                                    go_wp2_with fail
                                    go_roundg (len - (k + 1))
                                    case measure => have := GR.out.2; omega
                                    case rel => exact ⟨k + 1, by omega, rfl, by go_num, G6.out⟩
                                  · have GB : Hid (wj.grownBy wr none) := GR.out.1
                                    clear GR
                                    go_upto_region 82 with fail
                                    go_cut [361] from 354 to 361 (fun s wx => s = .bool false ∧ wj.grownBy wx none)
                                    case first =>
                                      cases ph
                                      · go_wp2_with fail
                                        go_meet
                                        case rel => exact ⟨rfl, GB.out⟩
                                      · have hb : prev.bind Pl.claim = some pk := by
                                          obtain ⟨kk, hkk⟩ := Option.isSome_iff_exists.1 PH.out.symm
                                          rw [PK.out, hkk]
                                          rfl
                                        have OKP : Hid (Ok pk) := PO.out pk hb
                                        obtain ⟨_, htwo, _, p0, p1, _, _⟩ := WS.out wr GB.out
                                        have HTW : Hid (Two w1 M M2 (len + 1) (len + 1 + 1) T1 T2 wr) := htwo
                                        clear htwo hb
                                        go_wp2_with fail
                                        refine (sameEntry_any M M2 _ _ T1 T2 pk _ HTW.out.m1 HTW.out.m2 OKP.out (SG.out _)).mono ?_
                                        rintro e w7 ⟨rfl, g7⟩
                                        have G7 : Hid (wj.grownBy w7 none) := GB.out.trans g7
                                        clear g7
                                        go_wp2_with fail
                                        go_meet
                                        case rel => exact ⟨rfl, G7.out⟩
                                    case rest =>
                                      obtain ⟨h361, hgx⟩ := hcut
                                      have GC : Hid (wj.grownBy wc none) := hgx
                                      rw [h361]
                                      clear h361 hgx
                                      generalize wc = wq at *
                                      go_upto_region 84 with fail
                                      go_cut [369] from 362 to 369 (fun s wx => s = .bool false ∧ wj.grownBy wx none)
                                      case first =>
                                        cases rh
                                        · go_wp2_with fail
                                          go_meet
                                          case rel => exact ⟨rfl, GC.out⟩
                                        · obtain ⟨mm, _, hcl0⟩ := Pl.holds_claim RH.out.symm
                                          have hcl : Pl.claim r = some rk := by rw [RK.out, hcl0]; rfl
                                          have OKR : Hid (Ok rk) := HO.out.2.1.2 rk hcl
                                          obtain ⟨_, htwo, _, _, _, r0, r1⟩ := WS.out wq GC.out
                                          have HTW : Hid (Two w1 M M2 (len + 1) (len + 1 + 1) T1 T2 wq) := htwo
                                          clear htwo hcl hcl0
                                          go_wp2_with fail
                                          refine (sameEntry_any M M2 _ _ T1 T2 rk _ HTW.out.m1 HTW.out.m2 OKR.out (SG.out _)).mono ?_
                                          rintro e w7 ⟨rfl, g7⟩
                                          have G7 : Hid (wj.grownBy w7 none) := GC.out.trans g7
                                          clear g7
                                          go_wp2_with fail
                                          go_meet
                                          case rel => exact ⟨rfl, G7.out⟩
                                      case rest =>
                                        obtain ⟨h369, hgx⟩ := hcut
                                        have GD : Hid (w.grownBy wc none) := HW.out.trans (E0.out.1.g.trans hgx)
                                        rw [h369]
                                        clear h369 hgx
                                        go_wp2
                                        go_ret
                                        exact ⟨rfl, GD.out⟩
end Go.Proofs.Qxb6615505a
