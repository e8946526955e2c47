/-
  THE WALK of FnMoveClaimScriptLastTaker.
-/
import Derived.Test.Qxb6615505aMid
import Derived.Test.Qxb6615505aExt
import Derived.Test.Qxb6615505aRead
import Derived.WalkKit
import Derived.WalkSpells
import Derived.WalkLawsBesides
import Derived.Deep.LoopGhost
import Derived.Deep.QuietTactic
import Derived.BigQuiet
import Derived.BigRegion
import Derived.RegionTactic
import Derived.Deep.CutBlock
import Derived.Deep.DeepCutAuto
import Derived.Deep.OwnRows
namespace Go.Proofs.Qxb6615505a
open Go.RowKit
open Pl (CRec Key Tab)

theorem info32 : (Try.prog.info? 32).map (fun i => (i.zero, i.size, i.bytes)) = some (some (.pointer none), 1, 8) := by kernel_rfl

theorem prev_ok {S : Nat → CRec} {n k : Nat} {x : ByteArray} (h : ∀ i, i < n → RecOk (S i)) (hk : k ≤ n) : ∀ c, ((Pl.prevOf S k x).map S).bind Pl.claim = some c → Ok c := by
  intro c hc
  cases hp : Pl.prevOf S k x with
  | none => rw [hp] at hc; simp at hc
  | some i =>
    rw [hp] at hc
    have := (Pl.prevOf_spec hp).1
    exact (h i (by omega)).2 c (by simpa using hc)

theorem ext_mach {w : World} {r : CRec} {mp : Option Addr} (h : Pl.holds r = true) (hm : ∀ x : Ext w, MachIs x.val mp r.mach) :
    ∃ m p, mp = some p ∧ r.mach = some m ∧ ∀ x : Ext w, x.val.cell? p = some (.string m) := by
  obtain ⟨m, h1, _⟩ := Pl.holds_claim h
  rcases hm ⟨w, grown_refl w none⟩ with ⟨_, e⟩ | ⟨p, s, e1, e2, _⟩
  · rw [h1] at e; cases e
  · refine ⟨m, p, e1, h1, fun x => ?_⟩
    rcases hm x with ⟨_, e⟩ | ⟨p', s', e1', e2', hc⟩
    · rw [h1] at e; cases e
    · rw [e1] at e1'
      rw [h1] at e2'
      cases e1'
      cases e2'
      exact hc

theorem holds_is (r : CRec) (mp : Option Addr) (w : World) (hm : mp.isSome = r.mach.isSome) {v : Bool} (hv : Pl.holds r = v) :
    Calls Try.prog 10 #[.agg #[.string r.id, .string r.ten, .pointer mp, .bool r.excl, .string r.st]] w fun e w' => e = .returned (.bool v) ∧ w.grownBy w' none := hv ▸ holds_any r mp w hm
theorem same_is (a b : CRec) (p q : Addr) (m n : ByteArray) (w : World) (hp : w.cell? p = some (.string m)) (hq : w.cell? q = some (.string n)) {v : Bool} (hv : (decide (a.ten = b.ten) && decide (m = n)) = v) :
    Calls Try.prog 11 #[.agg #[.string a.id, .string a.ten, .pointer (some p), .bool a.excl, .string a.st], .agg #[.string b.id, .string b.ten, .pointer (some q), .bool b.excl, .string b.st]] w
      fun e w' => e = .returned (.bool v) ∧ w.grownBy w' none := hv ▸ same_any a b p q m n w hp hq

set_option maxRecDepth 100000 in
set_option maxHeartbeats 2000000 in
theorem script_any (b off len cap : Nat) (S : Nat → CRec) (MP : Nat → Option Addr) (w : World) (hs : ∀ i, i < len → StepAt w b off i (S i) (MP i)) (hl : len ≤ maxLen) (hok : ∀ i, i < len → RecOk (S i)) :
    Calls Try.prog 3 #[.slice (some ⟨b, off, none⟩) len cap] w fun e w' => e = .returned (.bool true) ∧ w.grownBy w' none := by
  have HS : Hid (∀ i, i < len → StepAt w b off i (S i) (MP i)) := hs
  have HL : Hid (len ≤ maxLen) := hl
  have HO : Hid (∀ i, i < len → RecOk (S i)) := hok
  clear hs hl hok
  have hmm := @run_makeMap Try.prog
  by_cases hbig : (len : Int) > 4096
  · go_enter Try.func3, Try.ntmps3
    go_wp2_with fail
    refine (bytes_any b off len cap S MP w HS.out HL.out).mono ?_
    rintro e w0 ⟨⟨fits, rfl⟩, rfl⟩
    cases fits
    · go_wp2
      go_ret
      exact ⟨rfl, grown_refl _ _⟩
    · go_wp2
      go_ret
      exact ⟨rfl, grown_refl _ _⟩
  have hmk := run_make_row' (P := Try.prog) 31 32 (.pointer none) 8 Try.underlying31 info32 rfl .i64 .i64 len (by omega) (by omega)
  go_enter Try.func3, Try.ntmps3
  go_wp2_with fail
  refine (bytes_any b off len cap S MP w HS.out HL.out).mono ?_
  rintro e w0 ⟨⟨fits, rfl⟩, rfl⟩
  cases fits
  · go_wp2
    go_ret
    exact ⟨rfl, grown_refl _ _⟩
  go_wp2_with fail
  go_loopg [3, 4] len (fun g t i wr => ∃ (k : Nat) (z : Int), k ≤ len ∧ g = len - k ∧ i = .int .i64 k ∧ t = .int .i64 z ∧ w0.grownBy wr none)
  case atStart => exact ⟨0, _, Nat.zero_le _, rfl, rfl, rfl, grown_refl _ _⟩
  case round =>
    obtain ⟨k, z, hk, hg, rfl, rfl, hgr⟩ := hrel
    have GR : Hid (w0.grownBy wr none ∧ gk = len - k) := ⟨hgr, hg⟩
    clear hgr hg
    by_cases hlt : k < len
    · obtain ⟨c0, c1, c2, c3, c4, hm⟩ := (HS.out k hlt).kept GR.out.1
      have HM : Hid (MachIs wr (MP k) (S k).mach) := hm
      clear hm
      go_wp2_with fail
      refine (recBytes_any (S k) (MP k) _ HM.out).mono ?_
      rintro e w1 ⟨⟨z1, rfl⟩, g1⟩
      have G1 : Hid (w0.grownBy w1 none) := GR.out.1.trans g1
      clear g1
      go_wp2_with fail
      · go_ret
        exact ⟨rfl, G1.out⟩
      · go_roundg (len - (k + 1))
        case measure => have := GR.out.2; omega
        case rel => exact ⟨k + 1, _, by omega, rfl, by go_num, rfl, G1.out⟩
    · go_wp2_with fail
      refine (newRecords_any _ _).mono ?_
      rintro e w1 ⟨rfl, c1, g1⟩
      have A1 : Hid (Mid w0 wr.heap.size (wr.heap.size + 1) w1.heap.size len S 0 (Pl.script S 0) 0 (w1.alloc (Obj.cells (madeCells #[Value.pointer none] len) 32))) := by
        have h1 := g1.size
        simp only [World.size_alloc] at h1 c1
        have h2 := GR.out.1.size
        have h3 := World.block_lt_of_cell? w1 _ c1
        simp only at h3
        have g2 := below_box w1 (Obj.cells (madeCells #[Value.pointer none] len) 32)
        exact ⟨((GR.out.1.trans (below_box wr _)).trans g1).trans g2, g2.cell c1 (by simp), ((mapIs_made wr).kept g1 (by simp)).kept g2 (by simp), ⟨_, World.rowIs_made w1 (.pointer none) len 32, fun j hj => by omega⟩, h2, by omega, by omega, by omega, by omega⟩
      clear g1 c1
      go_wp2_with fail
      generalize wr.heap.size = M at *
      generalize w1.heap.size = R at *
      go_loopg [8] len (fun g i wr => ∃ k : Nat, k ≤ len ∧ g = len - k ∧ i = .int .i64 k ∧ Mid w0 M (M + 1) R len S k (Pl.script S k) k wr)
      case atStart => exact ⟨0, Nat.zero_le _, rfl, rfl, A1.out⟩
      case round =>
        clear A1
        obtain ⟨k, hk, hg, rfl, hmid⟩ := hrel
        have MD : Hid (Mid w0 M (M + 1) R len S k (Pl.script S k) k wr ∧ gk = len - k) := ⟨hmid, hg⟩
        clear hmid hg
        by_cases hlt : k < len
        · obtain ⟨c0, c1, c2, c3, c4, hm⟩ := (HS.out k hlt).kept MD.out.1.g
          have HM : Hid (MachIs wr (MP k) (S k).mach) := hm
          clear hm
          go_wp2_with fail
          refine (record_any (Xs M R) (S k) (MP k) _ HM.out MD.out.1.lt).mono ?_
          rintro e w2 ⟨rb, rfl, hrb, hrec, g2⟩
          have M2 : Hid (Mid w0 M (M + 1) R len S k (Pl.script S k) k w2 ∧ RecAt (Xs M R) w2 rb (S k)) := ⟨MD.out.1.grow g2, hrec⟩
          clear g2 hrec hrb
          obtain ⟨v, hv, hz⟩ := M2.out.1.free hlt
          go_upto_block 4 with fail
          have M3 : Hid (Mid w0 M (M + 1) R len S (k + 1) (Pl.script S k) k (w2.setCell ⟨R, k, none⟩ (.pointer (some ⟨rb, 0, none⟩)))) := M2.out.1.push M2.out.2
          clear M2 hv hz c1 c2 c3 c4 c0 HM
          generalize w2.setCell ⟨R, k, none⟩ (.pointer (some ⟨rb, 0, none⟩)) = w3 at *
          go_cut [9, 10] (fun s _ wc => (∃ m, wc = w3.drewN m) ∧ PrevAt (Xs M R) w3 s ((Pl.prevOf S k (S k).id).map S))
          case first =>
            go_wp2_with fail
            go_loopg [9, 10] k (fun g p j wr => ∃ n : Nat, n ≤ k ∧ g = n ∧ p = .pointer none ∧ j = .int .i64 ((n : Int) - 1) ∧ (∀ x, n ≤ x → x < k → (S x).id ≠ (S k).id) ∧ ∃ m, wr = w3.drewN m)
            case atStart => exact ⟨k, Nat.le_refl _, rfl, rfl, rfl, fun x a b => by omega, 0, rfl⟩
            case round =>
              obtain ⟨n, hn, hgn, rfl, rfl, hno, m, rfl⟩ := hrel
              have NO : Hid ((∀ x, n ≤ x → x < k → (S x).id ≠ (S k).id) ∧ gk = n) := ⟨hno, hgn⟩
              clear hno hgn
              by_cases hz : n = 0
              · subst hz
                go_wp2_with fail
                go_meet
                case rel =>
                  refine ⟨⟨m, rfl⟩, Or.inl ⟨rfl, ?_⟩⟩
                  have : Pl.prevOf S k (S k).id = none := Pl.prevOf_none (fun x hx => NO.out.1 x (Nat.zero_le _) hx)
                  rw [this]
                  rfl
              · obtain ⟨q, rfl⟩ : ∃ q, n = q + 1 := ⟨n - 1, by omega⟩
                have e1 : (((q + 1 : Nat) : Int) - 1) = (q : Int) := by omega
                rw [e1]
                have cq := ((HS.out q (by omega)).kept M3.out.g).c0
                have ck := ((HS.out k hlt).kept M3.out.g).c0
                obtain ⟨rq, hcq, hrq⟩ := M3.out.recOf (j := q) (by omega) (by omega)
                have RQ : Hid (RecAt (Xs M R) w3 rq (S q)) := hrq
                clear hrq
                by_cases hid : (S q).id = (S k).id
                · have hT : ((S q).id.toList == (S k).id.toList) = true := by rw [str_beq]; simp [hid]
                  have HI : Hid ((S q).id = (S k).id) := hid
                  clear hid
                  go_wp2_with fail
                  go_quiet (fail)
                  go_wp2_with fail
                  go_meet
                  case rel =>
                    refine ⟨⟨m + nq, rfl⟩, Or.inr ⟨rq, S q, rfl, ?_, RQ.out⟩⟩
                    rw [Pl.prevOf_some (i := q) (by omega) HI.out (fun j a b => NO.out.1 j (by omega) b)]
                    rfl
                · have hT : ((S q).id.toList == (S k).id.toList) = false := by rw [str_beq]; simp [hid]
                  have HI : Hid ((S q).id ≠ (S k).id) := hid
                  clear hid
                  go_wp2_with fail
                  go_quiet (fail)
                  go_wp2_with fail
                  go_roundg q
                  case measure => have := NO.out.2; omega
                  case rel =>
                    refine ⟨q, by omega, rfl, rfl, by go_num, fun x a b => ?_, m + nq, rfl⟩
                    by_cases e : x = q
                    · rw [e]; exact HI.out
                    · exact NO.out.1 x (by omega) b
          case rest =>
            obtain ⟨⟨m, hwc⟩, hprev⟩ := hcut
            have M4 : Hid (Mid w0 M (M + 1) R len S (k + 1) (Pl.script S k) k wc ∧ PrevAt (Xs M R) wc u9 ((Pl.prevOf S k (S k).id).map S)) := by
              rw [hwc]
              have g := grown_drewN (grown_refl w3 none) m
              exact ⟨M3.out.grow g, hprev.kept g (by simp)⟩
            clear hwc hprev M3
            obtain ⟨rk, hck, hrk⟩ := M4.out.1.recOf (j := k) (by omega) (by omega)
            have RK : Hid (RecAt (Xs M R) wc rk (S k)) := hrk
            clear hrk
            go_wp2_with fail
            refine (zzmove_any (Xs M R) (M + 1) M k (Pl.script S k) u9 _ rk (S k) wc M4.out.1.cS M4.out.1.m M4.out.2 RK.out (Or.inl rfl) (by omega) (prev_ok HO.out (by omega)) (HO.out k hlt).2 (HO.out k hlt).1 (by unfold maxLen; omega)).mono ?_
            rintro e w5 ⟨rfl, h5, g5⟩
            have M5 : Hid (Mid w0 M (M + 1) R len S (k + 1) (Pl.script S (k + 1)) (k + 1) w5) := M4.out.1.moved g5 h5
            clear h5 g5
            go_wp2_with fail
            go_roundg (len - (k + 1))
            case measure => have := MD.out.2; omega
            case rel => exact ⟨k + 1, by omega, rfl, by go_num, M5.out⟩
        · have hkl : k = len := by omega
          have M6 : Hid (Mid w0 M (M + 1) R len S len (Pl.script S len) len wr) := by have := MD.out.1; rw [hkl] at this; exact this
          clear hkl MD
          go_wp2_with fail
          generalize wr = wm at *
          go_loopg [11, 12] len (fun g c i wr => ∃ k : Nat, k ≤ len ∧ g = len - k ∧ c = .int .i64 (Pl.want S len k) ∧ i = .int .i64 k ∧ wm.grownBy wr none)
          case atStart => exact ⟨0, Nat.zero_le _, rfl, rfl, rfl, grown_refl _ _⟩
          case round =>
            obtain ⟨i, hi, hg, rfl, rfl, hgr⟩ := hrel
            have GR4 : Hid (Mid w0 M (M + 1) R len S len (Pl.script S len) len wr ∧ wm.grownBy wr none ∧ gk = len - i) := ⟨M6.out.grow hgr, hgr, hg⟩
            clear hgr hg
            have hwl := Pl.want_le S len i
            by_cases hlt : i < len
            · obtain ⟨c0, c1, c2, c3, c4, hm⟩ := (HS.out i hlt).kept GR4.out.1.g
              have HM : Hid (MachIs wr (MP i) (S i).mach) := hm
              clear hm
              go_wp2_with fail
              refine (holds_any (S i) (MP i) _ HM.out.some_iff).mono ?_
              rintro e w1 ⟨rfl, g1⟩
              have G1 : Hid (wm.grownBy w1 none) := GR4.out.2.1.trans g1
              clear g1 c0 c1 c2 c3 c4
              cases hh : Pl.holds (S i)
              · have HH : Hid (Pl.want S len (i + 1) = Pl.want S len i) := by show _ = _; rw [Pl.want_succ]; simp [Pl.gB, hh]
                clear hh
                go_wp2_with fail
                go_roundg (len - (i + 1))
                case measure => have := GR4.out.2.2; omega
                case rel => exact ⟨i + 1, by omega, rfl, by rw [HH.out], by go_num, G1.out⟩
              · have HH : Hid (Pl.holds (S i) = true) := hh
                clear hh
                go_upto_block 8 with fail
                go_cut [13, 14] (fun l _ wc => l = .bool (Pl.lastB S i len) ∧ wm.grownBy wc none)
                case first =>
                  go_wp2_with fail
                  go_loopg [13, 14] (len - (i + 1)) (fun g l j wr => ∃ n : Nat, i < n ∧ n ≤ len ∧ g = len - n ∧ l = .bool true ∧ j = .int .i64 n ∧ (∀ x, i < x → x < n → ¬ (Pl.holds (S x) = true ∧ Pl.sameB (S i) (S x) = true)) ∧ wm.grownBy wr none)
                  case atStart => exact ⟨i + 1, by omega, by omega, rfl, rfl, by go_num, fun x a b => by omega, G1.out⟩
                  case round =>
                    obtain ⟨n, hin, hn, hgn, rfl, rfl, hno, hgr⟩ := hrel
                    have NO : Hid ((∀ x, i < x → x < n → ¬ (Pl.holds (S x) = true ∧ Pl.sameB (S i) (S x) = true)) ∧ gk = len - n ∧ wm.grownBy wr none) := ⟨hno, hgn, hgr⟩
                    clear hno hgn hgr
                    by_cases hnl : n < len
                    · have SI : Hid (∀ x : Ext wr, StepAt x.val b off i (S i) (MP i)) := fun x => (HS.out i hlt).kept ((M6.out.g.trans NO.out.2.2).trans x.grown)
                      have SN : Hid (∀ x : Ext wr, StepAt x.val b off n (S n) (MP n)) := fun x => (HS.out n hnl).kept ((M6.out.g.trans NO.out.2.2).trans x.grown)
                      have hne : Nonempty (Ext wr) := ⟨⟨wr, grown_refl wr none⟩⟩
                      have n0 := fun x => (SN.out x).c0
                      have n1 := fun x => (SN.out x).c1
                      have n2 := fun x => (SN.out x).c2
                      have n3 := fun x => (SN.out x).c3
                      have n4 := fun x => (SN.out x).c4
                      have HM0 : Hid ((MP n).isSome = (S n).mach.isSome) := (SN.out ⟨wr, grown_refl wr none⟩).m.some_iff
                      cases hh : Pl.holds (S n)
                      · have HN : Hid (Pl.holds (S n) = false) := hh
                        clear hh
                        go_wp2_with fail
                        refine wp_region_ext (by kernel_rfl) (by kernel_rfl) ?_
                        repeat (go_big_quiet_step ((go_at_call 10; exact ext_of (holds_is (S n) (MP n) _ HM0.out HN.out))))
                        refine wpQuiet_nil ?_
                        intro w2 hw2
                        obtain ⟨x2, hx2⟩ := hw2
                        have G2 : Hid (wm.grownBy w2 none) := by rw [hx2]; exact NO.out.2.2.trans x2.grown
                        clear hx2
                        go_wp2_with fail
                        go_roundg (len - (n + 1))
                        case measure => have := NO.out.2.1; omega
                        case rel =>
                          refine ⟨n + 1, by omega, by omega, rfl, rfl, by go_num, fun x a b => ?_, G2.out⟩
                          by_cases e : x = n
                          · rw [e, HN.out]; simp
                          · exact NO.out.1 x a (by omega)
                      · have HN : Hid (Pl.holds (S n) = true) := hh
                        clear hh
                        have i0 := fun x => (SI.out x).c0
                        have i1 := fun x => (SI.out x).c1
                        have i2 := fun x => (SI.out x).c2
                        have i3 := fun x => (SI.out x).c3
                        have i4 := fun x => (SI.out x).c4
                        obtain ⟨mi, pi, hpi, hmi, hci⟩ : ∃ mi pi, MP i = some pi ∧ (S i).mach = some mi ∧ ∀ x : Ext wr, x.val.cell? pi = some (.string mi) := ext_mach HH.out (fun x => (SI.out x).m)
                        obtain ⟨mn, pn, hpn, hmn, hcn⟩ : ∃ mi pi, MP n = some pi ∧ (S n).mach = some mi ∧ ∀ x : Ext wr, x.val.cell? pi = some (.string mi) := ext_mach HN.out (fun x => (SN.out x).m)
                        have HV : Hid ((decide ((S i).ten = (S n).ten) && decide (mi = mn)) = Pl.sameB (S i) (S n)) := by show _ = _; rw [Pl.sameB, hmi, hmn]; simp
                        have HC : Hid ((∀ x : Ext wr, x.val.cell? pi = some (.string mi)) ∧ (∀ x : Ext wr, x.val.cell? pn = some (.string mn))) := ⟨hci, hcn⟩
                        have HMN : Hid ((MP n).isSome = (S n).mach.isSome) := by show _ = _; rw [hpn, hmn]; rfl
                        rw [hpi] at i2
                        rw [hpn] at n2 HMN
                        clear hci hcn hmi hmn hpi hpn
                        cases hv : Pl.sameB (S i) (S n)
                        · have HS1 : Hid (Pl.sameB (S i) (S n) = false) := hv
                          clear hv
                          go_wp2_with fail
                          refine wp_region_ext (by kernel_rfl) (by kernel_rfl) ?_
                          repeat (go_big_quiet_step (first
                            | (go_at_call 10; exact ext_of (holds_is (S n) (some pn) _ HMN.out HN.out))
                            | (go_at_call 11; exact ext_of (same_is (S i) (S n) pi pn mi mn _ (HC.out.1 _) (HC.out.2 _) (HV.out.trans HS1.out)))))
                          refine wpQuiet_nil ?_
                          intro w2 hw2
                          obtain ⟨x2, hx2⟩ := hw2
                          have G2 : Hid (wm.grownBy w2 none) := by rw [hx2]; exact NO.out.2.2.trans x2.grown
                          clear hx2
                          go_wp2_with fail
                          go_roundg (len - (n + 1))
                          case measure => have := NO.out.2.1; omega
                          case rel =>
                            refine ⟨n + 1, by omega, by omega, rfl, rfl, by go_num, fun x a b => ?_, G2.out⟩
                            by_cases e : x = n
                            · rw [e, HS1.out]; simp
                            · exact NO.out.1 x a (by omega)
                        · have HS1 : Hid (Pl.sameB (S i) (S n) = true) := hv
                          clear hv
                          go_wp2_with fail
                          refine wp_region_ext (by kernel_rfl) (by kernel_rfl) ?_
                          repeat (go_big_quiet_step (first
                            | (go_at_call 10; exact ext_of (holds_is (S n) (some pn) _ HMN.out HN.out))
                            | (go_at_call 11; exact ext_of (same_is (S i) (S n) pi pn mi mn _ (HC.out.1 _) (HC.out.2 _) (HV.out.trans HS1.out)))))
                          refine wpQuiet_nil ?_
                          intro w2 hw2
                          obtain ⟨x2, hx2⟩ := hw2
                          have G2 : Hid (wm.grownBy w2 none) := by rw [hx2]; exact NO.out.2.2.trans x2.grown
                          clear hx2
                          go_wp2_with fail
                          go_meet
                          case rel => exact ⟨by rw [Pl.lastB_false hin hnl HN.out HS1.out], G2.out⟩
                    · go_wp2_with fail
                      go_meet
                      case rel => exact ⟨by rw [Pl.lastB_true.2 (fun j a b => NO.out.1 j a (by omega))], NO.out.2.2⟩
                case rest =>
                  obtain ⟨h13, hgc⟩ := hcut
                  have GC : Hid (wm.grownBy wc none) := hgc
                  rw [h13]
                  clear h13 hgc
                  cases hl : Pl.lastB S i len
                  · have HW : Hid (Pl.want S len (i + 1) = Pl.want S len i) := by show _ = _; rw [Pl.want_succ]; simp [Pl.gB, hl]
                    clear hl
                    go_wp2_with fail
                    go_roundg (len - (i + 1))
                    case measure => have := GR4.out.2.2; omega
                    case rel => exact ⟨i + 1, by omega, rfl, by rw [HW.out], by go_num, GC.out⟩
                  · have HLa : Hid (Pl.lastB S i len = true) := hl
                    clear hl
                    go_wp2_with fail
                    go_loopg [15, 16] (len - (i + 1)) (fun g f j wr => ∃ n fi : Nat, i < n ∧ n ≤ len ∧ g = len - n ∧ f = .int .i64 fi ∧ i ≤ fi ∧ fi < n ∧ (S fi).id = (S i).id ∧ (∀ x, fi < x → x < n → (S x).id ≠ (S i).id) ∧ j = .int .i64 n ∧ ∃ m, wr = wc.drewN m)
                    case atStart => exact ⟨i + 1, i, by omega, by omega, rfl, rfl, Nat.le_refl _, by omega, rfl, fun x a b => by omega, by go_num, 0, rfl⟩
                    case round =>
                      obtain ⟨n, fi, hin, hn, hgn, rfl, hif, hfn, hid, hno, rfl, m, rfl⟩ := hrel
                      have NO : Hid ((S fi).id = (S i).id ∧ (∀ x, fi < x → x < n → (S x).id ≠ (S i).id) ∧ gk = len - n) := ⟨hid, hno, hgn⟩
                      clear hid hno hgn
                      by_cases hnl : n < len
                      · have ci := ((HS.out i hlt).kept (M6.out.g.trans GC.out)).c0
                        have cn := ((HS.out n hnl).kept (M6.out.g.trans GC.out)).c0
                        by_cases he : (S n).id = (S i).id
                        · have hT : ((S n).id.toList == (S i).id.toList) = true := by rw [str_beq]; simp [he]
                          have HE : Hid ((S n).id = (S i).id) := he
                          clear he
                          go_wp2_with fail
                          go_quiet (fail)
                          go_wp2_with fail
                          go_roundg (len - (n + 1))
                          case measure => have := NO.out.2.2; omega
                          case rel => exact ⟨n + 1, n, by omega, by omega, rfl, rfl, by omega, by omega, HE.out, fun x a b => by omega, by go_num, m + nq, rfl⟩
                        · have hT : ((S n).id.toList == (S i).id.toList) = false := by rw [str_beq]; simp [he]
                          have HE : Hid ((S n).id ≠ (S i).id) := he
                          clear he
                          go_wp2_with fail
                          go_quiet (fail)
                          go_wp2_with fail
                          go_roundg (len - (n + 1))
                          case measure => have := NO.out.2.2; omega
                          case rel =>
                            refine ⟨n + 1, fi, by omega, by omega, rfl, rfl, by omega, by omega, NO.out.1, fun x a b => ?_, by go_num, m + nq, rfl⟩
                            by_cases e : x = n
                            · rw [e]; exact HE.out
                            · exact NO.out.2.1 x a (by omega)
                      · obtain hnl' : n = len := by omega
                        have FN : Hid (Pl.finalB S i len = decide (fi = i)) := Pl.final_split hif (by omega) NO.out.1 (fun x a b => NO.out.2.1 x a (by omega))
                        have GD : Hid (wm.grownBy (wc.drewN m) none) := grown_drewN GC.out m
                        obtain ⟨mi, hmi, hcl⟩ := Pl.holds_claim HH.out
                        obtain ⟨d0, d1, d2, d3, d4, dm⟩ := (HS.out i hlt).kept (M6.out.g.trans GD.out)
                        obtain ⟨pi, hpi, hci⟩ : ∃ pi, MP i = some pi ∧ (wc.drewN m).cell? pi = some (.string mi) := by
                          rcases dm with ⟨_, e⟩ | ⟨p, s, e1, e2, e3⟩
                          · rw [hmi] at e; cases e
                          · rw [hmi] at e2; cases e2; exact ⟨p, e1, e3⟩
                        have TB : Hid (Pl.get (Pl.script S len) ((S i).ten, mi) = if decide (fi = i) then some (S i).id else none) := by
                          show _ = _
                          rw [← FN.out]
                          exact Pl.get_last hlt hcl HLa.out
                        have KO : Hid (Ok ((S i).ten, mi)) := (HO.out i hlt).2 _ hcl
                        have MW : Hid (MapIs (wc.drewN m) M len (Pl.script S len)) := M6.out.m.kept GD.out (by simp)
                        have HX : Hid ((S i).mach = some mi ∧ MP i = some pi) := ⟨hmi, hpi⟩
                        rw [hpi] at d2
                        clear hmi hcl dm hpi hnl'
                        have bi := World.block_lt_of_cell? _ _ d0
                        have bp := World.block_lt_of_cell? _ _ hci
                        generalize wc.drewN m = wd at *
                        have hl : (Instr.lookup 28 (.map (some M)) (.agg #[.string (S i).ten, .string mi]) true).run Try.prog (wd.alloc (Obj.cells #[.string (S i).ten, .string mi] 38)).drew = .ok (.tuple #[.string ((Pl.get (Pl.script S len) ((S i).ten, mi)).getD ByteArray.empty), .bool (Pl.get (Pl.script S len) ((S i).ten, mi)).isSome]) (wd.alloc (Obj.cells #[.string (S i).ten, .string mi] 38)).drew :=
                          MapIs.look_ok ((MW.out.kept (below_box wd (Obj.cells #[.string (S i).ten, .string mi] 38)) (by simp)).drewN 1) (k := ((S i).ten, mi)) KO.out
                        have G5 : Hid (wm.grownBy (wd.alloc (Obj.cells #[.string (S i).ten, .string mi] 38)).drew none) := GD.out.trans (grown_drewN (below_box wd (Obj.cells #[.string (S i).ten, .string mi] 38)) 1)
                        by_cases hfi : fi = i
                        · have TB1 : Pl.get (Pl.script S len) ((S i).ten, mi) = some (S i).id := by rw [TB.out, hfi]; simp
                          rw [TB1] at hl
                          simp only [Option.getD_some, Option.isSome_some] at hl
                          have HW : Hid (Pl.want S len (i + 1) = Pl.want S len i + 1) := by show _ = _; rw [Pl.want_succ]; simp [Pl.gB, HH.out, HLa.out, FN.out, hfi]
                          rw [hfi]
                          clear TB1 TB hfi
                          go_wp2_with fail
                          go_region
                          go_wp2_with fail
                          generalize (wd.alloc (Obj.cells #[.string (S i).ten, .string mi] 38)).drew = w5 at *
                          have hne : Nonempty (Ext w5) := ⟨⟨w5, grown_refl w5 none⟩⟩
                          have SI : Hid (∀ x : Ext w5, StepAt x.val b off i (S i) (MP i)) := fun x => (HS.out i hlt).kept ((M6.out.g.trans G5.out).trans x.grown)
                          have i0 := fun x => (SI.out x).c0
                          have i1 := fun x => (SI.out x).c1
                          have i2 := fun x => (SI.out x).c2
                          have i3 := fun x => (SI.out x).c3
                          have i4 := fun x => (SI.out x).c4
                          rw [HX.out.2] at i2
                          have HC : Hid (∀ x : Ext w5, x.val.cell? pi = some (.string mi)) := fun x => by
                            rcases (SI.out x).m with ⟨_, e⟩ | ⟨p, s, e1, e2, e3⟩
                            · rw [HX.out.1] at e; cases e
                            · rw [HX.out.2] at e1; rw [HX.out.1] at e2; cases e1; cases e2; exact e3
                          have HM1 : Hid ((some pi).isSome = (S i).mach.isSome) := by show _ = _; rw [HX.out.1]; rfl
                          refine wp_region_ext (by kernel_rfl) (by kernel_rfl) ?_
                          repeat (go_big_quiet_step (first
                            | (go_at_call 10; exact ext_of (holds_is (S i) (some pi) _ HM1.out HH.out))
                            | (go_at_call 11; exact ext_of (same_is (S i) (S i) pi pi mi mi _ (HC.out _) (HC.out _) (v := true) (by simp)))))
                          refine wpQuiet_nil ?_
                          intro w6 hw6
                          obtain ⟨x6, hx6⟩ := hw6
                          have G6 : Hid (wm.grownBy w6 none) := by rw [hx6]; exact G5.out.trans x6.grown
                          have k0 : w6.cell? ⟨b, off + i * 5, none⟩ = some (.string (S i).id) := by rw [hx6]; exact i0 x6
                          clear hx6 i0 i1 i2 i3 i4
                          go_wp2_with fail
                          go_roundg (len - (i + 1))
                          case measure => have := GR4.out.2.2; omega
                          case rel => exact ⟨i + 1, by omega, rfl, by rw [HW.out]; go_num, by go_num, G6.out⟩
                        · have TB1 : Pl.get (Pl.script S len) ((S i).ten, mi) = none := by rw [TB.out]; simp [hfi]
                          rw [TB1] at hl
                          simp only [Option.getD_none, Option.isSome_none] at hl
                          have HW : Hid (Pl.want S len (i + 1) = Pl.want S len i) := by show _ = _; rw [Pl.want_succ]; simp [Pl.gB, FN.out, hfi]
                          have HL1 : Hid (¬ (Pl.holds (S fi) = true ∧ Pl.sameB (S i) (S fi) = true)) := Pl.lastB_true.1 HLa.out fi (by omega) (by omega)
                          clear TB1 TB hfi
                          go_wp2_with fail
                          go_region
                          go_wp2_with fail
                          generalize (wd.alloc (Obj.cells #[.string (S i).ten, .string mi] 38)).drew = w5 at *
                          have hne : Nonempty (Ext w5) := ⟨⟨w5, grown_refl w5 none⟩⟩
                          have SI : Hid (∀ x : Ext w5, StepAt x.val b off i (S i) (MP i)) := fun x => (HS.out i hlt).kept ((M6.out.g.trans G5.out).trans x.grown)
                          have SN : Hid (∀ x : Ext w5, StepAt x.val b off fi (S fi) (MP fi)) := fun x => (HS.out fi (by omega)).kept ((M6.out.g.trans G5.out).trans x.grown)
                          have n0 := fun x => (SN.out x).c0
                          have n1 := fun x => (SN.out x).c1
                          have n2 := fun x => (SN.out x).c2
                          have n3 := fun x => (SN.out x).c3
                          have n4 := fun x => (SN.out x).c4
                          have HM0 : Hid ((MP fi).isSome = (S fi).mach.isSome) := (SN.out ⟨w5, grown_refl w5 none⟩).m.some_iff
                          cases hh : Pl.holds (S fi)
                          · have HN : Hid (Pl.holds (S fi) = false) := hh
                            clear hh
                            refine wp_region_ext (by kernel_rfl) (by kernel_rfl) ?_
                            repeat (go_big_quiet_step ((go_at_call 10; exact ext_of (holds_is (S fi) (MP fi) _ HM0.out HN.out))))
                            refine wpQuiet_nil ?_
                            intro w6 hw6
                            obtain ⟨x6, hx6⟩ := hw6
                            have G6 : Hid (wm.grownBy w6 none) := by rw [hx6]; exact G5.out.trans x6.grown
                            clear hx6 n0 n1 n2 n3 n4
                            go_wp2_with fail
                            go_roundg (len - (i + 1))
                            case measure => have := GR4.out.2.2; omega
                            case rel => exact ⟨i + 1, by omega, rfl, by rw [HW.out], by go_num, G6.out⟩
                          · have HN : Hid (Pl.holds (S fi) = true) := hh
                            clear hh
                            have i0 := fun x => (SI.out x).c0
                            have i1 := fun x => (SI.out x).c1
                            have i2 := fun x => (SI.out x).c2
                            have i3 := fun x => (SI.out x).c3
                            have i4 := fun x => (SI.out x).c4
                            obtain ⟨ma, pa, hpa, hma, hca⟩ : ∃ mi pi, MP i = some pi ∧ (S i).mach = some mi ∧ ∀ x : Ext w5, x.val.cell? pi = some (.string mi) := ext_mach HH.out (fun x => (SI.out x).m)
                            obtain ⟨mn, pn, hpn, hmn, hcn⟩ : ∃ mi pi, MP fi = some pi ∧ (S fi).mach = some mi ∧ ∀ x : Ext w5, x.val.cell? pi = some (.string mi) := ext_mach HN.out (fun x => (SN.out x).m)
                            have HV : Hid ((decide ((S i).ten = (S fi).ten) && decide (ma = mn)) = false) := by
                              show _ = _
                              have : (decide ((S i).ten = (S fi).ten) && decide (ma = mn)) = Pl.sameB (S i) (S fi) := by rw [Pl.sameB, hma, hmn]; simp
                              rw [this]
                              cases hv : Pl.sameB (S i) (S fi)
                              · rfl
                              · exact absurd ⟨HN.out, hv⟩ HL1.out
                            have HC : Hid ((∀ x : Ext w5, x.val.cell? pa = some (.string ma)) ∧ (∀ x : Ext w5, x.val.cell? pn = some (.string mn))) := ⟨hca, hcn⟩
                            rw [hpa] at i2
                            rw [hpn] at n2 HM0
                            clear hca hcn hma hmn hpa hpn
                            refine wp_region_ext (by kernel_rfl) (by kernel_rfl) ?_
                            repeat (go_big_quiet_step (first
                              | (go_at_call 10; exact ext_of (holds_is (S fi) (some pn) _ HM0.out HN.out))
                              | (go_at_call 11; exact ext_of (same_is (S i) (S fi) pa pn ma mn _ (HC.out.1 _) (HC.out.2 _) HV.out))))
                            refine wpQuiet_nil ?_
                            intro w6 hw6
                            obtain ⟨x6, hx6⟩ := hw6
                            have G6 : Hid (wm.grownBy w6 none) := by rw [hx6]; exact G5.out.trans x6.grown
                            clear hx6 n0 n1 n2 n3 n4 i0 i1 i2 i3 i4
                            go_wp2_with fail
                            go_roundg (len - (i + 1))
                            case measure => have := GR4.out.2.2; omega
                            case rel => exact ⟨i + 1, by omega, rfl, by rw [HW.out], by go_num, G6.out⟩
            · have hil : i = len := by omega
              have HE : Hid (((Pl.script S len).length : Int) = (Pl.want S len i : Int)) := by show _ = _; rw [Pl.want_all, hil]
              have hlen : ∀ ty, (Builtin.len_ #[28] ty #[.map (some M)]).run Try.prog wr = .ok (.int .i64 ((Pl.script S len).length : Int)) wr := fun ty => GR4.out.1.m.len ty
              rw [HE.out] at hlen
              clear hil
              go_wp2
              go_ret
              exact ⟨by simp, M6.out.g.trans GR4.out.2.1⟩
end Go.Proofs.Qxb6615505a
