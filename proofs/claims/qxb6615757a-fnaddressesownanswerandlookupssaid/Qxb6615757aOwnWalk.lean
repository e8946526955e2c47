/-
  The walk of FnAddressesOwnAnswerAndLookups.
-/
import Derived.Test.Qxb6615757aFirstWalk
import Derived.Test.Qxb6615757aLook
namespace Go.Proofs.Qxb6615757a
open Go.RowKit

/-- a row of the call's own, whatever lies in it -/
def Any (base : Nat) (w : World) (a : Option Addr) (n c : Nat) : Prop := ∃ xs, w.ownsRow base 57 2 (.slice a n c) n xs
theorem ownsRow_keptB {base g : Nat} {e : TypeId} {k n : Nat} {xs : List Value} {w w' : World} {v : Value} (h : w.ownsRow base e k v n xs) (hg : w.grownBy w' (some g)) (hb : g < base) : w'.ownsRow base e k v n xs := by
  refine World.ownsRow.kept h hg ?_
  cases hv : v.ownBlock with
  | none => exact .inl rfl
  | some k =>
    refine .inr (fun e => ?_)
    cases e
    have := (World.ownsRow.lt h g hv).1
    omega
theorem grown_b_trans {a b c : World} {lb : Nat} (h : a.grownBy b (some lb)) (k : b.grownBy c (some lb)) : a.grownBy c (some lb) :=
  ⟨k.os.trans h.os, k.tape.trans h.tape, k.output.trans h.output, Nat.le_trans h.size k.size, fun i hi hn => (k.block i (Nat.lt_of_lt_of_le hi h.size) hn).trans (h.block i hi hn)⟩
theorem grown_b_set {a b : World} {lb : Nat} (h : a.grownBy b (some lb)) {ad : Addr} (ha : a.heap.size ≤ ad.block) (v : Value) : a.grownBy (b.setCell ad v) (some lb) :=
  ⟨h.os, h.tape, h.output, Nat.le_trans h.size (by simp [World.setCell]), fun i hi hn => (Below.heap_setCell _ _ _ _ (by omega)).trans (h.block i hi hn)⟩
theorem Any.lay {base : Nat} {w : World} {g n c k : Nat} (h : Any base w (some ⟨g, 0, none⟩) n c) (u v : Value) : Any base ((w.setCell ⟨g, k * 2, none⟩ u).setCell ⟨g, k * 2 + 1, none⟩ v) (some ⟨g, 0, none⟩) n c := by
  obtain ⟨xs, h⟩ := h
  exact ⟨_, ((h.stored (k * 2) u).1.stored (k * 2 + 1) v).1⟩
theorem LogIs.setOff {w : World} {lb : Nat} {cfg pend : Value} (h : LogIs w lb cfg pend) {ad : Addr} (ha : ad.block ≠ lb) (v : Value) : LogIs (w.setCell ad v) lb cfg pend := by
  obtain ⟨c3, c24, c30, ⟨n, c32⟩, ⟨v38, c38⟩, f⟩ := h
  have hc : ∀ o, (w.setCell ad v).cell? ⟨lb, o, none⟩ = w.cell? ⟨lb, o, none⟩ := fun o => World.cell?_setCell_other w ad ⟨lb, o, none⟩ v (fun e => ha (by rw [e]))
  exact ⟨(hc 3).trans c3, (hc 24).trans c24, (hc 30).trans c30, ⟨n, (hc 32).trans c32⟩, ⟨v38, (hc 38).trans c38⟩, fun o => by rw [World.frozen?_setCell]; exact f o⟩

set_option maxRecDepth 100000 in
set_option maxHeartbeats 4000000 in
theorem own_walk (ca : Option Addr) (cc : Nat) (cms : List Mem) (pa : Option Addr) (pc : Nat) (ps : List Sl) (pr : Int) (w : World) (hc : MsAt w ca cms) (hcn : ca = none → cms = []) (hcl : cms.length ≤ maxLen) (hcs : ∀ m ∈ cms, m.2.size ≤ maxLen) (hp : PsR w pa ps) (hpn : pa = none → ps = []) (hpl : ps.length ≤ maxLen) :
    Calls Try.prog 6 #[.slice ca cms.length cc, .slice pa ps.length pc, .int .i64 pr] w fun e w' => e = .returned (.bool true) ∧ w.grownBy w' none := by
  have HC : Hid (MsAt w ca cms ∧ (ca = none → cms = [])) := ⟨hc, hcn⟩
  have HP : Hid (PsR w pa ps ∧ (pa = none → ps = [])) := ⟨hp, hpn⟩
  have hb := bytes26_c ca cc cms pa pc ps pr w hc hcl hcs hp hpl
  have HB : Hid (Calls Try.prog 26 #[.slice ca cms.length cc, .slice pa ps.length pc, .int .i64 pr] w (Ans (Fit cms ps) w)) := hb
  clear hc hcn hcl hcs hp hpn hpl hb
  go_enter Try.func6, Try.ntmps6
  go_wp2_with fail
  refine Calls.mono HB.out ?_
  rintro e1 w1 ⟨bb, rfl, rfl, hfit⟩
  cases bb with
  | false =>
    clear hfit
    go_wp2
    go_ret
    exact ⟨rfl, grown_refl _⟩
  | true =>
    have HF : Hid (Fit cms ps) := hfit rfl
    have hcl2 : (cms.length : Int) ≤ 1048576 := by have := HF.out.1; omega
    have hpl2 : (ps.length : Int) ≤ 1048576 := by have := HF.out.2.1; omega
    clear hfit
    by_cases hb1 : (4096 : Int) < cms.length
    · go_wp2
      go_ret
      exact ⟨rfl, grown_refl _⟩
    by_cases hb2 : (4096 : Int) < ps.length
    · go_wp2
      go_ret
      exact ⟨rfl, grown_refl _⟩
    go_wp2_with fail
    refine (pendingFits_c ca cc cms pa pc ps w1 HC.out.1 HP.out.1 HF.out).mono ?_
    rintro e2 w2 ⟨bb, rfl, hg2⟩
    have G2 : Hid (w1.grownBy w2 none) := hg2
    clear hg2
    cases bb with
    | false =>
      go_wp2
      go_ret
      exact ⟨rfl, G2.out⟩
    | true =>
      go_wp2_with fail
      refine (toConfig_c ca cc cms w2 (by omega) (HC.out.1.kept G2.out) HC.out.2).mono ?_
      rintro e3 w3 ⟨v3, rfl, hown3, -, hg3⟩
      obtain ⟨xa, xc, rfl, -⟩ := hown3.slice
      have O3 : Hid (Own w2.heap.size 57 w3 (.slice xa cms.length xc) cms ∧ w1.grownBy w3 none) := ⟨hown3, grown_trans G2.out hg3⟩
      clear hown3 hg3
      go_wp2_with fail
      refine (toConfigs_c pa pc ps w3 (by omega) (psAt_of (HP.out.1.kept O3.out.2) HF.out.2.2.2) HP.out.2).mono ?_
      rintro e4 w4 ⟨v4, rfl, qs, hrow4, hqs, hq4, hg4⟩
      obtain ⟨ya, yc, rfl⟩ : ∃ a c, v4 = .slice a qs.length c := by
        obtain ⟨_, ⟨e, hn⟩ | ⟨g, cap, cur, e, _⟩⟩ := hrow4
        · exact ⟨_, _, by rw [hn]; exact e⟩
        · exact ⟨_, _, e⟩
      have O4 : Hid (w4.ownsRow w3.heap.size 29 1 (.slice ya qs.length yc) qs.length (qs.map Sl.val) ∧ qs.map (·.ms) = ps.map (·.ms) ∧ (∀ q ∈ qs, Own w3.heap.size 57 w4 q.val q.ms) ∧ w3.grownBy w4 none) := ⟨hrow4, hqs, hq4, hg4⟩
      have hql : Hid (qs.length = ps.length) := (by have := congrArg List.length hqs; simpa using this : qs.length = ps.length)
      clear hrow4 hqs hq4 hg4
      go_wp2_with fail
      refine (logWith_c w3.heap.size xa cms.length xc ya yc qs w4 O4.out.1 (by rw [hql.out]; omega)).mono ?_
      rintro e5 w5 ⟨lb, pv, rfl, hlb, hlog, hrow5, hg5⟩
      obtain ⟨za, zc, rfl⟩ : ∃ a c, pv = .slice a qs.length c := by
        obtain ⟨_, ⟨e, hn⟩ | ⟨g, cap, cur, e, _⟩⟩ := hrow5
        · exact ⟨_, _, by rw [hn]; exact e⟩
        · exact ⟨_, _, e⟩
      have O5 : Hid (w4.heap.size ≤ lb ∧ LogIs w5 lb (.slice xa cms.length xc) (.slice za qs.length zc) ∧ w5.ownsRow (lb + 1) 105 9 (.slice za qs.length zc) qs.length (flatR qs) ∧ w1.grownBy w5 none ∧ MsAt w5 xa cms ∧ (xa = none → cms = []) ∧ Off lb xa ∧ ∀ q ∈ qs, MsAt w5 q.a q.ms ∧ Off lb q.a) := by
        have g35 := grown_trans O4.out.2.2.2 hg5
        have hs34 := O4.out.2.2.2.size
        refine ⟨hlb, hlog, hrow5, grown_trans O3.out.2 g35, ?_, ?_, ?_, fun q hq => ?_⟩
        · obtain ⟨a, c, e, hm, hn, ho⟩ := O3.out.1.full
          cases e
          exact hm.kept g35
        · obtain ⟨a, c, e, hm, hn, ho⟩ := O3.out.1.full
          cases e
          exact hn
        · obtain ⟨a, c, e, hm, hn, ho⟩ := O3.out.1.full
          cases e
          exact ho lb (by omega)
        · obtain ⟨a, c, e, hm, hn, ho⟩ := (O4.out.2.2.1 q hq).full
          unfold Sl.val at e
          cases e
          exact ⟨hm.kept hg5, ho lb hlb⟩
      clear hlb hlog hrow5 hg5
      go_wp2_with fail
      refine (zzaddr_c lb xa xc cms za zc qs w5 O5.out.2.1 O5.out.2.2.2.2.1 O5.out.2.2.2.2.2.1 O5.out.2.2.2.2.2.2.1 O5.out.2.2.1 O5.out.2.2.2.2.2.2.2 (by rw [sum_eq O4.out.2.1]; exact HF.out.1)).mono ?_
      rintro e6 w6 ⟨v6, rfl, hown6, hlog6, hg6⟩
      rw [O4.out.2.1] at hown6
      obtain ⟨al, hal⟩ : ∃ al, addrs cms (ps.map (·.ms)) = al := ⟨_, rfl⟩
      have HA : Hid (addrs cms (ps.map (·.ms)) = al ∧ al.length ≤ 1048576) := ⟨hal, by
        have h1 := addrs_length (ps.map (·.ms)) cms
        have h2 := HF.out.1
        unfold sumL at h2
        rw [List.map_map, hal] at h1
        exact Nat.le_trans h1 h2⟩
      rw [hal] at hown6
      have hal2 : (al.length : Int) ≤ 1048576 := by have := HA.out.2; omega
      clear hal
      obtain ⟨ua, uc, rfl, -⟩ := hown6.slice
      have O6 : Hid (Any w5.heap.size w6 ua al.length uc ∧ LogIs w6 lb (.slice xa cms.length xc) (.slice za qs.length zc) ∧ w5.grownBy w6 (some lb)) := ⟨⟨_, hown6⟩, hlog6, hg6⟩
      have hlb5 : Hid (lb < w5.heap.size) := lt_of_cell2 O5.out.2.1.c3
      clear hown6 hg6 hlog6
      go_wp2_with fail
      go_loopg [9] al.length (fun gg i wr => ∃ k : Nat, k ≤ al.length ∧ gg = al.length - k ∧ i = .int .i64 k ∧ Any w5.heap.size wr ua al.length uc ∧ LogIs wr lb (.slice xa cms.length xc) (.slice za qs.length zc) ∧ w5.grownBy wr (some lb))
      case atStart => exact ⟨0, Nat.zero_le _, rfl, rfl, O6.out⟩
      case round =>
        obtain ⟨k, hk, hgg, rfl, hany, hlog, hgr⟩ := hrel
        have MD : Hid (Any w5.heap.size wr ua al.length uc ∧ LogIs wr lb (.slice xa cms.length xc) (.slice za qs.length zc) ∧ w5.grownBy wr (some lb) ∧ gk = al.length - k) := ⟨hany, hlog, hgr, hgg⟩
        clear hany hlog hgr hgg
        by_cases hlt : k < al.length
        · have hua : ∃ g, ua = some ⟨g, 0, none⟩ ∧ w5.heap.size ≤ g ∧ (∀ j, j < al.length * 2 → ∃ u, wr.cell? ⟨g, j, none⟩ = some u) ∧ ∀ j, wr.frozen? ⟨g, j, none⟩ = false := by
            obtain ⟨xs, h⟩ := MD.out.1
            have h' := h
            obtain ⟨hxl, ⟨e, hn⟩ | ⟨g, cap, cur, e, r1, _⟩⟩ := h'
            · omega
            · cases e
              refine ⟨g, rfl, r1, fun j hj => ⟨xs[j], by rw [h.cellAt j hj, List.getElem?_eq_getElem]⟩, fun j => h.frozenAt j⟩
          obtain ⟨g, rfl, hg5, hcells, hfr⟩ := hua
          obtain ⟨u0, d0⟩ := hcells (k * 2) (by omega)
          obtain ⟨u1, d1⟩ := hcells (k * 2 + 1) (by omega)
          have HG : Hid (w5.heap.size ≤ g) := hg5
          clear hcells hg5
          go_wp2_with fail
          go_roundg (al.length - (k + 1))
          case measure => have := MD.out.2.2.2; omega
          case rel =>
            have hne : g ≠ lb := by have h1 := HG.out; have h2 := hlb5.out; omega
            exact ⟨k + 1, by omega, rfl, by go_num, MD.out.1.lay _ _, (MD.out.2.1.setOff hne _).setOff hne _, grown_b_set (grown_b_set MD.out.2.2.1 HG.out _) HG.out _⟩
        · obtain ⟨gr, hgr⟩ : ∃ gr : World, gr = wr := ⟨_, rfl⟩
          subst hgr
          go_wp2_with fail
          have S : Hid (MsAt gr xa cms ∧ gr.ownsRow (lb + 1) 105 9 (.slice za qs.length zc) qs.length (flatR qs) ∧ ∀ q ∈ qs, MsAt gr q.a q.ms ∧ Off lb q.a) := by
            have g := MD.out.2.2.1
            refine ⟨O5.out.2.2.2.2.1.keptOff O5.out.2.2.2.2.2.2.1 g, ownsRow_keptB O5.out.2.2.1 g (by omega), fun q hq => ?_⟩
            have h := O5.out.2.2.2.2.2.2.2 q hq
            exact ⟨h.1.keptOff h.2 g, h.2⟩
          refine (zzaddr_c lb xa xc cms za zc qs gr MD.out.2.1 S.out.1 O5.out.2.2.2.2.2.1 O5.out.2.2.2.2.2.2.1 S.out.2.1 S.out.2.2 (by rw [sum_eq O4.out.2.1]; exact HF.out.1)).mono ?_
          rintro e7 w7 ⟨v7, rfl, hown7, -, hg7⟩
          rw [O4.out.2.1, HA.out.1] at hown7
          obtain ⟨ta, tc, rfl, hm7⟩ := hown7.slice
          have O7 : Hid (MsAt w7 ta al ∧ w1.grownBy w7 none) := ⟨hm7, grown_row O5.out.2.2.2.1 (grown_b_trans MD.out.2.2.1 hg7) (fun k e => by
            cases e
            have h1 := O3.out.2.size
            have h2 := O4.out.2.2.2.size
            have h3 := O5.out.1
            omega)⟩
          clear hown7 hg7 hm7
          have AG : Hid (∀ (id : Int) (u : World), w7.grownBy u none → Calls Try.prog 27 #[.slice ta al.length tc, .slice ca cms.length cc, .slice pa ps.length pc, .int .i64 id] u fun e w' => e = .returned (.bool true) ∧ u.grownBy w' none) := by
            intro id u hu
            have g := grown_trans O7.out.2 hu
            refine lookupAgrees_c ta tc al ca cc cms pa pc ps id u (O7.out.1.kept hu) HA.out.2 (HC.out.1.kept g) (by omega) (psAt_of (HP.out.1.kept g) HF.out.2.2.2) (by omega) ?_
            rw [← HA.out.1, look_lk, lk_addrs]
            rfl
          go_wp2_with fail
          refine (AG.out pr w7 (grown_refl _)).mono ?_
          rintro e8 w8 ⟨rfl, hg8⟩
          have G8 : Hid (w7.grownBy w8 none) := hg8
          clear hg8
          go_wp2_with fail
          go_loopg [11] cms.length (fun gg i wr => ∃ k : Nat, k ≤ cms.length ∧ gg = cms.length - k ∧ i = .int .i64 k ∧ w7.grownBy wr none)
          case atStart => exact ⟨0, Nat.zero_le _, rfl, rfl, G8.out⟩
          case round =>
            obtain ⟨k2, hk2, hgg2, rfl, hgr2⟩ := hrel
            have MD2 : Hid (w7.grownBy wr none ∧ gk = cms.length - k2) := ⟨hgr2, hgg2⟩
            clear hgr2 hgg2
            by_cases hlt2 : k2 < cms.length
            · obtain ⟨x, hx⟩ : ∃ x, cms[k2]? = some x := ⟨cms[k2], List.getElem?_eq_getElem hlt2⟩
              have AG2 := AG.out x.1 wr MD2.out.1
              obtain ⟨bc, offc, ea, c0, c1⟩ := (HC.out.1 k2 x hx).kept (grown_trans O7.out.2 MD2.out.1)
              have AG2 : Hid (Calls Try.prog 27 #[.slice ta al.length tc, .slice ca cms.length cc, .slice pa ps.length pc, .int .i64 x.1] wr fun e w' => e = .returned (.bool true) ∧ wr.grownBy w' none) := AG2
              subst ea
              clear hx c1
              go_wp2_with fail
              refine Calls.mono AG2.out ?_
              rintro e9 w9 ⟨rfl, hg9⟩
              have G9 : Hid (w7.grownBy w9 none) := grown_trans MD2.out.1 hg9
              clear hg9
              go_wp2_with fail
              go_roundg (cms.length - (k2 + 1))
              case measure => have := MD2.out.2; omega
              case rel => exact ⟨k2 + 1, by omega, rfl, by go_num, G9.out⟩
            · go_wp2_with fail
              go_loopg [12] ps.length (fun gg i wr => ∃ k : Nat, k ≤ ps.length ∧ gg = ps.length - k ∧ i = .int .i64 k ∧ w7.grownBy wr none)
              case atStart => exact ⟨0, Nat.zero_le _, rfl, rfl, MD2.out.1⟩
              case round =>
                obtain ⟨k3, hk3, hgg3, rfl, hgr3⟩ := hrel
                have MD3 : Hid (w7.grownBy wr none ∧ gk = ps.length - k3) := ⟨hgr3, hgg3⟩
                clear hgr3 hgg3
                by_cases hlt3 : k3 < ps.length
                · obtain ⟨s, hs⟩ : ∃ s, ps[k3]? = some s := ⟨ps[k3], List.getElem?_eq_getElem hlt3⟩
                  have hsl : (s.ms.length : Int) ≤ 1048576 := by have := (HF.out.2.2.2 s (List.mem_of_getElem? hs)).1; omega
                  have HS : Hid (ps[k3]? = some s) := hs
                  clear hs
                  obtain ⟨b3, off3, ea, c0w⟩ := (HP.out.1 k3 s HS.out).1
                  have CW : Hid (w1.cell? ⟨b3, off3 + k3, none⟩ = some (.slice s.a s.ms.length s.cap)) := c0w
                  cases ea
                  clear c0w
                  go_wp2_with fail
                  go_loopg [13] s.ms.length (fun gg i wr => ∃ k : Nat, k ≤ s.ms.length ∧ gg = s.ms.length - k ∧ i = .int .i64 k ∧ w7.grownBy wr none)
                  case atStart => exact ⟨0, Nat.zero_le _, rfl, rfl, MD3.out.1⟩
                  case round =>
                    obtain ⟨k4, hk4, hgg4, rfl, hgr4⟩ := hrel
                    have MD4 : Hid (w7.grownBy wr none ∧ gk = s.ms.length - k4) := ⟨hgr4, hgg4⟩
                    have c0 : wr.cell? ⟨b3, off3 + k3, none⟩ = some (.slice s.a s.ms.length s.cap) := (grown_trans O7.out.2 hgr4).cell CW.out (by simp)
                    clear hgr4 hgg4
                    by_cases hlt4 : k4 < s.ms.length
                    · obtain ⟨x, hx⟩ : ∃ x, s.ms[k4]? = some x := ⟨s.ms[k4], List.getElem?_eq_getElem hlt4⟩
                      have AG2 : Hid (Calls Try.prog 27 #[.slice ta al.length tc, .slice ca cms.length cc, .slice (some ⟨b3, off3, none⟩) ps.length pc, .int .i64 x.1] wr fun e w' => e = .returned (.bool true) ∧ wr.grownBy w' none) := AG.out x.1 wr MD4.out.1
                      obtain ⟨bc, offc, ea, d0, d1⟩ := ((HP.out.1 k3 s HS.out).2.1 k4 x hx).kept (grown_trans O7.out.2 MD4.out.1)
                      rw [ea] at c0
                      clear hx d1 ea
                      go_wp2_with fail
                      refine Calls.mono AG2.out ?_
                      rintro e9 w9 ⟨rfl, hg9⟩
                      have G9 : Hid (w7.grownBy w9 none) := grown_trans MD4.out.1 hg9
                      clear hg9
                      go_wp2_with fail
                      go_roundg (s.ms.length - (k4 + 1))
                      case measure => have := MD4.out.2; omega
                      case rel => exact ⟨k4 + 1, by omega, rfl, by go_num, G9.out⟩
                    · go_wp2_with fail
                      go_roundg (ps.length - (k3 + 1))
                      case measure => have := MD3.out.2; omega
                      case rel => exact ⟨k3 + 1, by omega, rfl, by go_num, MD4.out.1⟩
                · go_wp2
                  go_ret
                  exact ⟨rfl, grown_trans O7.out.2 MD3.out.1⟩
end Go.Proofs.Qxb6615757a
