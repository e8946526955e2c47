/-
  The walk of FnAddressesFirstOfEachID.
-/
import Derived.Test.Qxb6615757aModel
import Derived.Test.Qxb6615757aFits
namespace Go.Proofs.Qxb6615757a
open Go.RowKit

theorem Own.full {base : Nat} {e : TypeId} {w : World} {v : Value} {ms : List Mem} (h : Own base e w v ms) : ∃ a cap, v = .slice a ms.length cap ∧ MsAt w a ms ∧ (a = none → ms = []) ∧ ∀ lb, w.heap.size ≤ lb → Off lb a := by
  obtain ⟨a, cap, rfl, hm⟩ := h.slice
  refine ⟨a, cap, rfl, hm, fun e => ?_, fun lb hlb b off s e => ?_⟩
  · subst e
    have h0 : w.ownsRow base _ 2 (.slice none ms.length cap) ms.length (flat ms) := h
    obtain ⟨_, ⟨_, hn⟩ | ⟨g, c, cur, e, _⟩⟩ := h0
    · exact List.eq_nil_of_length_eq_zero hn
    · cases e
  · subst e
    have h0 : w.ownsRow base _ 2 (.slice (some ⟨b, off, s⟩) ms.length cap) ms.length (flat ms) := h
    have hl := World.ownsRow.lt h0 b
    obtain ⟨_, ⟨e, hn⟩ | ⟨g, c, cur, e, _⟩⟩ := h0
    · cases e
    · cases e
      have := (hl rfl).2
      omega

set_option maxRecDepth 100000 in
set_option maxHeartbeats 2000000 in
theorem zzaddr_c (lb : Nat) (ca : Option Addr) (cc : Nat) (cms : List Mem) (pa : Option Addr) (pc : Nat) (qs : List Sl) (w : World) (hlog : LogIs w lb (.slice ca cms.length cc) (.slice pa qs.length pc))
    (hc : MsAt w ca cms) (hcn : ca = none → cms = []) (hco : Off lb ca) (hrow : w.ownsRow (lb + 1) 105 9 (.slice pa qs.length pc) qs.length (flatR qs)) (hq : ∀ q ∈ qs, MsAt w q.a q.ms ∧ Off lb q.a)
    (hsum : cms.length + (qs.map (·.ms.length)).sum ≤ 1048576) :
    Calls Try.prog 24 #[.pointer (some ⟨lb, 0, none⟩)] w fun e w' => ∃ v, e = .returned v ∧ Own w.heap.size 57 w' v (addrs cms (qs.map (·.ms))) ∧ LogIs w' lb (.slice ca cms.length cc) (.slice pa qs.length pc) ∧ w.grownBy w' (some lb) := by
  have HT := addresses_c lb ca cc cms pa pc qs w hlog hc hcn hco hrow hq hsum
  have HT2 : Hid (Calls Try.prog 33 #[.pointer (some ⟨lb, 0, none⟩)] w fun e w' => ∃ v, e = .returned v ∧ Own w.heap.size 57 w' v (addrs cms (qs.map (·.ms))) ∧ LogIs w' lb (.slice ca cms.length cc) (.slice pa qs.length pc) ∧ w.grownBy w' (some lb)) := HT
  clear hlog hc hcn hco hrow hq hsum HT
  go_enter Try.func24, Try.ntmps24
  go_wp2_with fail
  refine Calls.mono HT2.out ?_
  rintro e w1 ⟨v, rfl, h1, h2, h3⟩
  have H : Hid (Own w.heap.size 57 w1 v (addrs cms (qs.map (·.ms))) ∧ LogIs w1 lb (.slice ca cms.length cc) (.slice pa qs.length pc) ∧ w.grownBy w1 (some lb)) := ⟨h1, h2, h3⟩
  clear h1 h2 h3
  go_wp2
  go_ret
  exact ⟨_, rfl, H.out.1, H.out.2.1, H.out.2.2⟩

theorem psAt_of {w : World} {a : Option Addr} {ps : List Sl} (h : PsR w a ps) (hf : ∀ s ∈ ps, s.ms.length ≤ 1048576 ∧ MsFit s.ms) : PsAt w a ps := fun i s hi => ⟨(h i s hi).1, (h i s hi).2.1, (h i s hi).2.2.1, (hf s (List.mem_of_getElem? hi)).1⟩
theorem PsR.kept {w w' : World} {a : Option Addr} {ps : List Sl} (h : PsR w a ps) (g : w.grownBy w' none) : PsR w' a ps := fun i s hi => ⟨(h i s hi).1.kept g, (h i s hi).2.1.kept g, (h i s hi).2.2⟩
theorem sum_eq {ps qs : List Sl} (h : qs.map (·.ms) = ps.map (·.ms)) : (qs.map (·.ms.length)).sum = (ps.map (·.ms.length)).sum := by
  have h1 : ∀ l : List Sl, l.map (·.ms.length) = (l.map (·.ms)).map List.length := fun l => by simp
  rw [h1, h1, h]

/-- what stands when the log has been laid -/
def Stands (w w' : World) (v : Value) (cms : List Mem) (ps : List Sl) : Prop :=
  ∃ lb ca cc pa pc qs, v = .pointer (some ⟨lb, 0, none⟩) ∧ w.heap.size ≤ lb ∧ LogIs w' lb (.slice ca cms.length cc) (.slice pa qs.length pc) ∧ MsAt w' ca cms ∧ (ca = none → cms = []) ∧ Off lb ca ∧
    w'.ownsRow (lb + 1) 105 9 (.slice pa qs.length pc) qs.length (flatR qs) ∧ (∀ q ∈ qs, MsAt w' q.a q.ms ∧ Off lb q.a) ∧ qs.map (·.ms) = ps.map (·.ms) ∧ w.grownBy w' none

set_option maxRecDepth 100000 in
set_option maxHeartbeats 2000000 in
theorem first_walk (ca : Option Addr) (cc : Nat) (cms : List Mem) (pa : Option Addr) (pc : Nat) (ps : List Sl) (w : World) (hc : MsAt w ca cms) (hcn : ca = none → cms = []) (hcl : cms.length ≤ maxLen) (hcs : ∀ m ∈ cms, m.2.size ≤ maxLen) (hp : PsR w pa ps) (hpn : pa = none → ps = []) (hpl : ps.length ≤ maxLen) :
    Calls Try.prog 5 #[.slice ca cms.length cc, .slice pa ps.length pc] w fun e w' => e = .returned (.bool true) ∧ w.grownBy w' none := by
  have HC : Hid (MsAt w ca cms ∧ (ca = none → cms = [])) := ⟨hc, hcn⟩
  have HP : Hid (PsR w pa ps ∧ (pa = none → ps = [])) := ⟨hp, hpn⟩
  have hb := bytes20_c ca cc cms pa pc ps w hc hcl hcs hp hpl
  have HB : Hid (Calls Try.prog 20 #[.slice ca cms.length cc, .slice pa ps.length pc] w (Ans (Fit cms ps) w)) := hb
  clear hc hcn hcl hcs hp hpn hpl hb
  go_enter Try.func5, Try.ntmps5
  go_wp2_with fail
  refine Calls.mono HB.out ?_
  rintro e1 w1 ⟨bb, rfl, rfl, hfit⟩
  cases bb with
  | false =>
    clear hfit
    go_wp2
    go_ret
    exact ⟨rfl, grown_refl _⟩
  | true =>
    have HF : Hid (Fit cms ps) := hfit rfl
    have hcl2 : (cms.length : Int) ≤ 1048576 := by have := HF.out.1; omega
    have hpl2 : (ps.length : Int) ≤ 1048576 := by have := HF.out.2.1; omega
    clear hfit
    by_cases hb1 : (4096 : Int) < cms.length
    · go_wp2
      go_ret
      exact ⟨rfl, grown_refl _⟩
    by_cases hb2 : (4096 : Int) < ps.length
    · go_wp2
      go_ret
      exact ⟨rfl, grown_refl _⟩
    go_wp2_with fail
    refine (pendingFits_c ca cc cms pa pc ps w1 HC.out.1 HP.out.1 HF.out).mono ?_
    rintro e2 w2 ⟨bb, rfl, hg2⟩
    have G2 : Hid (w1.grownBy w2 none) := hg2
    clear hg2
    cases bb with
    | false =>
      go_wp2
      go_ret
      exact ⟨rfl, G2.out⟩
    | true =>
      go_wp2_with fail
      refine (toConfig_c ca cc cms w2 (by omega) (HC.out.1.kept G2.out) HC.out.2).mono ?_
      rintro e3 w3 ⟨v3, rfl, hown3, -, hg3⟩
      obtain ⟨xa, xc, rfl, -⟩ := hown3.slice
      have O3 : Hid (Own w2.heap.size 57 w3 (.slice xa cms.length xc) cms ∧ w1.grownBy w3 none) := ⟨hown3, grown_trans G2.out hg3⟩
      clear hown3 hg3
      go_wp2_with fail
      refine (toConfigs_c pa pc ps w3 (by omega) (psAt_of (HP.out.1.kept O3.out.2) HF.out.2.2.2) HP.out.2).mono ?_
      rintro e4 w4 ⟨v4, rfl, qs, hrow4, hqs, hq4, hg4⟩
      obtain ⟨ya, yc, rfl⟩ : ∃ a c, v4 = .slice a qs.length c := by
        obtain ⟨_, ⟨e, hn⟩ | ⟨g, cap, cur, e, _⟩⟩ := hrow4
        · exact ⟨_, _, by rw [hn]; exact e⟩
        · exact ⟨_, _, e⟩
      have O4 : Hid (w4.ownsRow w3.heap.size 29 1 (.slice ya qs.length yc) qs.length (qs.map Sl.val) ∧ qs.map (·.ms) = ps.map (·.ms) ∧ (∀ q ∈ qs, Own w3.heap.size 57 w4 q.val q.ms) ∧ w3.grownBy w4 none) := ⟨hrow4, hqs, hq4, hg4⟩
      have hql : Hid (qs.length = ps.length) := (by have := congrArg List.length hqs; simpa using this : qs.length = ps.length)
      clear hrow4 hqs hq4 hg4
      go_wp2_with fail
      refine (logWith_c w3.heap.size xa cms.length xc ya yc qs w4 O4.out.1 (by rw [hql.out]; omega)).mono ?_
      rintro e5 w5 ⟨lb, pv, rfl, hlb, hlog, hrow5, hg5⟩
      obtain ⟨za, zc, rfl⟩ : ∃ a c, pv = .slice a qs.length c := by
        obtain ⟨_, ⟨e, hn⟩ | ⟨g, cap, cur, e, _⟩⟩ := hrow5
        · exact ⟨_, _, by rw [hn]; exact e⟩
        · exact ⟨_, _, e⟩
      have O5 : Hid (w4.heap.size ≤ lb ∧ LogIs w5 lb (.slice xa cms.length xc) (.slice za qs.length zc) ∧ w5.ownsRow (lb + 1) 105 9 (.slice za qs.length zc) qs.length (flatR qs) ∧ w1.grownBy w5 none ∧ MsAt w5 xa cms ∧ (xa = none → cms = []) ∧ Off lb xa ∧ ∀ q ∈ qs, MsAt w5 q.a q.ms ∧ Off lb q.a) := by
        have g35 := grown_trans O4.out.2.2.2 hg5
        have hs34 := O4.out.2.2.2.size
        refine ⟨hlb, hlog, hrow5, grown_trans O3.out.2 g35, ?_, ?_, ?_, fun q hq => ?_⟩
        · obtain ⟨a, c, e, hm, hn, ho⟩ := O3.out.1.full
          cases e
          exact hm.kept g35
        · obtain ⟨a, c, e, hm, hn, ho⟩ := O3.out.1.full
          cases e
          exact hn
        · obtain ⟨a, c, e, hm, hn, ho⟩ := O3.out.1.full
          cases e
          exact ho lb (by omega)
        · obtain ⟨a, c, e, hm, hn, ho⟩ := (O4.out.2.2.1 q hq).full
          unfold Sl.val at e
          cases e
          exact ⟨hm.kept hg5, ho lb hlb⟩
      clear hlb hlog hrow5 hg5
      go_wp2_with fail
      refine (zzaddr_c lb xa xc cms za zc qs w5 O5.out.2.1 O5.out.2.2.2.2.1 O5.out.2.2.2.2.2.1 O5.out.2.2.2.2.2.2.1 O5.out.2.2.1 O5.out.2.2.2.2.2.2.2 (by rw [sum_eq O4.out.2.1]; exact HF.out.1)).mono ?_
      rintro e6 w6 ⟨v6, rfl, hown6, -, hg6⟩
      rw [O4.out.2.1] at hown6
      obtain ⟨al, hal⟩ : ∃ al, addrs cms (ps.map (·.ms)) = al := ⟨_, rfl⟩
      have HA : Hid (addrs cms (ps.map (·.ms)) = al) := hal
      rw [hal] at hown6
      clear hal
      obtain ⟨ua, uc, rfl, -⟩ := hown6.slice
      have O6 : Hid (Own w5.heap.size 57 w6 (.slice ua al.length uc) al ∧ w1.grownBy w6 none) := ⟨hown6, grown_row O5.out.2.2.2.1 hg6 (fun k e => by
        cases e
        have h1 := O3.out.2.size
        have h2 := O4.out.2.2.2.size
        have h3 := O5.out.1
        omega)⟩
      clear hown6 hg6
      go_wp2_with fail
      refine (model_c ca cc cms pa pc ps w6 (HC.out.1.kept O6.out.2) HC.out.2 (psAt_of (HP.out.1.kept O6.out.2) HF.out.2.2.2) (by omega) HF.out.1).mono ?_
      rintro e7 w7 ⟨v7, rfl, hown7, hg7⟩
      rw [HA.out] at hown7
      obtain ⟨ta, tc, rfl, hm7⟩ := hown7.slice
      have hm6 : MsAt w7 ua al := by
        obtain ⟨a, c, e, hm⟩ := O6.out.1.slice
        cases e
        exact hm.kept hg7
      have O7 : Hid (MsAt w7 ta al ∧ MsAt w7 ua al ∧ w1.grownBy w7 none ∧ al.length ≤ 1048576) := ⟨hm7, hm6, grown_trans O6.out.2 hg7, by
        have h1 := addrs_length (ps.map (·.ms)) cms
        have h2 := HF.out.1
        unfold sumL at h2
        rw [List.map_map, HA.out] at h1
        exact Nat.le_trans h1 h2⟩
      clear hown7 hg7 hm7 hm6
      go_wp2_with fail
      refine (sameConfig_c ua ta uc tc al w7 O7.out.2.2.2 O7.out.2.1 O7.out.1).mono ?_
      rintro e8 w8 ⟨rfl, hg8⟩
      have O8 : Hid (w1.grownBy w8 none) := grown_trans O7.out.2.2.1 hg8
      clear hg8
      go_wp2
      go_ret
      exact ⟨rfl, O8.out⟩
end Go.Proofs.Qxb6615757a
