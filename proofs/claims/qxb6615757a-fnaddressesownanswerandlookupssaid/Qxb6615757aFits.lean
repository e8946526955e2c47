/-
  The walk of zzPendingFits: some bool comes back, and nothing that was there has turned.
-/
import Derived.Test.Qxb6615757aBytes
namespace Go.Proofs.Qxb6615757a
open Go.RowKit

def BoolUp (w : World) (e : Ending) (w' : World) : Prop := ∃ bb, e = .returned (.bool bb) ∧ w.grownBy w' none

set_option maxRecDepth 100000 in
set_option maxHeartbeats 2000000 in
theorem pendingFits_c (ca : Option Addr) (cc : Nat) (cms : List Mem) (pa : Option Addr) (pc : Nat) (ps : List Sl) (w : World) (hc : MsAt w ca cms) (hp : PsR w pa ps) (hf : Fit cms ps) :
    Calls Try.prog 21 #[.slice ca cms.length cc, .slice pa ps.length pc] w (BoolUp w) := by
  have HC : Hid (MsAt w ca cms) := hc
  have HP : Hid (PsR w pa ps) := hp
  have HF : Hid (Fit cms ps) := hf
  have hcl2 : (cms.length : Int) ≤ 1048576 := by have := hf.1; omega
  have hpl2 : (ps.length : Int) ≤ 1048576 := by have := hf.2.1; omega
  clear hc hp hf
  by_cases hb1 : (4096 : Int) < cms.length
  · go_enter Try.func21, Try.ntmps21
    go_wp2
    go_ret
    exact ⟨_, rfl, grown_refl w⟩
  by_cases hb2 : (4096 : Int) < ps.length
  · go_enter Try.func21, Try.ntmps21
    go_wp2
    go_ret
    exact ⟨_, rfl, grown_refl w⟩
  go_enter Try.func21, Try.ntmps21
  go_wp2_with fail
  refine (membersBytes_c ca cc cms 0 w (by have := HF.out.1; omega) HC.out HF.out.2.2.1 (by omega) (by omega)).mono ?_
  rintro e1 w1 ⟨rfl, rfl⟩
  have hmb := mb_le cms HF.out.2.2.1 0 (by omega) (by omega)
  generalize mb cms 0 = tt at *
  by_cases hb3 : (1048576 : Int) < tt
  · go_wp2
    go_ret
    exact ⟨_, rfl, grown_refl _⟩
  go_wp2_with fail
  go_loopg [5, 6, 7] ps.length (fun gg t c i wr => ∃ (k : Nat) (t' c' : Int), k ≤ ps.length ∧ gg = ps.length - k ∧ i = .int .i64 k ∧ t = .int .i64 t' ∧ c = .int .i64 c' ∧ 0 ≤ t' ∧ t' ≤ 1048576 ∧ 0 ≤ c' ∧ c' ≤ 4096 ∧ wr = w1)
  case atStart => exact ⟨0, _, _, Nat.zero_le _, rfl, rfl, rfl, rfl, by omega, by omega, by omega, by omega, rfl⟩
  case round =>
    obtain ⟨k, t', c', hk, hgg, rfl, rfl, rfl, ht0, ht1, hc0, hc1, hwr⟩ := hrel
    subst hwr
    have MD : Hid (gk = ps.length - k) := hgg
    clear hgg
    by_cases hlt : k < ps.length
    · obtain ⟨s, hs⟩ : ∃ s, ps[k]? = some s := ⟨ps[k], List.getElem?_eq_getElem hlt⟩
      have HS : Hid (ps[k]? = some s ∧ SlR wr s ∧ s.ms.length ≤ 1048576 ∧ MsFit s.ms) := ⟨hs, (HP.out k s hs).2, HF.out.2.2.2 s (List.mem_of_getElem? hs)⟩
      obtain ⟨b, off, ea, c0v⟩ := (HP.out k s hs).1
      have c0 : wr.cell? ⟨b, off + k, none⟩ = some (.slice s.a s.ms.length s.cap) := c0v
      have hsl : (s.ms.length : Int) ≤ 1048576 := by have := HS.out.2.2.1; omega
      subst ea
      clear hs c0v
      by_cases hb4 : (4096 : Int) < c' + s.ms.length
      · go_wp2
        go_ret
        exact ⟨_, rfl, grown_refl _⟩
      go_wp2_with fail
      refine (membersBytes_c s.a s.cap s.ms (t' + 24) wr HS.out.2.2.1 HS.out.2.1.1 HS.out.2.2.2 (by omega) (by omega)).mono ?_
      rintro e2 w2 ⟨rfl, rfl⟩
      have hmb2 := mb_le s.ms HS.out.2.2.2 (t' + 24) (by omega) (by omega)
      generalize mb s.ms (t' + 24) = t2 at *
      by_cases hb5 : (1048576 : Int) < t2
      · go_wp2
        go_ret
        exact ⟨_, rfl, grown_refl _⟩
      go_wp2_with fail
      go_roundg (ps.length - (k + 1))
      case measure => have := MD.out; omega
      case rel => exact ⟨k + 1, _, _, by omega, rfl, by go_num, rfl, rfl, by omega, by omega, by omega, by omega, rfl⟩
    · go_wp2_with fail
      go_loopg [8] ps.length (fun gg i wx => ∃ (q : Nat), q ≤ ps.length ∧ gg = ps.length - q ∧ i = .int .i64 q ∧ wr.grownBy wx none)
      case atStart => exact ⟨0, Nat.zero_le _, rfl, rfl, grown_refl _⟩
      case round =>
        obtain ⟨q, hq, hgg, rfl, hgr⟩ := hrel
        have MD2 : Hid (gk = ps.length - q ∧ World.grownBy _ wr none) := ⟨hgg, hgr⟩
        by_cases hlt2 : q < ps.length
        · obtain ⟨s, hs⟩ : ∃ s, ps[q]? = some s := ⟨ps[q], List.getElem?_eq_getElem hlt2⟩
          have HS : Hid (ps[q]? = some s ∧ SlR _ s ∧ s.ms.length ≤ 1048576 ∧ MsFit s.ms) := ⟨hs, (HP.out q s hs).2, HF.out.2.2.2 s (List.mem_of_getElem? hs)⟩
          obtain ⟨b, off, ea, c0v⟩ := (HP.out q s hs).1.kept hgr
          have c0 : wr.cell? ⟨b, off + q, none⟩ = some (.slice s.a s.ms.length s.cap) := c0v
          have hsl : (s.ms.length : Int) ≤ 1048576 := by have := HS.out.2.2.1; omega
          have heq := eql22 wr s.a s.ms.length s.cap
          subst ea
          clear hs c0v hgg hgr
          cases hsa : s.a with
          | none =>
            rw [hsa] at c0 heq
            have heq : (binOp .eql 22 (.slice none s.ms.length s.cap) (.slice none 0 0)).run Try.prog wr = .ok (.bool true) wr := heq
            clear hsa
            go_wp2_with fail
            go_roundg (ps.length - (q + 1))
            case measure => have := MD2.out.1; omega
            case rel => exact ⟨q + 1, by omega, rfl, by go_num, MD2.out.2⟩
          | some ad =>
            rw [hsa] at c0 heq
            have heq : (binOp .eql 22 (.slice (some ad) s.ms.length s.cap) (.slice none 0 0)).run Try.prog wr = .ok (.bool false) wr := heq
            have HSA : Hid (s.a = some ad) := hsa
            clear hsa
            by_cases hz : s.ms.length = 0
            · rw [hz] at c0 heq
              clear hz
              go_wp2
              go_ret
              exact ⟨_, rfl, MD2.out.2⟩
            have hz1 : ((s.ms.length : Int) == 0) = false := beq_eq_false_iff_ne.2 (by omega)
            have hz2 : ¬ s.ms = [] := fun e => hz (by rw [e]; rfl)
            go_wp2_with fail
            clear heq c0 hz hz1 hz2
            go_loopg [10] s.ms.length (fun gg i wx => ∃ (j : Nat), j ≤ s.ms.length ∧ gg = s.ms.length - j ∧ i = .int .i64 j ∧ World.grownBy wr wx none)
            case atStart => exact ⟨0, Nat.zero_le _, rfl, rfl, grown_refl _⟩
            case round =>
              obtain ⟨j, hj, hgg, rfl, hgr⟩ := hrel
              have MD3 : Hid (gk = s.ms.length - j ∧ World.grownBy _ wr none) := ⟨hgg, grown_trans MD2.out.2 hgr⟩
              by_cases hlt3 : j < s.ms.length
              · obtain ⟨m, hm⟩ : ∃ m, s.ms[j]? = some m := ⟨s.ms[j], List.getElem?_eq_getElem hlt3⟩
                have hmm := ((HS.out.2.1.1) j m hm).kept MD3.out.2
                rw [HSA.out] at hmm
                obtain ⟨b', off', ea, d0, d1⟩ := hmm
                cases ea
                clear hgg hm d1
                by_cases hi1 : m.1 < 1
                · go_wp2
                  go_ret
                  exact ⟨_, rfl, MD3.out.2⟩
                by_cases hi2 : 255 < m.1
                · go_wp2
                  go_ret
                  exact ⟨_, rfl, MD3.out.2⟩
                by_cases hj0 : (0 : Int) < (j : Int)
                · obtain ⟨p, hp, hpl⟩ : ∃ p : Nat, (j : Int) - 1 = p ∧ p < s.ms.length := ⟨j - 1, by omega, by omega⟩
                  obtain ⟨m', hm'⟩ : ∃ m', s.ms[p]? = some m' := ⟨s.ms[p], List.getElem?_eq_getElem hpl⟩
                  have hmm := ((HS.out.2.1.1) p m' hm').kept MD3.out.2
                  rw [HSA.out] at hmm
                  obtain ⟨b2, off2, ea, d2, d3⟩ := hmm
                  cases ea
                  clear hm' d3
                  have hd1 : decide ((0 : Int) < (j : Int)) = true := decide_eq_true hj0
                  have hd2 : decide (0 < j) = true := decide_eq_true (by omega)
                  by_cases hle : m.1 ≤ m'.1
                  · have hd3 : decide (m.1 ≤ m'.1) = true := decide_eq_true hle
                    go_wp2_with fail
                    go_quiet (fail)
                    go_wp2
                    go_ret
                    exact ⟨_, rfl, grown_drewN MD3.out.2 _⟩
                  · have hd3 : decide (m.1 ≤ m'.1) = false := decide_eq_false hle
                    go_wp2_with fail
                    go_quiet (fail)
                    go_wp2_with fail
                    go_roundg (s.ms.length - (j + 1))
                    case measure => have := MD3.out.1; omega
                    case rel => exact ⟨j + 1, by omega, rfl, by go_num, grown_drewN hgr _⟩
                · have hd1 : decide ((0 : Int) < (j : Int)) = false := decide_eq_false hj0
                  have hd2 : decide (0 < j) = false := decide_eq_false (by omega)
                  go_wp2_with fail
                  go_quiet (fail)
                  go_wp2_with fail
                  go_roundg (s.ms.length - (j + 1))
                  case measure => have := MD3.out.1; omega
                  case rel => exact ⟨j + 1, by omega, rfl, by go_num, grown_drewN hgr _⟩
              · clear hgg hgr
                go_wp2_with fail
                go_roundg (ps.length - (q + 1))
                case measure => have := MD2.out.1; omega
                case rel => exact ⟨q + 1, by omega, rfl, by go_num, MD3.out.2⟩
        · clear hgg hgr
          go_wp2
          go_ret
          exact ⟨_, rfl, MD2.out.2⟩
end Go.Proofs.Qxb6615757a
