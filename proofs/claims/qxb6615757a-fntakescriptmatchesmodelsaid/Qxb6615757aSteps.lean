/-
  THE STEPS in memory; the walks of zzBytes_FnTakeScriptMatchesModel and zzTakeScriptFits.
-/
import Derived.Test.Qxb6615757aBytes
namespace Go.Proofs.Qxb6615757a
open Go.RowKit

structure St where
  cl : ByteArray
  seq : Int
  tm : Int
  ent : Int
  cfg : Sl
  drop : Int
  last : Int
/-- Element i of a slice of steps that lies at a. -/
def StAt (w : World) (a : Option Addr) (i : Nat) (s : St) : Prop :=
  ∃ b off, a = some ⟨b, off, none⟩ ∧ w.cell? ⟨b, off + i * 7, none⟩ = some (.string s.cl) ∧ w.cell? ⟨b, off + i * 7 + 1, none⟩ = some (.int .u64 s.seq) ∧ w.cell? ⟨b, off + i * 7 + 2, none⟩ = some (.int .i64 s.tm) ∧ w.cell? ⟨b, off + i * 7 + 3, none⟩ = some (.int .i64 s.ent) ∧
    w.cell? ⟨b, off + i * 7 + 4, none⟩ = some (.slice s.cfg.a s.cfg.ms.length s.cfg.cap) ∧ w.cell? ⟨b, off + i * 7 + 5, none⟩ = some (.int .u64 s.drop) ∧ w.cell? ⟨b, off + i * 7 + 6, none⟩ = some (.int .u64 s.last)
def StR (w : World) (s : St) : Prop := SlR w s.cfg ∧ s.cl.size ≤ maxLen ∧ s.tm ≤ 9223372036854775807 ∧ 0 ≤ s.drop ∧ 0 ≤ s.last ∧ s.last ≤ 18446744073709551615
def SsR (w : World) (a : Option Addr) (ss : List St) : Prop := ∀ i s, ss[i]? = some s → StAt w a i s ∧ StR w s
theorem StAt.kept {w w' : World} {a : Option Addr} {i : Nat} {s : St} (h : StAt w a i s) (g : w.grownBy w' none) : StAt w' a i s := by
  obtain ⟨b, off, e, c0, c1, c2, c3, c4, c5, c6⟩ := h
  exact ⟨b, off, e, g.cell c0 (by simp), g.cell c1 (by simp), g.cell c2 (by simp), g.cell c3 (by simp), g.cell c4 (by simp), g.cell c5 (by simp), g.cell c6 (by simp)⟩
theorem StR.kept {w w' : World} {s : St} (h : StR w s) (g : w.grownBy w' none) : StR w' s := ⟨⟨h.1.1.kept g, h.1.2⟩, h.2⟩
theorem SsR.kept {w w' : World} {a : Option Addr} {ss : List St} (h : SsR w a ss) (g : w.grownBy w' none) : SsR w' a ss := fun i s hi => ⟨(h i s hi).1.kept g, (h i s hi).2.kept g⟩
def SFit (ss : List St) : Prop := ∀ s ∈ ss, s.cl.size ≤ 1048576 ∧ s.cfg.ms.length ≤ 1048576 ∧ MsFit s.cfg.ms
theorem SFit.step {ss : List St} {k : Nat} {s : St} (h : SFit (ss.take k)) (hs : ss[k]? = some s) (h0 : s.cl.size ≤ 1048576) (h1 : s.cfg.ms.length ≤ 1048576) (h2 : MsFit s.cfg.ms) : SFit (ss.take (k + 1)) := by
  intro x hx
  rw [List.take_add_one, hs] at hx
  rcases List.mem_append.1 hx with hx | hx
  · exact h x hx
  · simp at hx; subst hx; exact ⟨h0, h1, h2⟩
def Fit7 (cms : List Mem) (ss : List St) : Prop := cms.length ≤ 1048576 ∧ MsFit cms ∧ ss.length ≤ 1048576 ∧ SFit ss

set_option maxRecDepth 100000 in
set_option maxHeartbeats 4000000 in
theorem bytes7_c (ca : Option Addr) (cc : Nat) (cms : List Mem) (fi : Int) (pa : Option Addr) (pc : Nat) (ss : List St) (w : World) (hc : MsAt w ca cms) (hcl : cms.length ≤ maxLen) (hcs : ∀ m ∈ cms, m.2.size ≤ maxLen) (hp : SsR w pa ss) (hpl : ss.length ≤ maxLen) :
    Calls Try.prog 7 #[.slice ca cms.length cc, .int .u64 fi, .slice pa ss.length pc] w (Ans (Fit7 cms ss) w) := by
  have HC : Hid (MsAt w ca cms ∧ ∀ m ∈ cms, m.2.size ≤ maxLen) := ⟨hc, hcs⟩
  have HP : Hid (SsR w pa ss) := hp
  have hcl2 : (cms.length : Int) ≤ 9223372036854775807 := by have : maxLen = 9223372036854775807 := rfl; omega
  have hpl2 : (ss.length : Int) ≤ 9223372036854775807 := by have : maxLen = 9223372036854775807 := rfl; omega
  clear hc hcs hp hcl hpl
  by_cases hbig : (1048576 : Int) < cms.length
  · go_enter Try.func7, Try.ntmps7
    go_wp2
    go_ret
    exact ⟨_, rfl, rfl, by simp⟩
  go_enter Try.func7, Try.ntmps7
  go_wp2_with fail
  go_loopg [7, 8] cms.length (fun gg z i wr => ∃ (k : Nat) (t : Int), k ≤ cms.length ∧ gg = cms.length - k ∧ i = .int .i64 k ∧ z = .int .i64 t ∧ 0 ≤ t ∧ t ≤ 1048576 ∧ MsFit (cms.take k) ∧ wr = w)
  case atStart => exact ⟨0, _, Nat.zero_le _, rfl, rfl, rfl, by omega, by omega, fun m hm => by simp at hm, rfl⟩
  case round =>
    obtain ⟨k, t, hk, hgg, rfl, rfl, ht0, ht1, hfit, hwr⟩ := hrel
    subst hwr
    have MD : Hid (MsFit (cms.take k) ∧ gk = cms.length - k) := ⟨hfit, hgg⟩
    clear hfit hgg
    by_cases hlt : k < cms.length
    · obtain ⟨m, hm⟩ : ∃ m, cms[k]? = some m := ⟨cms[k], List.getElem?_eq_getElem hlt⟩
      have HM : Hid (cms[k]? = some m) := hm
      obtain ⟨b, off, ea, c0, c1⟩ := HC.out.1 k m hm
      have hsz : (m.2.size : Int) ≤ 9223372036854775807 := by have h := HC.out.2 m (List.mem_of_getElem? hm); have : maxLen = 9223372036854775807 := rfl; omega
      have hsz0 : (0 : Int) ≤ (m.2.size : Int) := by omega
      subst ea
      clear hm
      by_cases hb : (1048576 : Int) < m.2.size
      · go_wp2
        go_ret
        exact ⟨_, rfl, rfl, by simp⟩
      by_cases hb2 : (1048576 : Int) < t + m.2.size
      · go_wp2
        go_ret
        exact ⟨_, rfl, rfl, by simp⟩
      go_wp2_with fail
      go_roundg (cms.length - (k + 1))
      case measure => have := MD.out.2; omega
      case rel => exact ⟨k + 1, _, by omega, rfl, by go_num, rfl, by omega, by omega, MD.out.1.step HM.out (by omega), rfl⟩
    · have HF : Hid (MsFit cms) := by have h := MD.out.1; rw [List.take_of_length_le (by omega)] at h; exact h
      by_cases hb : (1048576 : Int) < ss.length
      · go_wp2
        go_ret
        exact ⟨_, rfl, rfl, by simp⟩
      by_cases hb2 : (1048576 : Int) < t + ss.length
      · go_wp2
        go_ret
        exact ⟨_, rfl, rfl, by simp⟩
      go_wp2_with fail
      go_loopg [7, 9] ss.length (fun gg z i wr' => ∃ (q : Nat) (t : Int), q ≤ ss.length ∧ gg = ss.length - q ∧ i = .int .i64 q ∧ z = .int .i64 t ∧ 0 ≤ t ∧ t ≤ 1048576 ∧ SFit (ss.take q) ∧ wr' = wr)
      case atStart => exact ⟨0, _, Nat.zero_le _, rfl, rfl, rfl, by omega, by omega, fun m hm => by simp at hm, rfl⟩
      case round =>
        obtain ⟨q, t, hq, hgg, rfl, rfl, ht0, ht1, hfit, hwr⟩ := hrel
        subst hwr
        have MD2 : Hid (SFit (ss.take q) ∧ gk = ss.length - q) := ⟨hfit, hgg⟩
        clear hfit hgg
        by_cases hlt : q < ss.length
        · obtain ⟨s, hs⟩ : ∃ s, ss[q]? = some s := ⟨ss[q], List.getElem?_eq_getElem hlt⟩
          have HS : Hid (ss[q]? = some s ∧ StR wr s) := ⟨hs, (HP.out q s hs).2⟩
          obtain ⟨b, off, ea, c0, c1, c2, c3, c4, c5, c6⟩ := (HP.out q s hs).1
          have hsl : (s.cfg.ms.length : Int) ≤ 9223372036854775807 := by have h := HS.out.2.1.2.2.1; have : maxLen = 9223372036854775807 := rfl; omega
          have hcz : (s.cl.size : Int) ≤ 9223372036854775807 := by have h := HS.out.2.2.1; have : maxLen = 9223372036854775807 := rfl; omega
          have hcz0 : (0 : Int) ≤ (s.cl.size : Int) := by omega
          subst ea
          clear hs c1 c2 c3 c5 c6
          by_cases hb : (1048576 : Int) < s.cl.size
          · go_wp2
            go_ret
            exact ⟨_, rfl, rfl, by simp⟩
          by_cases hb2 : (1048576 : Int) < t + s.cl.size
          · go_wp2
            go_ret
            exact ⟨_, rfl, rfl, by simp⟩
          by_cases hb3 : (1048576 : Int) < s.cfg.ms.length
          · go_wp2
            go_ret
            exact ⟨_, rfl, rfl, by simp⟩
          by_cases hb4 : (1048576 : Int) < t + s.cl.size + s.cfg.ms.length
          · go_wp2
            go_ret
            exact ⟨_, rfl, rfl, by simp⟩
          go_wp2_with fail
          go_loopg [7, 10] s.cfg.ms.length (fun gg z i wr' => ∃ (j : Nat) (t' : Int), j ≤ s.cfg.ms.length ∧ gg = s.cfg.ms.length - j ∧ i = .int .i64 j ∧ z = .int .i64 t' ∧ 0 ≤ t' ∧ t' ≤ 1048576 ∧ MsFit (s.cfg.ms.take j) ∧ wr' = wr)
          case atStart => exact ⟨0, _, Nat.zero_le _, rfl, rfl, rfl, by omega, by omega, fun m hm => by simp at hm, rfl⟩
          case round =>
            obtain ⟨j, t', hj, hgg, rfl, rfl, hu0, hu1, hfit, hwr⟩ := hrel
            subst hwr
            have MD3 : Hid (MsFit (s.cfg.ms.take j) ∧ gk = s.cfg.ms.length - j) := ⟨hfit, hgg⟩
            clear hfit hgg
            by_cases hlt : j < s.cfg.ms.length
            · obtain ⟨m, hm⟩ : ∃ m, s.cfg.ms[j]? = some m := ⟨s.cfg.ms[j], List.getElem?_eq_getElem hlt⟩
              have HM : Hid (s.cfg.ms[j]? = some m) := hm
              obtain ⟨b', off', ea, c0', c1'⟩ := HS.out.2.1.1 j m hm
              have hsz : (m.2.size : Int) ≤ 9223372036854775807 := by have h := HS.out.2.1.2.2.2 m (List.mem_of_getElem? hm); have : maxLen = 9223372036854775807 := rfl; omega
              have hsz0 : (0 : Int) ≤ (m.2.size : Int) := by omega
              rw [ea] at c4
              clear hm
              by_cases hb : (1048576 : Int) < m.2.size
              · go_wp2
                go_ret
                exact ⟨_, rfl, rfl, by simp⟩
              by_cases hb2 : (1048576 : Int) < t' + m.2.size
              · go_wp2
                go_ret
                exact ⟨_, rfl, rfl, by simp⟩
              clear ea
              go_wp2_with fail
              go_roundg (s.cfg.ms.length - (j + 1))
              case measure => have := MD3.out.2; omega
              case rel => exact ⟨j + 1, _, by omega, rfl, by go_num, rfl, by omega, by omega, MD3.out.1.step HM.out (by omega), rfl⟩
            · have HF2 : Hid (MsFit s.cfg.ms) := by have h := MD3.out.1; rw [List.take_of_length_le (by omega)] at h; exact h
              go_wp2_with fail
              go_roundg (ss.length - (q + 1))
              case measure => have := MD2.out.2; omega
              case rel => exact ⟨q + 1, _, by omega, rfl, by go_num, rfl, by omega, by omega, MD2.out.1.step HS.out.1 (by omega) (by omega) HF2.out, rfl⟩
        · have HF2 : Hid (Fit7 cms ss) := by
            have h := MD2.out.1
            rw [List.take_of_length_le (by omega)] at h
            exact ⟨by omega, HF.out, by omega, h⟩
          go_wp2
          go_ret
          exact ⟨_, rfl, rfl, fun _ => HF2.out⟩

def Fit8 (ss : List St) : Prop := ∀ s ∈ ss, ¬ s.last = 18446744073709551615
theorem Fit8.step {ss : List St} {k : Nat} {s : St} (h : Fit8 (ss.take k)) (hs : ss[k]? = some s) (h0 : ¬ s.last = 18446744073709551615) : Fit8 (ss.take (k + 1)) := by
  intro x hx
  rw [List.take_add_one, hs] at hx
  rcases List.mem_append.1 hx with hx | hx
  · exact h x hx
  · simp at hx; subst hx; exact h0

set_option maxRecDepth 100000 in
set_option maxHeartbeats 4000000 in
theorem fits8_c (ca : Option Addr) (cc : Nat) (cms : List Mem) (fi : Int) (pa : Option Addr) (pc : Nat) (ss : List St) (w : World) (hc : MsAt w ca cms) (hp : SsR w pa ss) (hf : Fit7 cms ss) :
    Calls Try.prog 8 #[.slice ca cms.length cc, .int .u64 fi, .slice pa ss.length pc] w (Ans (Fit8 ss) w) := by
  have HC : Hid (MsAt w ca cms) := hc
  have HP : Hid (SsR w pa ss) := hp
  have HF : Hid (Fit7 cms ss) := hf
  have hcl2 : (cms.length : Int) ≤ 1048576 := by have := hf.1; omega
  have hpl2 : (ss.length : Int) ≤ 1048576 := by have := hf.2.2.1; omega
  clear hc hp hf
  by_cases hb1 : (4096 : Int) < cms.length
  · go_enter Try.func8, Try.ntmps8
    go_wp2
    go_ret
    exact ⟨_, rfl, rfl, by simp⟩
  by_cases hb2 : (4096 : Int) < ss.length
  · go_enter Try.func8, Try.ntmps8
    go_wp2
    go_ret
    exact ⟨_, rfl, rfl, by simp⟩
  go_enter Try.func8, Try.ntmps8
  go_wp2_with fail
  refine (membersBytes_c ca cc cms 0 w (by omega) HC.out HF.out.2.1 (by omega) (by omega)).mono ?_
  rintro e1 w1 ⟨rfl, rfl⟩
  have hmb := mb_le cms HF.out.2.1 0 (by omega) (by omega)
  generalize mb cms 0 = tt at *
  by_cases hb3 : (1048576 : Int) < tt
  · go_wp2
    go_ret
    exact ⟨_, rfl, rfl, by simp⟩
  go_wp2_with fail
  go_loopg [7, 8] ss.length (fun gg t i wr => ∃ (k : Nat) (t' : Int), k ≤ ss.length ∧ gg = ss.length - k ∧ i = .int .i64 k ∧ t = .int .i64 t' ∧ 0 ≤ t' ∧ t' ≤ 1048576 ∧ wr = w1)
  case atStart => exact ⟨0, _, Nat.zero_le _, rfl, rfl, rfl, by omega, by omega, rfl⟩
  case round =>
    obtain ⟨k, t', hk, hgg, rfl, rfl, ht0, ht1, hwr⟩ := hrel
    subst hwr
    have MD : Hid (gk = ss.length - k) := hgg
    clear hgg
    by_cases hlt : k < ss.length
    · obtain ⟨s, hs⟩ : ∃ s, ss[k]? = some s := ⟨ss[k], List.getElem?_eq_getElem hlt⟩
      have HS : Hid (ss[k]? = some s ∧ StR wr s ∧ s.cl.size ≤ 1048576 ∧ s.cfg.ms.length ≤ 1048576 ∧ MsFit s.cfg.ms) := ⟨hs, (HP.out k s hs).2, HF.out.2.2.2 s (List.mem_of_getElem? hs)⟩
      obtain ⟨b, off, ea, c0, c1, c2, c3, c4, c5, c6⟩ := (HP.out k s hs).1
      have hsl : (s.cfg.ms.length : Int) ≤ 1048576 := by have := HS.out.2.2.2.1; omega
      have hcz : (s.cl.size : Int) ≤ 1048576 := by have := HS.out.2.2.1; omega
      have hcz0 : (0 : Int) ≤ (s.cl.size : Int) := by omega
      subst ea
      clear hs c1 c2 c3 c5 c6
      by_cases hb4 : (4096 : Int) < s.cfg.ms.length
      · go_wp2
        go_ret
        exact ⟨_, rfl, rfl, by simp⟩
      by_cases hb5 : (1048576 : Int) < t' + 64 + s.cl.size
      · go_wp2
        go_ret
        exact ⟨_, rfl, rfl, by simp⟩
      go_wp2_with fail
      refine (membersBytes_c s.cfg.a s.cfg.cap s.cfg.ms (t' + 64 + s.cl.size) wr HS.out.2.2.2.1 HS.out.2.1.1.1 HS.out.2.2.2.2 (by omega) (by omega)).mono ?_
      rintro e2 w2 ⟨rfl, rfl⟩
      have hmb2 := mb_le s.cfg.ms HS.out.2.2.2.2 (t' + 64 + s.cl.size) (by omega) (by omega)
      generalize mb s.cfg.ms (t' + 64 + s.cl.size) = t2 at *
      by_cases hb6 : (1048576 : Int) < t2
      · go_wp2
        go_ret
        exact ⟨_, rfl, rfl, by simp⟩
      go_wp2_with fail
      go_roundg (ss.length - (k + 1))
      case measure => have := MD.out; omega
      case rel => exact ⟨k + 1, _, by omega, rfl, by go_num, rfl, by omega, by omega, rfl⟩
    · by_cases hfi : fi = 0
      · subst hfi
        go_wp2
        go_ret
        exact ⟨_, rfl, rfl, by simp⟩
      have hfi1 : (fi == 0) = false := by simpa using hfi
      go_wp2_with fail
      go_loopg [9] ss.length (fun gg i wx => ∃ (q : Nat), q ≤ ss.length ∧ gg = ss.length - q ∧ i = .int .i64 q ∧ Fit8 (ss.take q) ∧ wx = wr)
      case atStart => exact ⟨0, Nat.zero_le _, rfl, rfl, fun m hm => by simp at hm, rfl⟩
      case round =>
        obtain ⟨q, hq, hgg, rfl, hfit, hwr⟩ := hrel
        subst hwr
        have MD2 : Hid (Fit8 (ss.take q) ∧ gk = ss.length - q) := ⟨hfit, hgg⟩
        clear hfit hgg
        by_cases hlt2 : q < ss.length
        · obtain ⟨s, hs⟩ : ∃ s, ss[q]? = some s := ⟨ss[q], List.getElem?_eq_getElem hlt2⟩
          have HS : Hid (ss[q]? = some s) := hs
          obtain ⟨b, off, ea, c0, c1, c2, c3, c4, c5, c6⟩ := (HP.out q s hs).1
          subst ea
          clear hs c0 c1 c2 c3 c4 c5
          by_cases hle : s.last = 18446744073709551615
          · have hle1 : (s.last == 18446744073709551615) = true := by simpa using hle
            clear hle
            go_wp2
            go_ret
            exact ⟨_, rfl, rfl, by simp⟩
          · have HLE : Hid (¬ s.last = 18446744073709551615) := hle
            have hle1 : (s.last == 18446744073709551615) = false := by simpa using hle
            clear hle
            go_wp2_with fail
            go_roundg (ss.length - (q + 1))
            case measure => have := MD2.out.2; omega
            case rel => exact ⟨q + 1, by omega, rfl, by go_num, MD2.out.1.step HS.out HLE.out, rfl⟩
        · have HX : Hid (Fit8 ss) := by have h := MD2.out.1; rw [List.take_of_length_le (by omega)] at h; exact h
          go_wp2
          go_ret
          exact ⟨_, rfl, rfl, fun _ => HX.out⟩
end Go.Proofs.Qxb6615757a
