/-
  The walks of zzBytes_FnAddressesFirstOfEachID and zzBytes_FnAddressesOwnAnswerAndLookups.
-/
import Derived.Test.Qxb6615757aPend
namespace Go.Proofs.Qxb6615757a
open Go.RowKit

/-- member lists as they are handed in: nothing is known of their sizes but what a slice bears -/
def SlR (w : World) (s : Sl) : Prop := MsAt w s.a s.ms ∧ (s.a = none → s.ms = []) ∧ s.ms.length ≤ maxLen ∧ ∀ m ∈ s.ms, m.2.size ≤ maxLen
def PsR (w : World) (a : Option Addr) (ps : List Sl) : Prop := ∀ i s, ps[i]? = some s → PAt w a i s ∧ SlR w s
/-- a bool came back, nothing turned, and true says P -/
def Ans (P : Prop) (w : World) (e : Ending) (w' : World) : Prop := ∃ bb, e = .returned (.bool bb) ∧ w' = w ∧ (bb = true → P)
def sumL (ps : List Sl) : Nat := (ps.map (·.ms.length)).sum
def MsFit (ms : List Mem) : Prop := ∀ m ∈ ms, m.2.size ≤ 1048576
/-- what the bytes' bound gives -/
def Fit (cms : List Mem) (ps : List Sl) : Prop := cms.length + sumL ps ≤ 1048576 ∧ ps.length ≤ 1048576 ∧ MsFit cms ∧ ∀ s ∈ ps, s.ms.length ≤ 1048576 ∧ MsFit s.ms
theorem MsFit.step {ms : List Mem} {k : Nat} {m : Mem} (h : MsFit (ms.take k)) (hm : ms[k]? = some m) (hs : m.2.size ≤ 1048576) : MsFit (ms.take (k + 1)) := by
  intro x hx
  rw [List.take_add_one, hm] at hx
  rcases List.mem_append.1 hx with hx | hx
  · exact h x hx
  · simp at hx; subst hx; exact hs
theorem sumL_take {ps : List Sl} {k : Nat} {s : Sl} (hs : ps[k]? = some s) : sumL (ps.take (k + 1)) = sumL (ps.take k) + s.ms.length := by
  unfold sumL
  rw [List.take_add_one, hs]
  simp
def PFit (ps : List Sl) : Prop := ∀ s ∈ ps, s.ms.length ≤ 1048576 ∧ MsFit s.ms
theorem PFit.step {ps : List Sl} {k : Nat} {s : Sl} (h : PFit (ps.take k)) (hs : ps[k]? = some s) (h1 : s.ms.length ≤ 1048576) (h2 : MsFit s.ms) : PFit (ps.take (k + 1)) := by
  intro x hx
  rw [List.take_add_one, hs] at hx
  rcases List.mem_append.1 hx with hx | hx
  · exact h x hx
  · simp at hx; subst hx; exact ⟨h1, h2⟩

set_option maxRecDepth 100000 in
set_option maxHeartbeats 2000000 in
theorem bytes20_c (ca : Option Addr) (cc : Nat) (cms : List Mem) (pa : Option Addr) (pc : Nat) (ps : List Sl) (w : World) (hc : MsAt w ca cms) (hcl : cms.length ≤ maxLen) (hcs : ∀ m ∈ cms, m.2.size ≤ maxLen) (hp : PsR w pa ps) (hpl : ps.length ≤ maxLen) :
    Calls Try.prog 20 #[.slice ca cms.length cc, .slice pa ps.length pc] w (Ans (Fit cms ps) w) := by
  have HC : Hid (MsAt w ca cms ∧ ∀ m ∈ cms, m.2.size ≤ maxLen) := ⟨hc, hcs⟩
  have HP : Hid (PsR w pa ps) := hp
  have hcl2 : (cms.length : Int) ≤ 9223372036854775807 := by have : maxLen = 9223372036854775807 := rfl; omega
  have hpl2 : (ps.length : Int) ≤ 9223372036854775807 := by have : maxLen = 9223372036854775807 := rfl; omega
  clear hc hcs hp hcl hpl
  by_cases hbig : (1048576 : Int) < cms.length
  · go_enter Try.func20, Try.ntmps20
    go_wp2
    go_ret
    exact ⟨_, rfl, rfl, by simp⟩
  go_enter Try.func20, Try.ntmps20
  go_wp2_with fail
  go_loopg [5, 6] cms.length (fun gg z i wr => ∃ (k : Nat) (t : Int), k ≤ cms.length ∧ gg = cms.length - k ∧ i = .int .i64 k ∧ z = .int .i64 t ∧ (cms.length : Int) ≤ t ∧ t ≤ 1048576 ∧ MsFit (cms.take k) ∧ wr = w)
  case atStart => exact ⟨0, _, Nat.zero_le _, rfl, rfl, rfl, by omega, by omega, fun m hm => by simp at hm, rfl⟩
  case round =>
    obtain ⟨k, t, hk, hgg, rfl, rfl, ht0, ht1, hfit, hwr⟩ := hrel
    subst hwr
    have MD : Hid (MsFit (cms.take k) ∧ gk = cms.length - k) := ⟨hfit, hgg⟩
    clear hfit hgg
    by_cases hlt : k < cms.length
    · obtain ⟨m, hm⟩ : ∃ m, cms[k]? = some m := ⟨cms[k], List.getElem?_eq_getElem hlt⟩
      have HM : Hid (cms[k]? = some m) := hm
      obtain ⟨b, off, ea, c0, c1⟩ := HC.out.1 k m hm
      have hsz : (m.2.size : Int) ≤ 9223372036854775807 := by have h := HC.out.2 m (List.mem_of_getElem? hm); have : maxLen = 9223372036854775807 := rfl; omega
      have hsz0 : (0 : Int) ≤ (m.2.size : Int) := by omega
      subst ea
      clear hm
      by_cases hb : (1048576 : Int) < m.2.size
      · go_wp2
        go_ret
        exact ⟨_, rfl, rfl, by simp⟩
      by_cases hb2 : (1048576 : Int) < t + m.2.size
      · go_wp2
        go_ret
        exact ⟨_, rfl, rfl, by simp⟩
      go_wp2_with fail
      go_roundg (cms.length - (k + 1))
      case measure => have := MD.out.2; omega
      case rel => exact ⟨k + 1, _, by omega, rfl, by go_num, rfl, by omega, by omega, MD.out.1.step HM.out (by omega), rfl⟩
    · have HF : Hid (MsFit cms) := by have h := MD.out.1; rw [List.take_of_length_le (by omega)] at h; exact h
      by_cases hb : (1048576 : Int) < ps.length
      · go_wp2
        go_ret
        exact ⟨_, rfl, rfl, by simp⟩
      by_cases hb2 : (1048576 : Int) < t + ps.length
      · go_wp2
        go_ret
        exact ⟨_, rfl, rfl, by simp⟩
      go_wp2_with fail
      go_loopg [5, 7] ps.length (fun gg z i wr' => ∃ (q : Nat) (t : Int), q ≤ ps.length ∧ gg = ps.length - q ∧ i = .int .i64 q ∧ z = .int .i64 t ∧ (cms.length : Int) + sumL (ps.take q) ≤ t ∧ t ≤ 1048576 ∧ PFit (ps.take q) ∧ wr' = wr)
      case atStart => exact ⟨0, _, Nat.zero_le _, rfl, rfl, rfl, by simp [sumL]; omega, by omega, fun m hm => by simp at hm, rfl⟩
      case round =>
        obtain ⟨q, t, hq, hgg, rfl, rfl, ht0, ht1, hfit, hwr⟩ := hrel
        subst hwr
        have MD2 : Hid (PFit (ps.take q) ∧ gk = ps.length - q ∧ (cms.length : Int) + sumL (ps.take q) ≤ t) := ⟨hfit, hgg, ht0⟩
        have ht00 : 0 ≤ t := by omega
        clear hfit hgg ht0
        by_cases hlt : q < ps.length
        · obtain ⟨s, hs⟩ : ∃ s, ps[q]? = some s := ⟨ps[q], List.getElem?_eq_getElem hlt⟩
          have HS : Hid (ps[q]? = some s ∧ SlR wr s) := ⟨hs, (HP.out q s hs).2⟩
          obtain ⟨b, off, ea, c0v⟩ := (HP.out q s hs).1
          have c0 : wr.cell? ⟨b, off + q, none⟩ = some (.slice s.a s.ms.length s.cap) := c0v
          clear c0v
          have hsl : (s.ms.length : Int) ≤ 9223372036854775807 := by have h := HS.out.2.2.2.1; have : maxLen = 9223372036854775807 := rfl; omega
          subst ea
          clear hs
          by_cases hb : (1048576 : Int) < s.ms.length
          · go_wp2
            go_ret
            exact ⟨_, rfl, rfl, by simp⟩
          by_cases hb2 : (1048576 : Int) < t + s.ms.length
          · go_wp2
            go_ret
            exact ⟨_, rfl, rfl, by simp⟩
          go_wp2_with fail
          go_loopg [5, 8] s.ms.length (fun gg z i wr' => ∃ (j : Nat) (t' : Int), j ≤ s.ms.length ∧ gg = s.ms.length - j ∧ i = .int .i64 j ∧ z = .int .i64 t' ∧ t + s.ms.length ≤ t' ∧ t' ≤ 1048576 ∧ MsFit (s.ms.take j) ∧ wr' = wr)
          case atStart => exact ⟨0, _, Nat.zero_le _, rfl, rfl, rfl, by omega, by omega, fun m hm => by simp at hm, rfl⟩
          case round =>
            obtain ⟨j, t', hj, hgg, rfl, rfl, hu0, hu1, hfit, hwr⟩ := hrel
            subst hwr
            have MD3 : Hid (MsFit (s.ms.take j) ∧ gk = s.ms.length - j) := ⟨hfit, hgg⟩
            clear hfit hgg
            by_cases hlt : j < s.ms.length
            · obtain ⟨m, hm⟩ : ∃ m, s.ms[j]? = some m := ⟨s.ms[j], List.getElem?_eq_getElem hlt⟩
              have HM : Hid (s.ms[j]? = some m) := hm
              obtain ⟨b', off', ea, c0', c1'⟩ := HS.out.2.1 j m hm
              have hsz : (m.2.size : Int) ≤ 9223372036854775807 := by have h := HS.out.2.2.2.2 m (List.mem_of_getElem? hm); have : maxLen = 9223372036854775807 := rfl; omega
              have hsz0 : (0 : Int) ≤ (m.2.size : Int) := by omega
              rw [ea] at c0
              clear hm
              by_cases hb : (1048576 : Int) < m.2.size
              · go_wp2
                go_ret
                exact ⟨_, rfl, rfl, by simp⟩
              by_cases hb2 : (1048576 : Int) < t' + m.2.size
              · go_wp2
                go_ret
                exact ⟨_, rfl, rfl, by simp⟩
              clear ea
              go_wp2_with fail
              go_roundg (s.ms.length - (j + 1))
              case measure => have := MD3.out.2; omega
              case rel => exact ⟨j + 1, _, by omega, rfl, by go_num, rfl, by omega, by omega, MD3.out.1.step HM.out (by omega), rfl⟩
            · have HF2 : Hid (MsFit s.ms) := by have h := MD3.out.1; rw [List.take_of_length_le (by omega)] at h; exact h
              go_wp2_with fail
              go_roundg (ps.length - (q + 1))
              case measure => have := MD2.out.2.1; omega
              case rel =>
                refine ⟨q + 1, _, by omega, rfl, by go_num, rfl, ?_, by omega, MD2.out.1.step HS.out.1 (by omega) HF2.out, rfl⟩
                have h := MD2.out.2.2
                rw [sumL_take HS.out.1]
                omega
        · have HF2 : Hid (Fit cms ps) := by
            have h := MD2.out.1
            have h2 := MD2.out.2.2
            rw [List.take_of_length_le (by omega)] at h h2
            exact ⟨by omega, by omega, HF.out, h⟩
          go_wp2
          go_ret
          exact ⟨_, rfl, rfl, fun _ => HF2.out⟩

set_option maxRecDepth 100000 in
set_option maxHeartbeats 2000000 in
theorem bytes26_c (ca : Option Addr) (cc : Nat) (cms : List Mem) (pa : Option Addr) (pc : Nat) (ps : List Sl) (pr : Int) (w : World) (hc : MsAt w ca cms) (hcl : cms.length ≤ maxLen) (hcs : ∀ m ∈ cms, m.2.size ≤ maxLen) (hp : PsR w pa ps) (hpl : ps.length ≤ maxLen) :
    Calls Try.prog 26 #[.slice ca cms.length cc, .slice pa ps.length pc, .int .i64 pr] w (Ans (Fit cms ps) w) := by
  have HC : Hid (MsAt w ca cms ∧ ∀ m ∈ cms, m.2.size ≤ maxLen) := ⟨hc, hcs⟩
  have HP : Hid (PsR w pa ps) := hp
  have hcl2 : (cms.length : Int) ≤ 9223372036854775807 := by have : maxLen = 9223372036854775807 := rfl; omega
  have hpl2 : (ps.length : Int) ≤ 9223372036854775807 := by have : maxLen = 9223372036854775807 := rfl; omega
  clear hc hcs hp hcl hpl
  by_cases hbig : (1048576 : Int) < cms.length
  · go_enter Try.func26, Try.ntmps26
    go_wp2
    go_ret
    exact ⟨_, rfl, rfl, by simp⟩
  go_enter Try.func26, Try.ntmps26
  go_wp2_with fail
  go_loopg [7, 8] cms.length (fun gg z i wr => ∃ (k : Nat) (t : Int), k ≤ cms.length ∧ gg = cms.length - k ∧ i = .int .i64 k ∧ z = .int .i64 t ∧ (cms.length : Int) ≤ t ∧ t ≤ 1048576 ∧ MsFit (cms.take k) ∧ wr = w)
  case atStart => exact ⟨0, _, Nat.zero_le _, rfl, rfl, rfl, by omega, by omega, fun m hm => by simp at hm, rfl⟩
  case round =>
    obtain ⟨k, t, hk, hgg, rfl, rfl, ht0, ht1, hfit, hwr⟩ := hrel
    subst hwr
    have MD : Hid (MsFit (cms.take k) ∧ gk = cms.length - k) := ⟨hfit, hgg⟩
    clear hfit hgg
    by_cases hlt : k < cms.length
    · obtain ⟨m, hm⟩ : ∃ m, cms[k]? = some m := ⟨cms[k], List.getElem?_eq_getElem hlt⟩
      have HM : Hid (cms[k]? = some m) := hm
      obtain ⟨b, off, ea, c0, c1⟩ := HC.out.1 k m hm
      have hsz : (m.2.size : Int) ≤ 9223372036854775807 := by have h := HC.out.2 m (List.mem_of_getElem? hm); have : maxLen = 9223372036854775807 := rfl; omega
      have hsz0 : (0 : Int) ≤ (m.2.size : Int) := by omega
      subst ea
      clear hm
      by_cases hb : (1048576 : Int) < m.2.size
      · go_wp2
        go_ret
        exact ⟨_, rfl, rfl, by simp⟩
      by_cases hb2 : (1048576 : Int) < t + m.2.size
      · go_wp2
        go_ret
        exact ⟨_, rfl, rfl, by simp⟩
      go_wp2_with fail
      go_roundg (cms.length - (k + 1))
      case measure => have := MD.out.2; omega
      case rel => exact ⟨k + 1, _, by omega, rfl, by go_num, rfl, by omega, by omega, MD.out.1.step HM.out (by omega), rfl⟩
    · have HF : Hid (MsFit cms) := by have h := MD.out.1; rw [List.take_of_length_le (by omega)] at h; exact h
      by_cases hb : (1048576 : Int) < ps.length
      · go_wp2
        go_ret
        exact ⟨_, rfl, rfl, by simp⟩
      by_cases hb2 : (1048576 : Int) < t + ps.length
      · go_wp2
        go_ret
        exact ⟨_, rfl, rfl, by simp⟩
      go_wp2_with fail
      go_loopg [7, 9] ps.length (fun gg z i wr' => ∃ (q : Nat) (t : Int), q ≤ ps.length ∧ gg = ps.length - q ∧ i = .int .i64 q ∧ z = .int .i64 t ∧ (cms.length : Int) + sumL (ps.take q) ≤ t ∧ t ≤ 1048576 ∧ PFit (ps.take q) ∧ wr' = wr)
      case atStart => exact ⟨0, _, Nat.zero_le _, rfl, rfl, rfl, by simp [sumL]; omega, by omega, fun m hm => by simp at hm, rfl⟩
      case round =>
        obtain ⟨q, t, hq, hgg, rfl, rfl, ht0, ht1, hfit, hwr⟩ := hrel
        subst hwr
        have MD2 : Hid (PFit (ps.take q) ∧ gk = ps.length - q ∧ (cms.length : Int) + sumL (ps.take q) ≤ t) := ⟨hfit, hgg, ht0⟩
        have ht00 : 0 ≤ t := by omega
        clear hfit hgg ht0
        by_cases hlt : q < ps.length
        · obtain ⟨s, hs⟩ : ∃ s, ps[q]? = some s := ⟨ps[q], List.getElem?_eq_getElem hlt⟩
          have HS : Hid (ps[q]? = some s ∧ SlR wr s) := ⟨hs, (HP.out q s hs).2⟩
          obtain ⟨b, off, ea, c0v⟩ := (HP.out q s hs).1
          have c0 : wr.cell? ⟨b, off + q, none⟩ = some (.slice s.a s.ms.length s.cap) := c0v
          clear c0v
          have hsl : (s.ms.length : Int) ≤ 9223372036854775807 := by have h := HS.out.2.2.2.1; have : maxLen = 9223372036854775807 := rfl; omega
          subst ea
          clear hs
          by_cases hb : (1048576 : Int) < s.ms.length
          · go_wp2
            go_ret
            exact ⟨_, rfl, rfl, by simp⟩
          by_cases hb2 : (1048576 : Int) < t + s.ms.length
          · go_wp2
            go_ret
            exact ⟨_, rfl, rfl, by simp⟩
          go_wp2_with fail
          go_loopg [7, 10] s.ms.length (fun gg z i wr' => ∃ (j : Nat) (t' : Int), j ≤ s.ms.length ∧ gg = s.ms.length - j ∧ i = .int .i64 j ∧ z = .int .i64 t' ∧ t + s.ms.length ≤ t' ∧ t' ≤ 1048576 ∧ MsFit (s.ms.take j) ∧ wr' = wr)
          case atStart => exact ⟨0, _, Nat.zero_le _, rfl, rfl, rfl, by omega, by omega, fun m hm => by simp at hm, rfl⟩
          case round =>
            obtain ⟨j, t', hj, hgg, rfl, rfl, hu0, hu1, hfit, hwr⟩ := hrel
            subst hwr
            have MD3 : Hid (MsFit (s.ms.take j) ∧ gk = s.ms.length - j) := ⟨hfit, hgg⟩
            clear hfit hgg
            by_cases hlt : j < s.ms.length
            · obtain ⟨m, hm⟩ : ∃ m, s.ms[j]? = some m := ⟨s.ms[j], List.getElem?_eq_getElem hlt⟩
              have HM : Hid (s.ms[j]? = some m) := hm
              obtain ⟨b', off', ea, c0', c1'⟩ := HS.out.2.1 j m hm
              have hsz : (m.2.size : Int) ≤ 9223372036854775807 := by have h := HS.out.2.2.2.2 m (List.mem_of_getElem? hm); have : maxLen = 9223372036854775807 := rfl; omega
              have hsz0 : (0 : Int) ≤ (m.2.size : Int) := by omega
              rw [ea] at c0
              clear hm
              by_cases hb : (1048576 : Int) < m.2.size
              · go_wp2
                go_ret
                exact ⟨_, rfl, rfl, by simp⟩
              by_cases hb2 : (1048576 : Int) < t' + m.2.size
              · go_wp2
                go_ret
                exact ⟨_, rfl, rfl, by simp⟩
              clear ea
              go_wp2_with fail
              go_roundg (s.ms.length - (j + 1))
              case measure => have := MD3.out.2; omega
              case rel => exact ⟨j + 1, _, by omega, rfl, by go_num, rfl, by omega, by omega, MD3.out.1.step HM.out (by omega), rfl⟩
            · have HF2 : Hid (MsFit s.ms) := by have h := MD3.out.1; rw [List.take_of_length_le (by omega)] at h; exact h
              go_wp2_with fail
              go_roundg (ps.length - (q + 1))
              case measure => have := MD2.out.2.1; omega
              case rel =>
                refine ⟨q + 1, _, by omega, rfl, by go_num, rfl, ?_, by omega, MD2.out.1.step HS.out.1 (by omega) HF2.out, rfl⟩
                have h := MD2.out.2.2
                rw [sumL_take HS.out.1]
                omega
        · have HF2 : Hid (Fit cms ps) := by
            have h := MD2.out.1
            have h2 := MD2.out.2.2
            rw [List.take_of_length_le (by omega)] at h h2
            exact ⟨by omega, by omega, HF.out, h⟩
          go_wp2
          go_ret
          exact ⟨_, rfl, rfl, fun _ => HF2.out⟩
end Go.Proofs.Qxb6615757a
