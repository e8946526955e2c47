/-
  The walks of zzSameConfig (of alike lists), zzMembersBytes.
-/
import Derived.Test.Qxb6615757aCfg3
import Derived.Deep.CutRange
import Derived.Deep.CutBlock
namespace Go.Proofs.Qxb6615757a
open Go.RowKit

set_option maxRecDepth 100000 in
set_option maxHeartbeats 1000000 in
theorem sameConfig_c (a1 a2 : Option Addr) (c1 c2 : Nat) (ms : List Mem) (w : World) (hl : ms.length ≤ 1048576) (h1 : MsAt w a1 ms) (h2 : MsAt w a2 ms) :
    Calls Try.prog 17 #[.slice a1 ms.length c1, .slice a2 ms.length c2] w fun e w' => e = .returned (.bool true) ∧ w.grownBy w' none := by
  have HS : Hid (MsAt w a1 ms ∧ MsAt w a2 ms) := ⟨h1, h2⟩
  have hl2 : (ms.length : Int) ≤ 1048576 := by omega
  clear h1 h2 hl
  go_enter Try.func17, Try.ntmps17
  go_wp2_with fail
  go_loopg [5] ms.length (fun g i wr => ∃ k : Nat, k ≤ ms.length ∧ g = ms.length - k ∧ i = .int .i64 k ∧ w.grownBy wr none)
  case atStart => exact ⟨0, Nat.zero_le _, rfl, rfl, grown_refl w⟩
  case round =>
    obtain ⟨k, hk, hg, rfl, hgr⟩ := hrel
    have MD : Hid (w.grownBy wr none ∧ gk = ms.length - k) := ⟨hgr, hg⟩
    by_cases hlt : k < ms.length
    · obtain ⟨m, hm⟩ : ∃ m, ms[k]? = some m := ⟨ms[k], List.getElem?_eq_getElem hlt⟩
      obtain ⟨b, off, ea, c0, c1⟩ := (HS.out.1 k m hm).kept hgr
      obtain ⟨b', off', ea', c0', c1'⟩ := (HS.out.2 k m hm).kept hgr
      subst ea ea'
      clear hm hgr hg
      go_wp2_with fail
      go_quiet (fail)
      go_wp2_with fail
      go_roundg (ms.length - (k + 1))
      case measure => have := MD.out.2; omega
      case rel => exact ⟨k + 1, by omega, rfl, by go_num, grown_drewN MD.out.1 _⟩
    · clear hgr hg
      go_wp2
      go_ret
      exact ⟨rfl, MD.out.1⟩

/-- the bytes of a list of members, up to where the count passes the bound -/
def mb : List Mem → Int → Int
  | [], t => t
  | m :: ms, t => if 1048576 < t + 16 + m.2.size then t + 16 + m.2.size else mb ms (t + 16 + m.2.size)
theorem mb_drop {ms : List Mem} {k : Nat} {m : Mem} (h : ms[k]? = some m) (t : Int) : mb (ms.drop k) t = if 1048576 < t + 16 + m.2.size then t + 16 + m.2.size else mb (ms.drop (k + 1)) (t + 16 + m.2.size) := by
  obtain ⟨hlt, e⟩ := List.getElem?_eq_some_iff.1 h
  rw [List.drop_eq_getElem_cons hlt, e]
  rfl
theorem mb_le (ms : List Mem) (hs : ∀ m ∈ ms, m.2.size ≤ 1048576) (t : Int) (h0 : 0 ≤ t) (h1 : t ≤ 1048600) : 0 ≤ mb ms t ∧ mb ms t ≤ 4000000 := by
  induction ms generalizing t with
  | nil => exact ⟨h0, by simp only [mb]; omega⟩
  | cons m ms ih =>
    have hm := hs m (by simp)
    simp only [mb]
    split
    · omega
    · exact ih (fun x hx => hs x (List.mem_cons_of_mem _ hx)) _ (by omega) (by omega)

set_option maxRecDepth 100000 in
set_option maxHeartbeats 1000000 in
theorem membersBytes_c (a : Option Addr) (cap : Nat) (ms : List Mem) (t : Int) (w : World) (hl : ms.length ≤ 1048576) (h : MsAt w a ms) (hs : ∀ m ∈ ms, m.2.size ≤ 1048576) (h0 : 0 ≤ t) (h1 : t ≤ 1048600) :
    Calls Try.prog 28 #[.slice a ms.length cap, .int .i64 t] w fun e w' => e = .returned (.int .i64 (mb ms t)) ∧ w' = w := by
  have HS : Hid (MsAt w a ms ∧ ∀ m ∈ ms, m.2.size ≤ 1048576) := ⟨h, hs⟩
  have hl2 : (ms.length : Int) ≤ 1048576 := by omega
  clear h hs hl
  go_enter Try.func28, Try.ntmps28
  go_wp2_with fail
  go_loopg [1, 5] ms.length (fun g tv i wr => ∃ (k : Nat) (t' : Int), k ≤ ms.length ∧ g = ms.length - k ∧ i = .int .i64 k ∧ tv = .int .i64 t' ∧ 0 ≤ t' ∧ t' ≤ 1048600 ∧ mb (ms.drop k) t' = mb ms t ∧ wr = w)
  case atStart => exact ⟨0, t, Nat.zero_le _, rfl, rfl, rfl, h0, h1, rfl, rfl⟩
  case round =>
    obtain ⟨k, t', hk, hg, rfl, rfl, ht0, ht1, hmb, hwr⟩ := hrel
    subst hwr
    have MD : Hid (mb (ms.drop k) t' = mb ms t ∧ gk = ms.length - k) := ⟨hmb, hg⟩
    clear hmb hg
    by_cases hlt : k < ms.length
    · obtain ⟨m, hm⟩ : ∃ m, ms[k]? = some m := ⟨ms[k], List.getElem?_eq_getElem hlt⟩
      have HM : Hid (ms[k]? = some m) := hm
      obtain ⟨b, off, ea, c0, c1⟩ := HS.out.1 k m hm
      have hsz : (m.2.size : Int) ≤ 1048576 := by have := HS.out.2 m (List.mem_of_getElem? hm); omega
      have hsz0 : (0 : Int) ≤ (m.2.size : Int) := by omega
      subst ea
      clear hm
      by_cases hb : 1048576 < t' + 16 + (m.2.size : Int)
      · have HE : Hid (mb ms t = t' + 16 + m.2.size) := by rw [← MD.out.1, mb_drop HM.out, if_pos hb]; trivial
        go_wp2
        go_ret
        exact ⟨by rw [HE.out]; rfl, rfl⟩
      · have HE : Hid (mb (ms.drop (k + 1)) (t' + 16 + m.2.size) = mb ms t) := by rw [← MD.out.1, mb_drop HM.out, if_neg hb]; trivial
        go_wp2_with fail
        go_roundg (ms.length - (k + 1))
        case measure => have := MD.out.2; omega
        case rel => exact ⟨k + 1, _, by omega, rfl, by go_num, rfl, by omega, by omega, HE.out, rfl⟩
    · have HE : Hid (mb ms t = t') := by rw [← MD.out.1, List.drop_eq_nil_of_le (by omega)]; trivial
      go_wp2
      go_ret
      exact ⟨by rw [HE.out]; rfl, rfl⟩
end Go.Proofs.Qxb6615757a
