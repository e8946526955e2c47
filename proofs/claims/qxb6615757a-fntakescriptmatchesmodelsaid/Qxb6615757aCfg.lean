/-
  MEMBER LISTS in memory; the walks of Configuration.Addr (with slices.IndexFunc and its closure).
-/
import Derived.Test.Qxb6615757aMap
import Derived.WalkKit
import Derived.WalkSpells
import Derived.WalkLawsBesides
import Derived.Deep.LoopGhost
import Derived.Deep.QuietTactic
import Derived.BigQuiet
import Derived.BigRegion
import Derived.RegionTactic
import Derived.Below
namespace Go.Proofs.Qxb6615757a
open Go.RowKit

abbrev Mem := Int × ByteArray
/-- Element i of a slice of members that lies at a. -/
def MemAt (w : World) (a : Option Addr) (i : Nat) (m : Mem) : Prop :=
  ∃ b off, a = some ⟨b, off, none⟩ ∧ w.cell? ⟨b, off + i * 2, none⟩ = some (.int .i64 m.1) ∧ w.cell? ⟨b, off + i * 2 + 1, none⟩ = some (.string m.2)
def MsAt (w : World) (a : Option Addr) (ms : List Mem) : Prop := ∀ i m, ms[i]? = some m → MemAt w a i m
theorem MemAt.kept {w w' : World} {a : Option Addr} {i : Nat} {m : Mem} (h : MemAt w a i m) (g : w.grownBy w' none) : MemAt w' a i m := by
  obtain ⟨b, off, e, c0, c1⟩ := h
  exact ⟨b, off, e, g.cell c0 (by simp), g.cell c1 (by simp)⟩
theorem MsAt.kept {w w' : World} {a : Option Addr} {ms : List Mem} (h : MsAt w a ms) (g : w.grownBy w' none) : MsAt w' a ms := fun i m hi => (h i m hi).kept g
theorem grown_refl (w : World) : w.grownBy w none := ⟨rfl, rfl, rfl, Nat.le_refl _, fun _ _ _ => rfl⟩
theorem grown_trans {a b c : World} (h : a.grownBy b none) (k : b.grownBy c none) : a.grownBy c none :=
  ⟨k.os.trans h.os, k.tape.trans h.tape, k.output.trans h.output, Nat.le_trans h.size k.size, fun i hi hn => (k.block i (Nat.lt_of_lt_of_le hi h.size) hn).trans (h.block i hi hn)⟩
theorem grown_alloc {a b : World} (h : a.grownBy b none) (o : Obj) : a.grownBy (b.alloc o) none := grown_trans h (World.grownBy_alloc b o none)
theorem grown_drewN {a b : World} (h : a.grownBy b none) (n : Nat) : a.grownBy (b.drewN n) none := ⟨h.os, h.tape, h.output, h.size, h.block⟩

def findAt (ms : List Mem) (id : Int) : Option Nat := ms.findIdx? (fun m => decide (m.1 = id))
/-- the address of member id -/
def look (ms : List Mem) (id : Int) : Option ByteArray := (findAt ms id).bind (fun k => ms[k]?.map (·.2))
def idxVal : Option Nat → Int
  | some k => k
  | none => -1

/-- the closure -/
theorem clos_c (B : Nat) (id i : Int) (s : ByteArray) (w : World) (hB : B < w.heap.size) (hc : w.cell? ⟨B, 0, none⟩ = some (.int .i64 id)) :
    Calls Try.prog 44 #[.agg #[.int .i64 i, .string s], .pointer (some ⟨B, 0, none⟩)] w fun e w' => e = .returned (.bool (decide (i = id))) ∧ w.grownBy w' none := by
  by_cases h : i = id
  · go_enter Try.func44, Try.ntmps44
    go_wp2
    go_ret
    exact ⟨by simp [h], World.grownBy_alloc _ _ _⟩
  · go_enter Try.func44, Try.ntmps44
    go_wp2
    go_ret
    exact ⟨by simp [h], World.grownBy_alloc _ _ _⟩

set_option maxHeartbeats 1000000 in
theorem indexFunc_c (a : Option Addr) (cap : Nat) (ms : List Mem) (B : Nat) (id : Int) (w : World) (hl : ms.length ≤ maxLen) (hs : MsAt w a ms) (hB : B < w.heap.size) (hc : w.cell? ⟨B, 0, none⟩ = some (.int .i64 id)) :
    Calls Try.prog 43 #[.slice a ms.length cap, .func (.func 44) #[] #[.pointer (some ⟨B, 0, none⟩)]] w fun e w' => e = .returned (.int .i64 (idxVal (findAt ms id))) ∧ w.grownBy w' none := by
  have HS : Hid (MsAt w a ms) := hs
  have HC : Hid (B < w.heap.size ∧ w.cell? ⟨B, 0, none⟩ = some (.int .i64 id)) := ⟨hB, hc⟩
  have hl2 : (ms.length : Int) ≤ 9223372036854775807 := by have : maxLen = 9223372036854775807 := rfl; omega
  clear hs hB hc hl
  go_enter Try.func43, Try.ntmps43
  go_wp2_with fail
  go_loopg [8] ms.length (fun g i wr => ∃ k : Nat, k ≤ ms.length ∧ g = ms.length - k ∧ i = .int .i64 k ∧ (∀ j m, j < k → ms[j]? = some m → ¬ m.1 = id) ∧ w.grownBy wr none)
  case atStart => exact ⟨0, Nat.zero_le _, rfl, rfl, fun j m h => by omega, grown_refl w⟩
  case round =>
    obtain ⟨k, hk, hg, rfl, hno, hgr⟩ := hrel
    have MD : Hid ((∀ j m, j < k → ms[j]? = some m → ¬ m.1 = id) ∧ w.grownBy wr none ∧ gk = ms.length - k) := ⟨hno, hgr, hg⟩
    clear hno hgr hg
    by_cases hlt : k < ms.length
    · obtain ⟨m, hm⟩ : ∃ m, ms[k]? = some m := ⟨ms[k], List.getElem?_eq_getElem hlt⟩
      have HM : Hid (ms[k]? = some m) := hm
      obtain ⟨b, off, ea, c0, c1⟩ := (HS.out k m hm).kept MD.out.2.1
      subst ea
      clear hm
      go_wp2_with fail
      refine (clos_c B id m.1 m.2 wr (Nat.lt_of_lt_of_le HC.out.1 MD.out.2.1.size) (MD.out.2.1.cell HC.out.2 (by simp))).mono ?_
      rintro e1 w1 ⟨rfl, hg1⟩
      have G1 : Hid (w.grownBy w1 none) := grown_trans MD.out.2.1 hg1
      clear hg1
      by_cases hid : m.1 = id
      · have HF : Hid (findAt ms id = some k) := by
          unfold findAt
          rw [List.findIdx?_eq_some_iff_getElem]
          have e := HM.out
          rw [List.getElem?_eq_getElem hlt] at e
          refine ⟨hlt, by cases e; simpa using hid, fun j hj => ?_⟩
          have := MD.out.1 j ms[j] hj (List.getElem?_eq_getElem _)
          simpa using this
        rw [decide_eq_true hid]
        clear hid
        go_wp2
        go_ret
        exact ⟨by rw [HF.out]; rfl, G1.out⟩
      · have HN : Hid (¬ m.1 = id) := hid
        rw [decide_eq_false hid]
        clear hid
        go_wp2_with fail
        go_roundg (ms.length - (k + 1))
        case measure => have := MD.out.2.2; omega
        case rel =>
          refine ⟨k + 1, by omega, rfl, by go_num, fun j m' hj hm' => ?_, G1.out⟩
          by_cases e : j = k
          · subst e
            rw [HM.out] at hm'
            cases hm'
            exact HN.out
          · exact MD.out.1 j m' (by omega) hm'
    · have HF : Hid (findAt ms id = none) := by
        unfold findAt
        rw [List.findIdx?_eq_none_iff]
        intro m hm
        obtain ⟨j, hj⟩ := List.mem_iff_getElem?.1 hm
        have := MD.out.1 j m (by have := (List.getElem?_eq_some_iff.1 hj).1; omega) hj
        simpa using this
      go_wp2
      go_ret
      exact ⟨by rw [HF.out]; rfl, MD.out.2.1⟩
end Go.Proofs.Qxb6615757a
