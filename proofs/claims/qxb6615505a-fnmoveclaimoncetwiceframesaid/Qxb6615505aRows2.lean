/-
  THE ROWS as they lie in memory; the walks of zzRowsMap, zzRowLookup, zzSameEntry.
-/
import Derived.Test.Qxb6615505aMid
import Derived.Test.Qxb6615505aPlain2
import Derived.WalkKit
import Derived.WalkSpells
import Derived.WalkLawsBesides
import Derived.Deep.LoopGhost
import Derived.Deep.QuietTactic
import Derived.BigQuiet
import Derived.BigRegion
import Derived.RegionTactic
namespace Go.Proofs.Qxb6615505a
open Go.RowKit
open Pl (CRec CRow Key Tab)

/-- Element i of a slice of ClaimRow that lies at a. -/
def RowAt (w : World) (a : Option Addr) (i : Nat) (r : CRow) : Prop :=
  ∃ b off, a = some ⟨b, off, none⟩ ∧ w.cell? ⟨b, off + i * 3, none⟩ = some (.string r.ten) ∧ w.cell? ⟨b, off + i * 3 + 1, none⟩ = some (.string r.mach) ∧ w.cell? ⟨b, off + i * 3 + 2, none⟩ = some (.string r.id)
theorem RowAt.kept {w w' : World} {a : Option Addr} {i : Nat} {r : CRow} (h : RowAt w a i r) (g : w.grownBy w' none) : RowAt w' a i r := by
  obtain ⟨b, off, e, c0, c1, c2⟩ := h
  exact ⟨b, off, e, g.cell c0 (by simp), g.cell c1 (by simp), g.cell c2 (by simp)⟩
/-- its strings are no longer than strings can be -/
def RowOk (r : CRow) : Prop := Ok (Pl.key r) ∧ r.id.size ≤ maxLen

theorem run_makeMap_hint (n : Nat) (w : World) : (Instr.makeMap 28 (some (.int .i64 n))).run Try.prog w = .ok (.map (some w.heap.size)) (w.alloc (.map #[] 0)) := by
  simp [Instr.makeMap, run_underlying Try.underlying28, asInt, asIntOf]

set_option maxHeartbeats 1000000 in
theorem rowsMap_any (a : Option Addr) (len cap : Nat) (R : Nat → CRow) (w : World) (hs : ∀ i, i < len → RowAt w a i (R i)) (hok : ∀ i, i < len → RowOk (R i)) (hl : len ≤ 4096) :
    Calls Try.prog 13 #[.slice a len cap] w fun e w' => ∃ M, e = .returned (.map (some M)) ∧ MapIs w' M len (Pl.tab R len) ∧ w.grownBy w' none ∧ w.heap.size ≤ M := by
  have HS : Hid (∀ i, i < len → RowAt w a i (R i)) := hs
  have HO : Hid (∀ i, i < len → RowOk (R i)) := hok
  clear hs hok
  have hmm := run_makeMap_hint len
  go_enter Try.func13, Try.ntmps13
  go_wp2_with fail
  go_loopg [4] len (fun g i wr => ∃ k : Nat, k ≤ len ∧ g = len - k ∧ i = .int .i64 k ∧ MapIs wr w.heap.size k (Pl.tab R k) ∧ w.grownBy wr none)
  case atStart => exact ⟨0, Nat.zero_le _, rfl, rfl, mapIs_made w, below_box w _⟩
  case round =>
    obtain ⟨k, hk, hg, rfl, hm, hgr⟩ := hrel
    have MD : Hid (MapIs wr w.heap.size k (Pl.tab R k) ∧ w.grownBy wr none ∧ gk = len - k) := ⟨hm, hgr, hg⟩
    clear hm hgr hg
    by_cases hlt : k < len
    · obtain ⟨b, off, ea, c0, c1, c2⟩ := (HS.out k hlt).kept MD.out.2.1
      subst ea
      obtain ⟨w2, hrun, h2, g2⟩ := MapIs.store (MD.out.1.drewN 1) (k := Pl.key (R k)) (HO.out k hlt).1 (HO.out k hlt).2 (by unfold maxLen; omega)
      have hrun1 : (Instr.mapUpdate 28 (.map (some w.heap.size)) (.agg #[.string (R k).ten, .string (R k).mach]) (.string (R k).id)).run Try.prog wr.drew = .ok () w2 := hrun
      have M2 : Hid (MapIs w2 w.heap.size (k + 1) (Pl.tab R (k + 1)) ∧ w.grownBy w2 none) := ⟨h2, grown_past (grown_drewN MD.out.2.1 1) g2 (Nat.le_refl _)⟩
      clear hrun h2 g2
      go_wp2_with fail
      go_region
      go_wp2_with fail
      go_roundg (len - (k + 1))
      case measure => have := MD.out.2.2; omega
      case rel => exact ⟨k + 1, by omega, rfl, by go_num, M2.out.1, M2.out.2⟩
    · have hkl : k = len := by omega
      have M2 : Hid (MapIs wr w.heap.size len (Pl.tab R len) ∧ w.grownBy wr none) := by rw [← hkl]; exact ⟨MD.out.1, MD.out.2.1⟩
      go_wp2
      go_ret
      exact ⟨_, rfl, M2.out.1, M2.out.2, Nat.le_refl _⟩

set_option maxHeartbeats 1000000 in
theorem rowLookup_any (a : Option Addr) (len cap : Nat) (R : Nat → CRow) (t m : ByteArray) (w : World) (hs : ∀ i, i < len → RowAt w a i (R i)) (hl : len ≤ 4096) :
    Calls Try.prog 14 #[.slice a len cap, .string t, .string m] w fun e w' => e = .returned (.tuple #[.string ((Pl.look R len (t, m)).getD ByteArray.empty), .bool (Pl.look R len (t, m)).isSome]) ∧ w' = w := by
  have HS : Hid (∀ i, i < len → RowAt w a i (R i)) := hs
  clear hs
  go_enter Try.func14, Try.ntmps14
  go_wp2_with fail
  go_loopg [8] len (fun g i wr => ∃ n : Nat, n ≤ len ∧ g = n ∧ i = .int .i64 ((n : Int) - 1) ∧ (∀ x, n ≤ x → x < len → Pl.key (R x) ≠ (t, m)) ∧ wr = w)
  case atStart => exact ⟨len, Nat.le_refl _, rfl, rfl, fun x h1 h2 => by omega, rfl⟩
  case round =>
    obtain ⟨n, hn, hg, rfl, hno, hwr⟩ := hrel
    subst hwr
    have NO : Hid ((∀ x, n ≤ x → x < len → Pl.key (R x) ≠ (t, m)) ∧ gk = n) := ⟨hno, hg⟩
    clear hno hg
    by_cases hz : n = 0
    · subst hz
      have HL : Hid (Pl.look R len (t, m) = none) := Pl.look_miss (fun j hj => NO.out.1 j (Nat.zero_le _) hj)
      go_wp2
      go_ret2
      exact ⟨by rw [HL.out]; rfl, rfl⟩
    · obtain ⟨q, rfl⟩ : ∃ q, n = q + 1 := ⟨n - 1, by omega⟩
      have e1 : (((q + 1 : Nat) : Int) - 1) = (q : Int) := by omega
      rw [e1]
      obtain ⟨b, off, ea, c0, c1, c2⟩ := HS.out q (by omega)
      subst ea
      by_cases h1 : (R q).ten = t
      · have hT : ((R q).ten.toList == t.toList) = true := by rw [str_beq]; simp [h1]
        by_cases h2 : (R q).mach = m
        · have hM : ((R q).mach.toList == m.toList) = true := by rw [str_beq]; simp [h2]
          have HL : Hid (Pl.look R len (t, m) = some (R q).id) := Pl.look_hit (i := q) (by omega) (by simp [Pl.key, h1, h2]) (fun j x y => NO.out.1 j (by omega) y)
          clear h1 h2
          go_wp2
          go_ret2
          exact ⟨by rw [HL.out]; rfl, rfl⟩
        · have hM : ((R q).mach.toList == m.toList) = false := by rw [str_beq]; simp [h2]
          have HN : Hid (Pl.key (R q) ≠ (t, m)) := fun e => h2 (by simp [Pl.key] at e; exact e.2)
          clear h1 h2
          go_wp2_with fail
          go_roundg q
          case measure => have := NO.out.2; omega
          case rel =>
            refine ⟨q, by omega, rfl, by go_num, fun x d e => ?_, rfl⟩
            by_cases hx : x = q
            · rw [hx]; exact HN.out
            · exact NO.out.1 x (by omega) e
      · have hT : ((R q).ten.toList == t.toList) = false := by rw [str_beq]; simp [h1]
        have HN : Hid (Pl.key (R q) ≠ (t, m)) := fun e => h1 (by simp [Pl.key] at e; exact e.1)
        clear h1
        go_wp2_with fail
        go_roundg q
        case measure => have := NO.out.2; omega
        case rel =>
          refine ⟨q, by omega, rfl, by go_num, fun x d e => ?_, rfl⟩
          by_cases hx : x = q
          · rw [hx]; exact HN.out
          · exact NO.out.1 x (by omega) e

theorem rowLookup_some (a : Option Addr) (len cap : Nat) (R : Nat → CRow) (k : Key) (v : ByteArray) (w : World) (hs : ∀ i, i < len → RowAt w a i (R i)) (hl : len ≤ 4096) (h : Pl.look R len k = some v) :
    Calls Try.prog 14 #[.slice a len cap, .string k.1, .string k.2] w fun e w' => e = .returned (.tuple #[.string v, .bool true]) ∧ w' = w := by
  have := rowLookup_any a len cap R k.1 k.2 w hs hl
  rw [show Pl.look R len (k.1, k.2) = some v from h] at this
  exact this
theorem rowLookup_none (a : Option Addr) (len cap : Nat) (R : Nat → CRow) (k : Key) (w : World) (hs : ∀ i, i < len → RowAt w a i (R i)) (hl : len ≤ 4096) (h : Pl.look R len k = none) :
    Calls Try.prog 14 #[.slice a len cap, .string k.1, .string k.2] w fun e w' => e = .returned (.tuple #[.string ByteArray.empty, .bool false]) ∧ w' = w := by
  have := rowLookup_any a len cap R k.1 k.2 w hs hl
  rw [show Pl.look R len (k.1, k.2) = none from h] at this
  exact this
theorem MapIs.look_some {w : World} {b n : Nat} {l : Tab} {v : ByteArray} (h : MapIs w b n l) {k : Key} (hk : Ok k) (hv : Pl.get l k = some v) :
    (Instr.lookup 28 (.map (some b)) (.agg #[.string k.1, .string k.2]) true).run Try.prog w = .ok (.tuple #[.string v, .bool true]) w := by
  have := h.look_ok hk
  rw [hv] at this
  exact this
theorem MapIs.look_none {w : World} {b n : Nat} {l : Tab} (h : MapIs w b n l) {k : Key} (hk : Ok k) (hv : Pl.get l k = none) :
    (Instr.lookup 28 (.map (some b)) (.agg #[.string k.1, .string k.2]) true).run Try.prog w = .ok (.tuple #[.string ByteArray.empty, .bool false]) w := by
  have := h.look_ok hk
  rw [hv] at this
  exact this

set_option maxHeartbeats 1000000 in
theorem sameEntry_any (A B n1 n2 : Nat) (l1 l2 : Tab) (k : Key) (w : World) (h1 : MapIs w A n1 l1) (h2 : MapIs w B n2 l2) (hk : Ok k) (he : Pl.get l1 k = Pl.get l2 k) :
    Calls Try.prog 15 #[.map (some A), .map (some B), .agg #[.string k.1, .string k.2]] w fun e w' => e = .returned (.bool true) ∧ w.grownBy w' none := by
  have e1 := MapIs.look_ok (h1.kept (below_box w (Obj.cells #[.string k.1, .string k.2] 38)) (by simp)) hk
  have e2 := MapIs.look_ok (h2.kept (below_box w (Obj.cells #[.string k.1, .string k.2] 38)) (by simp)) hk
  rw [he] at e1
  clear h1 h2 he hk
  go_enter Try.func15, Try.ntmps15
  go_wp2
  all_goals go_ret
  all_goals exact ⟨by simp, below_box w _⟩
end Go.Proofs.Qxb6615505a
