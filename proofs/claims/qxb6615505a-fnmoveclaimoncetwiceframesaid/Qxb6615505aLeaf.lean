/-
  THE WALKS of the leaves: zzRecBytes, zzHolds, zzSameClaim, zzRecord, ZZnewRecords, (*Record).Claim.
-/
import Derived.Test.Qxb6615505aMap
import Derived.WalkKit
import Derived.WalkSpells
import Derived.WalkLawsBesides
import Derived.Deep.QuietTactic
import Derived.BigQuiet
import Derived.BigRegion
import Derived.RegionTactic
namespace Go.Proofs.Qxb6615505a
open Go.RowKit
open Pl (CRec)

theorem str_eq (a b : ByteArray) : (a.toList = b.toList) ↔ a = b := by
  rw [ByteArray.toList_eq, ByteArray.toList_eq]
  exact ⟨fun h => ByteArray.ext (Array.toList_inj.1 h), fun h => by rw [h]⟩
theorem str_beq (a b : ByteArray) : (a.toList == b.toList) = decide (a = b) := by
  rw [Bool.eq_iff_iff]
  simp [str_eq]
theorem active_eq (a : ByteArray) : (a.toList = [97, 99, 116, 105, 118, 101]) ↔ a = Pl.active := by
  rw [← str_eq]
  have : Pl.active.toList = [97, 99, 116, 105, 118, 101] := by decide +kernel
  rw [this]

/-- The machine's pointer, and what it leads to. -/
def MachIs (w : World) (mp : Option Addr) (m : Option ByteArray) : Prop :=
  (mp = none ∧ m = none) ∨ ∃ p s, mp = some p ∧ m = some s ∧ w.cell? p = some (.string s)
theorem MachIs.some_iff {w : World} {mp : Option Addr} {m : Option ByteArray} (h : MachIs w mp m) : mp.isSome = m.isSome := by
  rcases h with ⟨rfl, rfl⟩ | ⟨p, s, rfl, rfl, _⟩ <;> rfl

theorem holds_eq (r : CRec) (mp : Option Addr) (hm : mp.isSome = r.mach.isSome) : Pl.holds r = (decide (r.st = Pl.active) && r.excl && mp.isSome) := by
  unfold Pl.holds Pl.claim
  rw [hm]
  by_cases h1 : r.st = Pl.active <;> by_cases h2 : r.excl = true <;> cases h3 : r.mach <;> simp [h1, h2]

theorem below_box (w : World) (o : Obj) : w.grownBy (w.alloc o) none := World.grownBy_alloc w o none

set_option maxHeartbeats 400000 in
theorem holds_any (r : CRec) (mp : Option Addr) (w : World) (hm : mp.isSome = r.mach.isSome) :
    Calls Try.prog 10 #[.agg #[.string r.id, .string r.ten, .pointer mp, .bool r.excl, .string r.st]] w fun e w' => e = .returned (.bool (Pl.holds r)) ∧ w.grownBy w' none := by
  have H : Hid (Pl.holds r = (decide (r.st = Pl.active) && r.excl && mp.isSome)) := holds_eq r mp hm
  clear hm
  go_enter Try.func10, Try.ntmps10
  go_wp2
  all_goals go_ret
  · rename_i h1 h2
    exact ⟨by rw [H.out, decide_eq_true ((active_eq _).1 h1), h2]; simp, below_box w _⟩
  · rename_i h1 h2
    exact ⟨by rw [H.out]; simp [h2], below_box w _⟩
  · rename_i h1
    exact ⟨by rw [H.out, decide_eq_false (fun e => h1 ((active_eq _).2 e))]; simp, below_box w _⟩

set_option maxHeartbeats 400000 in
theorem recBytes_any (r : CRec) (mp : Option Addr) (w : World) (hm : MachIs w mp r.mach) :
    Calls Try.prog 6 #[.agg #[.string r.id, .string r.ten, .pointer mp, .bool r.excl, .string r.st]] w fun e w' => (∃ n : Int, e = .returned (.int .i64 n)) ∧ w.grownBy w' none := by
  rcases hm with ⟨rfl, hr⟩ | ⟨p, s, rfl, hr, hc⟩
  · go_enter Try.func6, Try.ntmps6
    go_wp2
    go_ret
    exact ⟨⟨_, rfl⟩, below_box w _⟩
  · have hb : p.block < w.heap.size := World.block_lt_of_cell? w _ hc
    go_enter Try.func6, Try.ntmps6
    go_wp2
    go_ret
    exact ⟨⟨_, rfl⟩, below_box w _⟩

theorem grown_drewN {w w' : World} {row : Option Nat} (h : w.grownBy w' row) (n : Nat) : w.grownBy (w'.drewN n) row := ⟨h.os, h.tape, h.output, h.size, h.block⟩
theorem grown_trans {a b c : World} {row : Option Nat} (h : a.grownBy b row) (k : b.grownBy c row) : a.grownBy c row := h.trans k

set_option maxHeartbeats 400000 in
theorem same_any (a b : CRec) (p q : Addr) (m n : ByteArray) (w : World) (hp : w.cell? p = some (.string m)) (hq : w.cell? q = some (.string n)) :
    Calls Try.prog 11 #[.agg #[.string a.id, .string a.ten, .pointer (some p), .bool a.excl, .string a.st], .agg #[.string b.id, .string b.ten, .pointer (some q), .bool b.excl, .string b.st]] w
      fun e w' => e = .returned (.bool (decide (a.ten = b.ten) && decide (m = n))) ∧ w.grownBy w' none := by
  have hp1 := World.block_lt_of_cell? w _ hp
  have hq1 := World.block_lt_of_cell? w _ hq
  by_cases ht : a.ten = b.ten
  · have hT : (a.ten.toList == b.ten.toList) = true := by rw [str_beq]; simp [ht]
    have HT : Hid (a.ten = b.ten) := ht
    clear ht
    go_enter Try.func11, Try.ntmps11
    go_wp2
    go_quiet (fail)
    go_wp2
    go_ret
    exact ⟨by rw [str_beq, decide_eq_true HT.out]; simp, grown_drewN ((below_box w _).trans (below_box _ _)) nq⟩
  · have hT : (a.ten.toList == b.ten.toList) = false := by rw [str_beq]; simp [ht]
    go_enter Try.func11, Try.ntmps11
    go_wp2
    go_quiet (fail)
    go_wp2
    go_ret
    exact ⟨by simp [ht], grown_drewN ((below_box w _).trans (below_box _ _)) nq⟩

/-- Block rb is a session's record that says what r says. None of its blocks is one of X. -/
structure RecAt (X : Nat → Prop) (w : World) (rb : Nat) (r : CRec) : Prop where
  off : ¬ X rb
  c0 : w.cell? ⟨rb, 0, none⟩ = some (.string r.id)
  c1 : w.cell? ⟨rb, 1, none⟩ = some (.string r.ten)
  c3 : ∃ mp, w.cell? ⟨rb, 3, none⟩ = some (.pointer mp) ∧ MachIs w mp r.mach ∧ ∀ p, mp = some p → ¬ X p.block
  c4 : w.cell? ⟨rb, 4, none⟩ = some (.bool r.excl)
  c7 : w.cell? ⟨rb, 7, none⟩ = some (.string r.st)

set_option maxHeartbeats 400000 in
theorem newRecords_any (m : Nat) (w : World) :
    Calls Try.prog 7 #[.map (some m)] w fun e w' => e = .returned (.pointer (some ⟨w.heap.size, 0, none⟩)) ∧ w'.cell? ⟨w.heap.size, 2, none⟩ = some (.map (some m)) ∧ w.grownBy w' none := by
  go_enter Try.func7, Try.ntmps7
  go_wp2
  go_ret
  exact ⟨rfl, by simp [go_sem], below_box w _⟩
set_option maxHeartbeats 400000 in
theorem record_any (X : Nat → Prop) (r : CRec) (mp : Option Addr) (w : World) (hm : MachIs w mp r.mach) (hX : ∀ k, w.heap.size ≤ k → ¬ X k) :
    Calls Try.prog 8 #[.agg #[.string r.id, .string r.ten, .pointer mp, .bool r.excl, .string r.st]] w
      fun e w' => ∃ rb, e = .returned (.pointer (some ⟨rb, 0, none⟩)) ∧ w.heap.size ≤ rb ∧ RecAt X w' rb r ∧ w.grownBy w' none := by
  rcases hm with ⟨rfl, hr⟩ | ⟨p, s, rfl, hr, hc⟩
  · go_enter Try.func8, Try.ntmps8
    go_wp2
    go_ret
    exact ⟨_, rfl, by omega, ⟨hX _ (by omega), by simp [go_sem], by simp [go_sem], ⟨none, by simp [go_sem], Or.inl ⟨rfl, hr⟩, fun p e => by cases e⟩, by simp [go_sem], by simp [go_sem]⟩, (below_box w _).trans (below_box _ _)⟩
  · have hb : p.block < w.heap.size := World.block_lt_of_cell? w _ hc
    go_enter Try.func8, Try.ntmps8
    go_wp2
    go_ret
    exact ⟨_, rfl, by omega, ⟨hX _ (by omega), by simp [go_sem], by simp [go_sem], ⟨some ⟨w.heap.size + 1 + 1, 0, none⟩, by simp [go_sem], Or.inr ⟨⟨w.heap.size + 1 + 1, 0, none⟩, s, rfl, hr, by simp [go_sem]⟩, fun p e => by cases e; exact hX _ (by show _ ≤ _ + 1 + 1; omega)⟩, by simp [go_sem], by simp [go_sem]⟩, ((below_box w _).trans (below_box _ _)).trans (below_box _ _)⟩

set_option maxHeartbeats 400000 in
theorem claim_nil (w : World) :
    Calls Try.prog 17 #[.pointer none] w fun e w' => e = .returned (.tuple #[.agg #[.string ⟨#[]⟩, .string ⟨#[]⟩], .bool false]) ∧ w.grownBy w' none := by
  go_enter Try.func17, Try.ntmps17
  go_wp2
  exact bodyPost_ret (v := .tuple #[.agg #[.string ⟨#[]⟩, .string ⟨#[]⟩], .bool false]) (by simp [results, Try.results17, go_sem]) rfl ⟨rfl, below_box w _⟩
set_option maxHeartbeats 400000 in
theorem claim_st (rb : Nat) (st : ByteArray) (w : World) (c7 : w.cell? ⟨rb, 7, none⟩ = some (.string st)) (hb : rb < w.heap.size) (hS : (st.toList == [97, 99, 116, 105, 118, 101]) = false) :
    Calls Try.prog 17 #[.pointer (some ⟨rb, 0, none⟩)] w fun e w' => e = .returned (.tuple #[.agg #[.string ⟨#[]⟩, .string ⟨#[]⟩], .bool false]) ∧ w.grownBy w' none := by
  go_enter Try.func17, Try.ntmps17
  go_wp2
  exact bodyPost_ret (v := .tuple #[.agg #[.string ⟨#[]⟩, .string ⟨#[]⟩], .bool false]) (by simp [results, Try.results17, go_sem]) rfl ⟨rfl, below_box w _⟩
set_option maxHeartbeats 400000 in
theorem claim_ex (rb : Nat) (st : ByteArray) (w : World) (c7 : w.cell? ⟨rb, 7, none⟩ = some (.string st)) (hb : rb < w.heap.size) (hS : (st.toList == [97, 99, 116, 105, 118, 101]) = true)
    (c4 : w.cell? ⟨rb, 4, none⟩ = some (.bool false)) :
    Calls Try.prog 17 #[.pointer (some ⟨rb, 0, none⟩)] w fun e w' => e = .returned (.tuple #[.agg #[.string ⟨#[]⟩, .string ⟨#[]⟩], .bool false]) ∧ w.grownBy w' none := by
  go_enter Try.func17, Try.ntmps17
  go_wp2
  exact bodyPost_ret (v := .tuple #[.agg #[.string ⟨#[]⟩, .string ⟨#[]⟩], .bool false]) (by simp [results, Try.results17, go_sem]) rfl ⟨rfl, below_box w _⟩
set_option maxHeartbeats 400000 in
theorem claim_no (rb : Nat) (st : ByteArray) (w : World) (c7 : w.cell? ⟨rb, 7, none⟩ = some (.string st)) (hb : rb < w.heap.size) (hS : (st.toList == [97, 99, 116, 105, 118, 101]) = true)
    (c4 : w.cell? ⟨rb, 4, none⟩ = some (.bool true)) (c3 : w.cell? ⟨rb, 3, none⟩ = some (.pointer none)) :
    Calls Try.prog 17 #[.pointer (some ⟨rb, 0, none⟩)] w fun e w' => e = .returned (.tuple #[.agg #[.string ⟨#[]⟩, .string ⟨#[]⟩], .bool false]) ∧ w.grownBy w' none := by
  go_enter Try.func17, Try.ntmps17
  go_wp2
  exact bodyPost_ret (v := .tuple #[.agg #[.string ⟨#[]⟩, .string ⟨#[]⟩], .bool false]) (by simp [results, Try.results17, go_sem]) rfl ⟨rfl, below_box w _⟩
set_option maxHeartbeats 400000 in
theorem claim_yes (rb : Nat) (st ten s : ByteArray) (p : Addr) (w : World) (c7 : w.cell? ⟨rb, 7, none⟩ = some (.string st)) (hb : rb < w.heap.size) (hS : (st.toList == [97, 99, 116, 105, 118, 101]) = true)
    (c4 : w.cell? ⟨rb, 4, none⟩ = some (.bool true)) (c3 : w.cell? ⟨rb, 3, none⟩ = some (.pointer (some p))) (c1 : w.cell? ⟨rb, 1, none⟩ = some (.string ten)) (hc : w.cell? p = some (.string s)) (hp : p.block < w.heap.size) :
    Calls Try.prog 17 #[.pointer (some ⟨rb, 0, none⟩)] w fun e w' => e = .returned (.tuple #[.agg #[.string ten, .string s], .bool true]) ∧ w.grownBy w' none := by
  go_enter Try.func17, Try.ntmps17
  go_wp2
  go_region
  go_wp2
  exact bodyPost_ret (v := .tuple #[.agg #[.string ten, .string s], .bool true]) (by simp [results, Try.results17, go_sem]) rfl ⟨rfl, grown_drewN (below_box w _) 1⟩

/-- what Claim hands back -/
def claimV : Option Pl.Key → Value
  | some k => .tuple #[.agg #[.string k.1, .string k.2], .bool true]
  | none => .tuple #[.agg #[.string ⟨#[]⟩, .string ⟨#[]⟩], .bool false]

theorem claim_rec (X : Nat → Prop) (rb : Nat) (r : CRec) (w : World) (h : RecAt X w rb r) :
    Calls Try.prog 17 #[.pointer (some ⟨rb, 0, none⟩)] w fun e w' => e = .returned (claimV (Pl.claim r)) ∧ w.grownBy w' none := by
  obtain ⟨_, c0, c1, ⟨mp, c3, hm, _⟩, c4, c7⟩ := h
  have hb : rb < w.heap.size := World.block_lt_of_cell? w _ c0
  by_cases hs : r.st = Pl.active
  · have hS : (r.st.toList == [97, 99, 116, 105, 118, 101]) = true := by simp [(active_eq r.st).2 hs]
    cases he : r.excl
    · rw [he] at c4
      have e1 : Pl.claim r = none := by simp [Pl.claim, he]
      rw [e1]
      exact claim_ex rb _ w c7 hb hS c4
    · rw [he] at c4
      rcases hm with ⟨rfl, hr⟩ | ⟨p, s, rfl, hr, hc⟩
      · have e1 : Pl.claim r = none := by simp [Pl.claim, hr]
        rw [e1]
        exact claim_no rb _ w c7 hb hS c4 c3
      · have e1 : Pl.claim r = some (r.ten, s) := by simp [Pl.claim, hr, hs, he]
        rw [e1]
        exact claim_yes rb _ _ s p w c7 hb hS c4 c3 c1 hc (World.block_lt_of_cell? w _ hc)
  · have hS : (r.st.toList == [97, 99, 116, 105, 118, 101]) = false := by simp; exact fun e => hs ((active_eq r.st).1 e)
    have e1 : Pl.claim r = none := by simp [Pl.claim, hs]
    rw [e1]
    exact claim_st rb _ w c7 hb hS
/-- a record, or nil -/
def PrevAt (X : Nat → Prop) (w : World) (v : Value) (p : Option CRec) : Prop :=
  (v = .pointer none ∧ p = none) ∨ ∃ pb r, v = .pointer (some ⟨pb, 0, none⟩) ∧ p = some r ∧ RecAt X w pb r
theorem claim_prev (X : Nat → Prop) (v : Value) (p : Option CRec) (w : World) (h : PrevAt X w v p) :
    Calls Try.prog 17 #[v] w fun e w' => e = .returned (claimV (p.bind Pl.claim)) ∧ w.grownBy w' none := by
  rcases h with ⟨rfl, rfl⟩ | ⟨pb, r, rfl, rfl, h⟩
  · exact claim_nil w
  · exact claim_rec X pb r w h

theorem MachIs.kept {w w' : World} {mp : Option Addr} {m : Option ByteArray} {row : Option Nat} (h : MachIs w mp m) (hg : w.grownBy w' row) (hne : ∀ p, mp = some p → some p.block ≠ row) : MachIs w' mp m := by
  rcases h with h | ⟨p, s, h1, h2, h3⟩
  · exact Or.inl h
  · exact Or.inr ⟨p, s, h1, h2, hg.cell h3 (hne p h1)⟩
theorem RecAt.kept {X : Nat → Prop} {w w' : World} {rb : Nat} {r : CRec} {row : Option Nat} (h : RecAt X w rb r) (hg : w.grownBy w' row) (hX : ∀ k, row = some k → X k) : RecAt X w' rb r := by
  have hn : ∀ k, ¬ X k → some k ≠ row := fun k hk e => hk (hX k e.symm)
  obtain ⟨h0, c0, c1, ⟨mp, c3, hm, hx⟩, c4, c7⟩ := h
  exact ⟨h0, hg.cell c0 (hn _ h0), hg.cell c1 (hn _ h0), ⟨mp, hg.cell c3 (hn _ h0), hm.kept hg (fun p e => hn _ (hx p e)), hx⟩, hg.cell c4 (hn _ h0), hg.cell c7 (hn _ h0)⟩
theorem PrevAt.kept {X : Nat → Prop} {w w' : World} {v : Value} {p : Option CRec} {row : Option Nat} (h : PrevAt X w v p) (hg : w.grownBy w' row) (hX : ∀ k, row = some k → X k) : PrevAt X w' v p := by
  rcases h with h | ⟨pb, r, h1, h2, h3⟩
  · exact Or.inl h
  · exact Or.inr ⟨pb, r, h1, h2, h3.kept hg hX⟩
end Go.Proofs.Qxb6615505a
