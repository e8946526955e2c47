/-
  The walk of zzBytes_FnMoveClaimOnceTwiceFrame.
-/
import Derived.Test.Qxb6615505aRows2
import Derived.WalkKit
import Derived.WalkSpells
import Derived.WalkLawsBesides
import Derived.Deep.LoopGhost
namespace Go.Proofs.Qxb6615505a
open Go.RowKit
open Pl (CRec CRow Key Tab)

/-- A ClaimRec in memory, at ⟨b, o⟩. -/
structure RecCells (w : World) (b o : Nat) (r : CRec) (mp : Option Addr) : Prop where
  c0 : w.cell? ⟨b, o, none⟩ = some (.string r.id)
  c1 : w.cell? ⟨b, o + 1, none⟩ = some (.string r.ten)
  c2 : w.cell? ⟨b, o + 2, none⟩ = some (.pointer mp)
  c3 : w.cell? ⟨b, o + 3, none⟩ = some (.bool r.excl)
  c4 : w.cell? ⟨b, o + 4, none⟩ = some (.string r.st)
  m : MachIs w mp r.mach
theorem RecCells.kept {w w' : World} {b o : Nat} {r : CRec} {mp : Option Addr} (h : RecCells w b o r mp) (g : w.grownBy w' none) : RecCells w' b o r mp :=
  ⟨g.cell h.c0 (by simp), g.cell h.c1 (by simp), g.cell h.c2 (by simp), g.cell h.c3 (by simp), g.cell h.c4 (by simp), h.m.kept g (by simp)⟩
theorem recCells_box (w : World) (r : CRec) (mp : Option Addr) (hm : MachIs w mp r.mach) : RecCells (w.alloc (.cells #[.string r.id, .string r.ten, .pointer mp, .bool r.excl, .string r.st] 27)) w.heap.size 0 r mp :=
  ⟨by simp [go_sem], by simp [go_sem], by simp [go_sem], by simp [go_sem], by simp [go_sem], hm.kept (below_box w _) (by simp)⟩
/-- prev: nil, or a ClaimRec in memory -/
def PrevIn (w : World) (pv : Option Addr) (p : Option CRec) : Prop := (pv = none ∧ p = none) ∨ ∃ b o r mp, pv = some ⟨b, o, none⟩ ∧ p = some r ∧ RecCells w b o r mp
theorem PrevIn.kept {w w' : World} {pv : Option Addr} {p : Option CRec} (h : PrevIn w pv p) (g : w.grownBy w' none) : PrevIn w' pv p := by
  rcases h with h | ⟨b, o, r, mp, h1, h2, h3⟩
  · exact Or.inl h
  · exact Or.inr ⟨b, o, r, mp, h1, h2, h3.kept g⟩
/-- some bool came back, and nothing that was there has turned -/
def BoolUp (w : World) (e : Ending) (w' : World) : Prop := IsBool e ∧ w.grownBy w' none

set_option maxRecDepth 100000 in
set_option maxHeartbeats 2000000 in
theorem bytes2_any (a : Option Addr) (len cap : Nat) (R : Nat → CRow) (pv : Option Addr) (prev : Option CRec) (r : CRec) (mp : Option Addr) (w : World) (hs : ∀ i, i < len → RowAt w a i (R i)) (hl : len ≤ maxLen)
    (hp : PrevIn w pv prev) (hm : MachIs w mp r.mach) :
    Calls Try.prog 12 #[.slice a len cap, .pointer pv, .agg #[.string r.id, .string r.ten, .pointer mp, .bool r.excl, .string r.st]] w fun e w' => BoolUp w e w' := by
  have HW : Hid (w.grownBy (w.alloc (.cells #[.string r.id, .string r.ten, .pointer mp, .bool r.excl, .string r.st] 27)) none) := below_box w _
  have HS : Hid (∀ i, i < len → RowAt (w.alloc (.cells #[.string r.id, .string r.ten, .pointer mp, .bool r.excl, .string r.st] 27)) a i (R i)) := fun i hi => (hs i hi).kept HW.out
  have HP : Hid (PrevIn (w.alloc (.cells #[.string r.id, .string r.ten, .pointer mp, .bool r.excl, .string r.st] 27)) pv prev) := hp.kept HW.out
  have HR : Hid (RecCells (w.alloc (.cells #[.string r.id, .string r.ten, .pointer mp, .bool r.excl, .string r.st] 27)) w.heap.size 0 r mp) := recCells_box w r mp hm
  clear hs hp hm
  unfold maxLen at hl
  by_cases hbig : (len : Int) > 1048576
  · go_enter Try.func12, Try.ntmps12
    go_wp2
    go_ret
    exact ⟨isBool_mk _, HW.out⟩
  go_enter Try.func12, Try.ntmps12
  go_wp2
  generalize w.alloc (.cells #[.string r.id, .string r.ten, .pointer mp, .bool r.excl, .string r.st] 27) = w1 at *
  go_loop [7, 8] (fun z i => ∃ (k : Nat) (t : Int), k ≤ len ∧ i = .int .i64 k ∧ z = .int .i64 t) (fun _ i => len - (intOf i).toNat)
  case atStart => exact ⟨0, _, Nat.zero_le _, rfl, rfl⟩
  case round =>
    obtain ⟨k, t, hk, rfl, rfl⟩ := hrel
    by_cases hlt : k < len
    · obtain ⟨b, off, ea, c0, c1, c2⟩ := HS.out k hlt
      subst ea
      go_wp2
      all_goals first
        | (go_ret; exact ⟨isBool_mk _, HW.out⟩)
        | exact ⟨⟨k + 1, _, by omega, by go_num, rfl⟩, by simp [intOf]; omega⟩
    · obtain ⟨d0, d1, d2, d3, d4, dm⟩ := HR.out
      rcases HP.out with ⟨e1, _⟩ | ⟨pb, po, pr, pm, e1, _, ⟨q0, q1, q2, q3, q4, qm⟩⟩
      · subst e1
        rcases dm with ⟨hmp, _⟩ | ⟨p, s, hmp, _, hc⟩
        all_goals
          subst hmp
          go_wp2
          all_goals (go_ret; exact ⟨isBool_mk _, HW.out⟩)
      · subst e1
        rcases dm with ⟨hmp, _⟩ | ⟨p, s, hmp, _, hc⟩
        all_goals
          subst hmp
          rcases qm with ⟨hqp, _⟩ | ⟨p', s', hqp, _, hc'⟩
          all_goals
            subst hqp
            go_wp2
            all_goals (go_ret; exact ⟨isBool_mk _, HW.out⟩)
end Go.Proofs.Qxb6615505a
