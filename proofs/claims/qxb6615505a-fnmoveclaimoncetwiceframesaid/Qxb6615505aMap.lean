/-
  A MAP OF THE CALL's OWN ('map[session.Claim]string') TOLD BY A PLAIN TABLE: 'MapIs w b n l': block b of w is a map of at most n entries that holds just what the list l holds. Its operations as equations on runs.
-/
import Derived.Test.Qxb6615505aRows
import Derived.Test.Qxb6615505aPlain
import Derived.WalkKit
import Derived.Maps.OwnSet
import Derived.Maps.StringElems
import Derived.ProofKit
namespace Go.Proofs.Qxb6615505a
open Go.RowKit Go.Maps
open Pl (Key Tab)

theorem laidOut : laidOutB Try.prog = true := by kernel_rfl
theorem row38 : 38 < Try.prog.types.size := of_decide_eq_true (by kernel_rfl)
theorem wide38 : (match Try.prog.underlying 38 with | some (.array _ _) | some (.struct _) => true | _ => false) = true := by kernel_rfl
theorem law38 : Keyed Try.prog 38 := Keyed.of_law (deep_law_laid laidOut (m := 2) (by omega) row38 (by kernel_rfl) wide38)
theorem zero9 (w : World) : (zeroValue 9).run Try.prog w = .ok (.string ByteArray.empty) w := by kernel_rfl

def kv (k : Key) : Value := .agg #[.string k.1, .string k.2]
/-- A key that can be read: neither string longer than a string can be. -/
def Ok (k : Key) : Prop := k.1.size ≤ maxLen ∧ k.2.size ≤ maxLen

/-- what a key reads as -/
def kl (k : Key) : Lit := .string (keyBytes [.string k.1.data.toList, .string k.2.data.toList])
theorem key_mk {k : Key} (h : Ok k) : keyOf Try.prog 38 (kv k) = some (kl k) := by
  have h38 : Try.prog.underlying 38 = _ := Try.underlying38
  have h9 : Try.prog.underlying 9 = _ := Try.underlying9
  have c38 : Try.prog.cellsOf 38 = 2 := by kernel_rfl
  have c9 : Try.prog.cellsOf 9 = 1 := by kernel_rfl
  have hk : Try.prog.keyType 38 = true := by kernel_rfl
  obtain ⟨n, hn⟩ : ∃ n, Try.prog.types.size + 1 = n + 2 := ⟨Try.prog.types.size - 1, by have := row38; omega⟩
  obtain ⟨h1, h2⟩ := h
  unfold keyOf kv kl
  simp only [h38, hk, hn]
  simp [Program.keyLits, h38, h9, c38, c9, h1, h2, Value.cells, Value.formed]
theorem kl_ne {k x : Key} (hk : Ok k) (hx : Ok x) (h : x ≠ k) : kl x ≠ kl k := fun e => h (by
  have h1 := key_mk hx
  rw [e] at h1
  have := law38.inj h1 (key_mk hk)
  unfold kv at this
  simp at this
  exact Prod.ext this.1 this.2)

/-- the datum that an id reads as -/
def sd (v : ByteArray) : DataW Unit := .lit (.string v.data.toList)
theorem sd_val {v : Value} {s : ByteArray} {ps : List MemPlace} (h : plainElem (H := Unit) Try.prog 9 v = some (sd s, ps)) : v = .string s := by
  obtain ⟨t, rfl, ht, _⟩ := plainElem_string_inv Try.underlying9 h
  simp only [sd, Prod.mk.injEq] at ht
  have := ht.1
  injection this with this
  injection this with this
  have e : s = t := ByteArray.ext (Array.toList_inj.1 this)
  rw [e]

/-- BLOCK b OF w IS A MAP OF AT MOST n ENTRIES THAT HOLDS JUST WHAT THE TABLE l HOLDS. -/
def MapIs (w : World) (b n : Nat) (l : Tab) : Prop :=
  Pl.Nd l ∧ ∃ D : DataW Unit, w.ownsMap Try.prog 38 (plainElem Try.prog 9) b n D ∧ Maps.size D = l.length ∧
    ∀ k, Ok k → Maps.has D (kl k) = (Pl.get l k).isSome ∧ D.atKey (kl k) (sd ByteArray.empty) = sd ((Pl.get l k).getD ByteArray.empty)

theorem MapIs.nd {w : World} {b n : Nat} {l : Tab} (h : MapIs w b n l) : Pl.Nd l := h.1
theorem MapIs.lt {w : World} {b n : Nat} {l : Tab} (h : MapIs w b n l) : b < w.heap.size := by obtain ⟨_, D, h, _⟩ := h; exact h.lt
theorem MapIs.kept {w w' : World} {b n : Nat} {l : Tab} {row : Option Nat} (h : MapIs w b n l) (hg : w.grownBy w' row) (hne : some b ≠ row) : MapIs w' b n l := by
  obtain ⟨hn, D, h, r⟩ := h
  exact ⟨hn, D, h.kept hg hne, r⟩
theorem MapIs.more {w : World} {b n n' : Nat} {l : Tab} (h : MapIs w b n l) (hn : n ≤ n') : MapIs w b n' l := by
  obtain ⟨hd, D, h, r⟩ := h
  exact ⟨hd, D, h.mono hn, r⟩
theorem mapIs_made (w : World) : MapIs (w.alloc (.map #[] 0)) w.heap.size 0 [] := by
  refine ⟨Pl.nd_nil, _, World.ownsMap_made w _ _ _, rfl, fun k _ => ⟨rfl, rfl⟩⟩

/-- 'm[k]' -/
theorem MapIs.look {w : World} {b n : Nat} {l : Tab} (h : MapIs w b n l) {k : Key} (hk : Ok k) :
    (Instr.lookup 28 (.map (some b)) (.agg #[.string k.1, .string k.2]) false).run Try.prog w = .ok (.string ((Pl.get l k).getD ByteArray.empty)) w := by
  obtain ⟨_, D, h, _, r⟩ := h
  obtain ⟨v, ps, hrun, hv⟩ := h.lookup law38 Try.underlying28 (zero9 w) (plainElem_string Try.underlying9 (s := ByteArray.empty) (by simp)) (key_mk hk)
  have e := (r k hk).2
  have e2 : D.atKey (kl k) (.lit (.string ByteArray.empty.data.toList)) = sd ((Pl.get l k).getD ByteArray.empty) := e
  rw [e2] at hv
  rw [← sd_val hv]
  exact hrun
/-- 'v, ok := m[k]' -/
theorem MapIs.look_ok {w : World} {b n : Nat} {l : Tab} (h : MapIs w b n l) {k : Key} (hk : Ok k) :
    (Instr.lookup 28 (.map (some b)) (.agg #[.string k.1, .string k.2]) true).run Try.prog w = .ok (.tuple #[.string ((Pl.get l k).getD ByteArray.empty), .bool (Pl.get l k).isSome]) w := by
  obtain ⟨_, D, h, _, r⟩ := h
  obtain ⟨v, ps, hrun, hv⟩ := h.look_ok law38 Try.underlying28 (zero9 w) (plainElem_string Try.underlying9 (s := ByteArray.empty) (by simp)) (key_mk hk)
  have e := (r k hk).2
  have e2 : D.atKey (kl k) (.lit (.string ByteArray.empty.data.toList)) = sd ((Pl.get l k).getD ByteArray.empty) := e
  rw [e2] at hv
  rw [← sd_val hv, ← (r k hk).1]
  exact hrun
/-- 'len(m)' -/
theorem MapIs.len {w : World} {b n : Nat} {l : Tab} (h : MapIs w b n l) (ty : TypeId) : (Builtin.len_ #[28] ty #[.map (some b)]).run Try.prog w = .ok (.int .i64 (l.length : Int)) w := by
  obtain ⟨_, D, h, hs, _⟩ := h
  rw [← hs]
  exact h.len Try.underlying28 ty
/-- 'delete(m, k)' -/
theorem MapIs.drop {w : World} {b n : Nat} {l : Tab} (h : MapIs w b n l) {k : Key} (hk : Ok k) (ty : TypeId) :
    ∃ w', (Builtin.delete_ #[28, 38] ty #[.map (some b), .agg #[.string k.1, .string k.2]]).run Try.prog w = .ok (.tuple #[]) w' ∧ MapIs w' b n (Pl.del l k) ∧ w.grownBy w' (some b) := by
  obtain ⟨hd, D, h, hs, r⟩ := h
  obtain ⟨w', hrun, h', ht⟩ := h.drop law38 Try.underlying28 (key_mk hk) ty
  refine ⟨w', hrun, ⟨Pl.nd_del hd k, _, h', ?_, fun x hx => ?_⟩, ht.grown⟩
  · have e1 := Maps.size_del (k := kl k) (h.tidy law38)
    have e2 := Pl.length_del hd k
    rw [(r k hk).1] at e1
    omega
  · by_cases e : x = k
    · subst e
      rw [Maps.has_del_same, Maps.atKey_del_same, Pl.get_del_same]
      exact ⟨rfl, rfl⟩
    · rw [Maps.has_del_other (kl_ne hk hx e), Maps.atKey_del_other (kl_ne hk hx e), Pl.get_del_other l e]
      exact r x hx
/-- 'm[k] = v' -/
theorem MapIs.store {w : World} {b n : Nat} {l : Tab} (h : MapIs w b n l) {k : Key} (hk : Ok k) {v : ByteArray} (hv : v.size ≤ maxLen) (hn : n < maxLen) :
    ∃ w', (Instr.mapUpdate 28 (.map (some b)) (.agg #[.string k.1, .string k.2]) (.string v)).run Try.prog w = .ok () w' ∧ MapIs w' b (n + 1) (Pl.put l k v) ∧ w.grownBy w' (some b) := by
  obtain ⟨hd, D, h, hs, r⟩ := h
  obtain ⟨w', hrun, h', ht⟩ := h.store law38 Try.underlying28 hn (key_mk hk) (plainElem_string (H := Unit) Try.underlying9 hv)
  have hkl := law38.key (key_mk hk)
  refine ⟨w', hrun, ⟨Pl.nd_put hd k v, _, h', ?_, fun x hx => ?_⟩, ht.grown⟩
  · rw [Maps.size_put (h.tidy law38), (r k hk).1, Pl.length_put hd k v, hs]
  · by_cases e : x = k
    · subst e
      rw [Maps.has_put_same h.isMap hkl, Maps.atKey_put_same h.isMap hkl, Pl.get_put_same]
      exact ⟨rfl, rfl⟩
    · rw [Maps.has_put_other (kl_ne hk hx e), Maps.atKey_put_other (kl_ne hk hx e), Pl.get_put_other l v e]
      exact r x hx
end Go.Proofs.Qxb6615505a
