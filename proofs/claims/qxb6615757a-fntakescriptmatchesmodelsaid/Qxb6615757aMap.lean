/-
  A MAP OF THE CALL's OWN ('map[string]*client') TOLD BY A PLAIN TABLE: 'PMap w b l': block b of w is a map that holds just what l holds: at an id the block of its client. Its operations as equations on runs.
-/
import Derived.Test.Qxb6615757aRows
import Derived.Test.Qxb6615757aTab
import Derived.WalkKit
import Derived.Maps.OwnSet
import Derived.Maps.OwnRows
import Derived.ProofKit
namespace Go.Proofs.Qxb6615757a
open Go.RowKit Go.Maps

theorem laidOut : laidOutB Try.prog = true := by kernel_rfl
theorem law9 : Keyed Try.prog 9 := string_keyed Try.underlying9
theorem zero61 (w : World) : (zeroValue 61).run Try.prog w = .ok (.pointer none) w := by kernel_rfl

/-- how a pointer to a client reads -/
def pe : Value → Option (DataW Unit × List MemPlace)
  | .pointer (some a) => if a.off = 0 ∧ a.spot = none then some (.lit (.int .i64 a.block), []) else none
  | .pointer none => some (.nil, [])
  | _ => none
/-- a pointer to block b, or nil -/
def ptr : Option Nat → Value
  | some b => .pointer (some ⟨b, 0, none⟩)
  | none => .pointer none
def pd : Option Nat → DataW Unit
  | some b => .lit (.int .i64 b)
  | none => .nil
theorem pe_ptr (p : Option Nat) : pe (ptr p) = some (pd p, []) := by cases p <;> simp [pe, ptr, pd]
theorem pe_inv {v : Value} {p : Option Nat} {ps : List MemPlace} (h : pe v = some (pd p, ps)) : v = ptr p := by
  unfold pe at h
  split at h
  · rename_i a
    split at h
    · rename_i hc
      simp only [Option.some.injEq, Prod.mk.injEq] at h
      cases p with
      | none => cases h.1
      | some b =>
        have := h.1
        simp only [pd, DataW.lit.injEq, Lit.int.injEq, true_and] at this
        obtain ⟨bl, off, spot⟩ := a
        obtain ⟨h1, h2⟩ := hc
        simp only at h1 h2 this
        subst h1 h2
        have : bl = b := by omega
        subst this
        rfl
    · cases h
  · cases p with
    | none => rfl
    | some b => simp [pd] at h
  · cases h

def kl (x : ByteArray) : Lit := .string x.data.toList
theorem key_mk {x : ByteArray} (h : x.size ≤ maxLen) : keyOf Try.prog 9 (.string x) = some (kl x) := Go.WideMaps.keyOf_string_mk Try.underlying9 h
theorem kl_ne {x y : ByteArray} (h : y ≠ x) : kl y ≠ kl x := fun e => h (by
  simp only [kl, Lit.string.injEq] at e
  exact ByteArray.ext (Array.toList_inj.1 e))

/-- BLOCK b OF w IS A MAP THAT HOLDS JUST WHAT THE TABLE l HOLDS. -/
def PMap (w : World) (b : Nat) (l : List (ByteArray × Nat)) : Prop :=
  Pl.Nd l ∧ ∃ (n : Nat) (D : DataW Unit), w.ownsMap Try.prog 9 pe b n D ∧ Maps.size D = l.length ∧
    ∀ x : ByteArray, x.size ≤ maxLen → Maps.has D (kl x) = (Pl.get l x).isSome ∧ D.atKey (kl x) .nil = pd (Pl.get l x)

theorem ownsMap_tight {H : Type} {P : Program} {k : TypeId} {R : Value → Option (DataW H × List MemPlace)} {w : World} {b n : Nat} {D : DataW H} (h : w.ownsMap P k R b n D) : w.ownsMap P k R b (Maps.size D) D := by
  obtain ⟨es, clock, hb, F, hs, rfl⟩ := h
  exact ⟨es, clock, hb, F, by simp [Maps.size, length_sorted], rfl⟩
theorem PMap.lt {w : World} {b : Nat} {l : List (ByteArray × Nat)} (h : PMap w b l) : b < w.heap.size := by obtain ⟨_, n, D, h, _⟩ := h; exact h.lt
theorem PMap.of_block {w w' : World} {b : Nat} {l : List (ByteArray × Nat)} (h : PMap w b l) (e : w'.heap[b]? = w.heap[b]?) : PMap w' b l := by
  obtain ⟨hn, n, D, ⟨es, clock, hb, r⟩, r2⟩ := h
  exact ⟨hn, n, D, ⟨es, clock, e.trans hb, r⟩, r2⟩
theorem PMap.no_cell {w : World} {b : Nat} {l : List (ByteArray × Nat)} (h : PMap w b l) (o : Nat) : w.cell? ⟨b, o, none⟩ = none := by
  obtain ⟨_, n, D, ⟨es, clock, hb, _⟩, _⟩ := h
  simp [World.cell?, hb]
theorem pmap_made (w : World) : PMap (w.alloc (.map #[] 0)) w.heap.size [] :=
  ⟨Pl.nd_nil, 0, _, World.ownsMap_made w _ _ _, rfl, fun _ _ => ⟨rfl, rfl⟩⟩
/-- 'm[k]' -/
theorem PMap.look {w : World} {b : Nat} {l : List (ByteArray × Nat)} (h : PMap w b l) {x : ByteArray} (hx : x.size ≤ maxLen) :
    (Instr.lookup 60 (.map (some b)) (.string x) false).run Try.prog w = .ok (ptr (Pl.get l x)) w := by
  obtain ⟨_, n, D, h, _, r⟩ := h
  obtain ⟨v, ps, hrun, hv⟩ := h.lookup law9 Try.underlying60 (zero61 w) (pe_ptr none) (key_mk hx)
  have e : D.atKey (kl x) (pd none) = pd (Pl.get l x) := (r x hx).2
  rw [e] at hv
  rw [← pe_inv hv]
  exact hrun
/-- 'len(m)' -/
theorem PMap.len {w : World} {b : Nat} {l : List (ByteArray × Nat)} (h : PMap w b l) (ty : TypeId) : (Builtin.len_ #[60] ty #[.map (some b)]).run Try.prog w = .ok (.int .i64 (l.length : Int)) w := by
  obtain ⟨_, n, D, h, hs, _⟩ := h
  rw [← hs]
  exact h.len Try.underlying60 ty
/-- 'delete(m, k)' -/
theorem PMap.drop {w : World} {b : Nat} {l : List (ByteArray × Nat)} (h : PMap w b l) {k : ByteArray} (hk : k.size ≤ maxLen) (ty : TypeId) :
    ∃ w', (Builtin.delete_ #[60, 9] ty #[.map (some b), .string k]).run Try.prog w = .ok (.tuple #[]) w' ∧ PMap w' b (Pl.del l k) ∧ w.mapTurned w' b := by
  obtain ⟨hd, n, D, h, hs, r⟩ := h
  obtain ⟨w', hrun, h', ht⟩ := h.drop law9 Try.underlying60 (key_mk hk) ty
  refine ⟨w', hrun, ⟨Pl.nd_del hd k, n, _, h', ?_, fun x hx => ?_⟩, ht⟩
  · have e1 := Maps.size_del (k := kl k) (h.tidy law9)
    have e2 := Pl.length_del hd k
    rw [(r k hk).1] at e1
    omega
  · by_cases e : x = k
    · subst e
      rw [Maps.has_del_same, Maps.atKey_del_same, Pl.get_del_same]
      exact ⟨rfl, rfl⟩
    · rw [Maps.has_del_other (kl_ne e), Maps.atKey_del_other (kl_ne e), Pl.get_del_other l e]
      exact r x hx
/-- 'm[k] = v' -/
theorem PMap.store {w : World} {b : Nat} {l : List (ByteArray × Nat)} (h : PMap w b l) {k : ByteArray} (hk : k.size ≤ maxLen) (v : Nat) (hn : l.length < maxLen) :
    ∃ w', (Instr.mapUpdate 60 (.map (some b)) (.string k) (.pointer (some ⟨v, 0, none⟩))).run Try.prog w = .ok () w' ∧ PMap w' b (Pl.put l k v) ∧ w.mapTurned w' b := by
  obtain ⟨hd, n, D, h, hs, r⟩ := h
  have h1 := ownsMap_tight h
  rw [hs] at h1
  obtain ⟨w', hrun, h', ht⟩ := h1.store law9 Try.underlying60 hn (key_mk hk) (pe_ptr (some v))
  have hkl := law9.key (key_mk hk)
  refine ⟨w', hrun, ⟨Pl.nd_put hd k v, _, _, h', ?_, fun x hx => ?_⟩, ht⟩
  · rw [Maps.size_put (h.tidy law9), (r k hk).1, Pl.length_put hd k v, hs]
  · by_cases e : x = k
    · subst e
      rw [Maps.has_put_same h.isMap hkl, Maps.atKey_put_same h.isMap hkl, Pl.get_put_same]
      exact ⟨rfl, rfl⟩
    · rw [Maps.has_put_other (kl_ne e), Maps.atKey_put_other (kl_ne e), Pl.get_put_other l v e]
      exact r x hx
/-- 'm[k]' of a nil map -/
theorem look_nil {w : World} {x : ByteArray} (hx : x.size ≤ maxLen) : (Instr.lookup 60 (.map none) (.string x) false).run Try.prog w = .ok (.pointer none) w :=
  Maps.look_nil false law9 Try.underlying60 (zero61 w) (key_mk hx)
end Go.Proofs.Qxb6615757a
