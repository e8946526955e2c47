/-
  WHAT THE ARGUMENTS READ AS: a ClaimRec, a slice of them.
-/
import Derived.Test.Qxb6615505aMid
import Derived.ProofKit
import Derived.Deep.Slices
namespace Go.Proofs.Qxb6615505a
open Go.ChangeShapes Go.WideShapes Go.ChangeAt Go.RowKit Go.Deep
open Pl (CRec Key Tab)

theorem cells27 : Try.prog.cellsOf 27 = 5 := by kernel_rfl
theorem cells9 : Try.prog.cellsOf 9 = 1 := by kernel_rfl
theorem cells25 : Try.prog.cellsOf 25 = 1 := by kernel_rfl
theorem cells4 : Try.prog.cellsOf 4 = 1 := by kernel_rfl

/-- its strings are no longer than strings can be -/
def RecOk (r : CRec) : Prop := r.id.size ≤ maxLen ∧ ∀ k, Pl.claim r = some k → Ok k

section
variable {H : Type} {enc : TypeId × Value → H} {w : World} {base : Nat} {spare : Nat → Bool} {held : Bool}

theorem read_mach {n : Nat} {cs : List Value} {y : DataW H × List MemPlace} (h : DataW.trod enc Try.prog w base spare held n 25 cs = some y) :
    ∃ mp m, cs = [.pointer mp] ∧ MachIs w mp m ∧ ∀ s, m = some s → s.size ≤ maxLen := by
  rcases DataW.trod_pointer Try.underlying25 h with ⟨rfl, _⟩ | ⟨a, cs', y', k, _, rfl, _, hc, ht⟩
  · exact ⟨none, none, rfl, Or.inl ⟨rfl, rfl⟩, by simp⟩
  · obtain ⟨s, rfl, _, hs⟩ := DataW.trod_string Try.underlying9 ht
    rw [cells9] at hc
    exact ⟨some a, some s, rfl, Or.inr ⟨a, s, rfl, rfl, cell_of_cells?_one hc⟩, fun t e => by cases e; exact hs⟩

theorem read_rec {n : Nat} {cs : List Value} {y : DataW H × List MemPlace} (h : DataW.trod enc Try.prog w base spare held n 27 cs = some y) :
    ∃ (r : CRec) (mp : Option Addr), cs = [.string r.id, .string r.ten, .pointer mp, .bool r.excl, .string r.st] ∧ MachIs w mp r.mach ∧ RecOk r := by
  obtain ⟨xs, k, _, _, hl, hx, hf⟩ := DataW.trod_struct Try.underlying27 h
  rw [cells27] at hl
  match cs, hl with
  | [v0, v1, v2, v3, v4], _ =>
  match xs, hx with
  | [x0, x1, x2, x3, x4], _ =>
  have t0 := hf 0 _ rfl
  have t1 := hf 1 _ rfl
  have t2 := hf 2 _ rfl
  have t3 := hf 3 _ rfl
  have t4 := hf 4 _ rfl
  simp [cells9, cells25, cells4] at t0 t1 t2 t3 t4
  obtain ⟨s0, e0, _, z0⟩ := DataW.trod_string Try.underlying9 t0
  obtain ⟨s1, e1, _, z1⟩ := DataW.trod_string Try.underlying9 t1
  obtain ⟨mp, m, e2, hm, z2⟩ := read_mach t2
  obtain ⟨b3, e3, _⟩ := DataW.trod_bool Try.underlying4 t3
  obtain ⟨s4, e4, _, z4⟩ := DataW.trod_string Try.underlying9 t4
  simp at e0 e1 e2 e3 e4
  subst e0 e1 e2 e3 e4
  refine ⟨⟨s0, s1, m, b3, s4⟩, mp, rfl, hm, z0, ?_⟩
  intro c hc
  unfold Pl.claim at hc
  split at hc
  · simp only [Option.map_eq_some_iff] at hc
    obtain ⟨mm, h1, rfl⟩ := hc
    exact ⟨z1, z2 mm h1⟩
  · cases hc
/-- the five cells of an element that a row of cells gives -/
theorem step_cells {b off i : Nat} {r : CRec} {mp : Option Addr} (h : w.cells? base ((⟨b, off, none⟩ : Addr).add (i * 5)) 5 = some [.string r.id, .string r.ten, .pointer mp, .bool r.excl, .string r.st]) (hm : MachIs w mp r.mach) : StepAt w b off i r mp := by
  obtain ⟨_, _, hc⟩ := World.cells?_some h
  have h0 := hc 0 (by omega)
  have h1 := hc 1 (by omega)
  have h2 := hc 2 (by omega)
  have h3 := hc 3 (by omega)
  have h4 := hc 4 (by omega)
  simp only [WideShapes.add_plain] at h0 h1 h2 h3 h4
  exact ⟨h0, h1, h2, h3, h4, hm⟩

theorem read_steps {n : Nat} {a : Option Addr} {len cap : Nat} {y : DataW H × List MemPlace} (h : DataW.trod enc Try.prog w base spare held n 22 [.slice a len cap] = some y) :
    len = 0 ∨ ∃ (b off : Nat) (S : Nat → CRec) (MP : Nat → Option Addr), a = some ⟨b, off, none⟩ ∧ len ≤ maxLen ∧ (∀ i, i < len → StepAt w b off i (S i) (MP i)) ∧ ∀ i, i < len → RecOk (S i) := by
  rcases open_slice Try.underlying22 h with ⟨hcs, _⟩ | ⟨a', len', cap', m, k, D, Pl, hcs, hb, hl, hm, hmm, _, hx⟩
  · simp at hcs
    exact Or.inl hcs.2.1
  · simp at hcs
    obtain ⟨rfl, rfl, rfl⟩ := hcs
    have hle : len ≤ m := by rw [hmm]; split <;> omega
    by_cases h0 : len = 0
    · exact Or.inl h0
    right
    rw [cells27] at hx
    have key : ∀ i, i < len → ∃ x : CRec × Option Addr, w.cells? base (a'.add (i * 5)) 5 = some [.string x.1.id, .string x.1.ten, .pointer x.2, .bool x.1.excl, .string x.1.st] ∧ MachIs w x.2 x.1.mach ∧ RecOk x.1 := fun i hi => by
      obtain ⟨cs', h1, h2⟩ := hx i (by omega)
      obtain ⟨r, mp, rfl, h3, h4⟩ := read_rec h2
      exact ⟨(r, mp), h1, h3, h4⟩
    have inh : Inhabited (CRec × Option Addr) := ⟨(⟨ByteArray.empty, ByteArray.empty, none, false, ByteArray.empty⟩, none)⟩
    obtain ⟨f, hf⟩ := choose_lt key
    obtain ⟨b, off, spot⟩ := a'
    have hs : spot = none := by
      obtain ⟨h1, _, _⟩ := hf 0 (by omega)
      obtain ⟨_, _, hc⟩ := World.cells?_some h1
      have := World.cell?_spot (hc 0 (by omega))
      simpa [Addr.add] using this
    subst hs
    exact ⟨b, off, fun i => (f i).1, fun i => (f i).2, rfl, by omega, fun i hi => step_cells (hf i hi).1 (hf i hi).2.1, fun i hi => (hf i hi).2.2⟩
end
end Go.Proofs.Qxb6615505a
