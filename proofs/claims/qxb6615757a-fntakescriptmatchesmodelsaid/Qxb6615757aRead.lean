/-
  THE ARGUMENTS, OPENED: member lists and lists of member lists.
-/
import Derived.Test.Qxb6615757aBytes
import Derived.ProofKit
import Derived.Deep.Slices
import Derived.Deep.Strs
namespace Go.Proofs.Qxb6615757a
open Go.ChangeShapes Go.WideShapes Go.ChangeAt Go.RowKit Go.Deep

theorem cells37 : Try.prog.cellsOf 37 = 2 := by kernel_rfl
theorem cells22 : Try.prog.cellsOf 22 = 1 := by kernel_rfl
theorem cells9 : Try.prog.cellsOf 9 = 1 := by kernel_rfl
theorem cells3 : Try.prog.cellsOf 3 = 1 := by kernel_rfl
theorem below_of_grown {w w' : World} (h : w.grownBy w' none) : Below w.heap.size w w' := ⟨h.os, h.tape, h.output, h.size, fun k hk => h.block k hk (by simp)⟩

section
variable {H : Type} {enc : TypeId × Value → H} {w : World} {base : Nat} {spare : Nat → Bool} {held : Bool}

set_option maxRecDepth 100000 in
theorem read_mem {n : Nat} {cs : List Value} {y : DataW H × List MemPlace} (h : DataW.trod enc Try.prog w base spare held n 37 cs = some y) :
    ∃ m : Mem, cs = [.int .i64 m.1, .string m.2] ∧ m.2.size ≤ maxLen := by
  obtain ⟨xs, k, _, _, hl, hx, hf⟩ := DataW.trod_struct Try.underlying37 h
  rw [cells37] at hl
  match cs, hl with
  | [v0, v1], _ =>
  match xs, hx with
  | [x0, x1], _ =>
  have t0 := hf 0 _ rfl
  have t1 := hf 1 _ rfl
  simp [cells9, cells3] at t0 t1
  obtain ⟨s0, e0, _, z0⟩ := DataW.trod_int Try.underlying3 t0
  obtain ⟨s1, e1, _, z1⟩ := DataW.trod_string Try.underlying9 t1
  simp at e0 e1
  subst e0 e1
  exact ⟨(s0, s1), rfl, z1⟩

theorem mem_cells {b off i : Nat} {m : Mem} (h : w.cells? base ((⟨b, off, none⟩ : Addr).add (i * 2)) 2 = some [.int .i64 m.1, .string m.2]) : MemAt w (some ⟨b, off, none⟩) i m := by
  obtain ⟨_, _, hc⟩ := World.cells?_some h
  have h0 := hc 0 (by omega)
  have h1 := hc 1 (by omega)
  simp only [WideShapes.add_plain] at h0 h1
  exact ⟨b, off, rfl, h0, h1⟩

theorem read_mems {n : Nat} {a : Option Addr} {len cap : Nat} {y : DataW H × List MemPlace} (h : DataW.trod enc Try.prog w base spare held n 22 [.slice a len cap] = some y) :
    ∃ ms : List Mem, ms.length = len ∧ MsAt w a ms ∧ (a = none → ms = []) ∧ len ≤ maxLen ∧ ∀ m ∈ ms, m.2.size ≤ maxLen := by
  rcases open_slice Try.underlying22 h with ⟨hcs, _⟩ | ⟨a', len', cap', m, k, D, Pl, hcs, hb, hl, hm, hmm, _, hx⟩
  · simp at hcs
    obtain ⟨rfl, rfl, _⟩ := hcs
    exact ⟨[], rfl, fun i m hi => by simp at hi, fun _ => rfl, by simp [maxLen], fun m hm => by simp at hm⟩
  · simp at hcs
    obtain ⟨rfl, rfl, rfl⟩ := hcs
    have hle : len ≤ m := by rw [hmm]; split <;> omega
    rw [cells37] at hx
    have key : ∀ i, i < len → ∃ x : Mem, MemAt w (some a') i x ∧ x.2.size ≤ maxLen := fun i hi => by
      obtain ⟨cs', h1, h2⟩ := hx i (by omega)
      obtain ⟨r, rfl, h3⟩ := read_mem h2
      refine ⟨r, ?_, h3⟩
      obtain ⟨b, off, spot⟩ := a'
      have hs : spot = none := by
        obtain ⟨cs0, g1, g2⟩ := hx 0 (by omega)
        obtain ⟨r0, rfl, _⟩ := read_mem g2
        obtain ⟨_, _, hc⟩ := World.cells?_some g1
        have := World.cell?_spot (hc 0 (by omega))
        simpa [Addr.add] using this
      subst hs
      exact mem_cells h1
    have inh : Inhabited Mem := ⟨(0, ByteArray.empty)⟩
    obtain ⟨f, hf⟩ := choose_lt key
    refine ⟨(List.range len).map f, by simp, fun i x hi => ?_, (fun e => by cases e), by omega, fun x hx => ?_⟩
    · rw [List.getElem?_map] at hi
      by_cases hlt : i < len
      · rw [List.getElem?_range hlt] at hi
        simp at hi
        subst hi
        exact (hf i hlt).1
      · rw [List.getElem?_eq_none (by simp; omega)] at hi
        simp at hi
    · obtain ⟨i, hi, rfl⟩ := List.mem_map.1 hx
      exact (hf i (List.mem_range.1 hi)).2

theorem read_pend {n : Nat} {a : Option Addr} {len cap : Nat} {y : DataW H × List MemPlace} (h : DataW.trod enc Try.prog w base spare held n 48 [.slice a len cap] = some y) :
    ∃ ps : List Sl, ps.length = len ∧ PsR w a ps ∧ (a = none → ps = []) ∧ len ≤ maxLen := by
  rcases open_slice1 Try.underlying48 cells22 h with ⟨hcs, _⟩ | ⟨a', len', cap', m, k, V, D, Pl, hcs, hb, hl, hm, hmm, _, hx⟩
  · simp at hcs
    obtain ⟨rfl, rfl, _⟩ := hcs
    exact ⟨[], rfl, fun i m hi => by simp at hi, fun _ => rfl, by simp [maxLen]⟩
  · simp at hcs
    obtain ⟨rfl, rfl, rfl⟩ := hcs
    have hle : len ≤ m := by rw [hmm]; split <;> omega
    have key : ∀ i, i < len → ∃ x : Sl, PAt w (some a') i x ∧ SlR w x := fun i hi => by
      obtain ⟨h1, h2⟩ := hx i (by omega)
      obtain ⟨b, off, spot⟩ := a'
      have hs : spot = none := by
        have := World.cell?_spot (hx 0 (by omega)).1
        simpa [Addr.add] using this
      subst hs
      obtain ⟨a2, l2, c2, hv⟩ : ∃ a2 l2 c2, V i = .slice a2 l2 c2 := by
        rcases open_slice Try.underlying22 h2 with ⟨e, _⟩ | ⟨a2, l2, c2, _, _, _, _, e, _⟩
        · exact ⟨_, _, _, by simpa using e⟩
        · exact ⟨_, _, _, by simpa using e⟩
      rw [hv] at h1 h2
      obtain ⟨ms, rfl, hm1, hm2, hm3, hm4⟩ := read_mems h2
      simp only [WideShapes.add_plain] at h1
      exact ⟨⟨a2, c2, ms⟩, ⟨b, off, rfl, h1⟩, hm1, hm2, hm3, hm4⟩
    have inh : Inhabited Sl := ⟨⟨none, 0, []⟩⟩
    obtain ⟨f, hf⟩ := choose_lt key
    refine ⟨(List.range len).map f, by simp, fun i x hi => ?_, (fun e => by cases e), by omega⟩
    rw [List.getElem?_map] at hi
    by_cases hlt : i < len
    · rw [List.getElem?_range hlt] at hi
      simp at hi
      subst hi
      exact hf i hlt
    · rw [List.getElem?_eq_none (by simp; omega)] at hi
      simp at hi
end
end Go.Proofs.Qxb6615757a
