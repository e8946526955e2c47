/-
  THE ARGUMENTS, OPENED: steps.
-/
import Derived.Test.Qxb6615757aRead
import Derived.Test.Qxb6615757aSteps
namespace Go.Proofs.Qxb6615757a
open Go.ChangeShapes Go.WideShapes Go.ChangeAt Go.RowKit Go.Deep

theorem cells34 : Try.prog.cellsOf 34 = 7 := by kernel_rfl
theorem cells23 : Try.prog.cellsOf 23 = 1 := by kernel_rfl
theorem cells2 : Try.prog.cellsOf 2 = 1 := by kernel_rfl
theorem u64_in {n : Int} (h : (Lit.int .u64 n).wf = true) : 0 ≤ n ∧ n ≤ 18446744073709551615 := by
  simp [Lit.wf, IntKind.min, IntKind.max, IntKind.signed, IntKind.bits] at h
  omega
theorem i64_in {n : Int} (h : (Lit.int .i64 n).wf = true) : -9223372036854775808 ≤ n ∧ n ≤ 9223372036854775807 := by
  simp [Lit.wf, IntKind.min, IntKind.max, IntKind.signed, IntKind.bits] at h
  omega

section
variable {H : Type} {enc : TypeId × Value → H} {w : World} {base : Nat} {spare : Nat → Bool} {held : Bool}

set_option maxRecDepth 100000 in
theorem read_step {n : Nat} {cs : List Value} {y : DataW H × List MemPlace} (h : DataW.trod enc Try.prog w base spare held n 34 cs = some y) :
    ∃ s : St, cs = [.string s.cl, .int .u64 s.seq, .int .i64 s.tm, .int .i64 s.ent, .slice s.cfg.a s.cfg.ms.length s.cfg.cap, .int .u64 s.drop, .int .u64 s.last] ∧ StR w s := by
  obtain ⟨xs, k, _, _, hl, hx, hf⟩ := DataW.trod_struct Try.underlying34 h
  rw [cells34] at hl
  match cs, hl with
  | [v0, v1, v2, v3, v4, v5, v6], _ =>
  match xs, hx with
  | [x0, x1, x2, x3, x4, x5, x6], _ =>
  have t0 := hf 0 _ rfl
  have t1 := hf 1 _ rfl
  have t2 := hf 2 _ rfl
  have t3 := hf 3 _ rfl
  have t4 := hf 4 _ rfl
  have t5 := hf 5 _ rfl
  have t6 := hf 6 _ rfl
  simp [cells9, cells3, cells23, cells2, cells22] at t0 t1 t2 t3 t4 t5 t6
  obtain ⟨s0, e0, _, z0⟩ := DataW.trod_string Try.underlying9 t0
  obtain ⟨s1, e1, _, z1⟩ := DataW.trod_int Try.underlying23 t1
  obtain ⟨s2, e2, _, z2⟩ := DataW.trod_int Try.underlying2 t2
  obtain ⟨s3, e3, _, z3⟩ := DataW.trod_int Try.underlying3 t3
  obtain ⟨s5, e5, _, z5⟩ := DataW.trod_int Try.underlying23 t5
  obtain ⟨s6, e6, _, z6⟩ := DataW.trod_int Try.underlying23 t6
  obtain ⟨a4, l4, c4, e4⟩ : ∃ a2 l2 c2, v4 = .slice a2 l2 c2 := by
    rcases open_slice Try.underlying22 t4 with ⟨e, _⟩ | ⟨a2, l2, c2, _, _, _, _, e, _⟩
    · exact ⟨_, _, _, by simpa using e⟩
    · exact ⟨_, _, _, by simpa using e⟩
  rw [e4] at t4
  obtain ⟨ms, rfl, hm1, hm2, hm3, hm4⟩ := read_mems t4
  simp at e0 e1 e2 e3 e5 e6
  subst e0 e1 e2 e3 e4 e5 e6
  exact ⟨⟨s0, s1, s2, s3, ⟨a4, c4, ms⟩, s5, s6⟩, rfl, ⟨hm1, hm2, hm3, hm4⟩, z0, (i64_in z2).2, (u64_in z5).1, (u64_in z6).1, (u64_in z6).2⟩

theorem step_cells {b off i : Nat} {s : St} (h : w.cells? base ((⟨b, off, none⟩ : Addr).add (i * 7)) 7 = some [.string s.cl, .int .u64 s.seq, .int .i64 s.tm, .int .i64 s.ent, .slice s.cfg.a s.cfg.ms.length s.cfg.cap, .int .u64 s.drop, .int .u64 s.last]) : StAt w (some ⟨b, off, none⟩) i s := by
  obtain ⟨_, _, hc⟩ := World.cells?_some h
  have h0 := hc 0 (by omega)
  have h1 := hc 1 (by omega)
  have h2 := hc 2 (by omega)
  have h3 := hc 3 (by omega)
  have h4 := hc 4 (by omega)
  have h5 := hc 5 (by omega)
  have h6 := hc 6 (by omega)
  simp only [WideShapes.add_plain] at h0 h1 h2 h3 h4 h5 h6
  exact ⟨b, off, rfl, h0, h1, h2, h3, h4, h5, h6⟩

theorem read_steps {n : Nat} {a : Option Addr} {len cap : Nat} {y : DataW H × List MemPlace} (h : DataW.trod enc Try.prog w base spare held n 24 [.slice a len cap] = some y) :
    ∃ ss : List St, ss.length = len ∧ SsR w a ss ∧ len ≤ maxLen := by
  rcases open_slice Try.underlying24 h with ⟨hcs, _⟩ | ⟨a', len', cap', m, k, D, Pl, hcs, hb, hl, hm, hmm, _, hx⟩
  · simp at hcs
    obtain ⟨rfl, rfl, _⟩ := hcs
    exact ⟨[], rfl, fun i m hi => by simp at hi, by simp [maxLen]⟩
  · simp at hcs
    obtain ⟨rfl, rfl, rfl⟩ := hcs
    have hle : len ≤ m := by rw [hmm]; split <;> omega
    rw [cells34] at hx
    have key : ∀ i, i < len → ∃ x : St, StAt w (some a') i x ∧ StR w x := fun i hi => by
      obtain ⟨cs', h1, h2⟩ := hx i (by omega)
      obtain ⟨r, rfl, h3⟩ := read_step h2
      refine ⟨r, ?_, h3⟩
      obtain ⟨b, off, spot⟩ := a'
      have hs : spot = none := by
        obtain ⟨cs0, g1, g2⟩ := hx 0 (by omega)
        obtain ⟨r0, rfl, _⟩ := read_step g2
        obtain ⟨_, _, hc⟩ := World.cells?_some g1
        have := World.cell?_spot (hc 0 (by omega))
        simpa [Addr.add] using this
      subst hs
      exact step_cells h1
    have inh : Inhabited St := ⟨⟨ByteArray.empty, 0, 0, 0, ⟨none, 0, []⟩, 0, 0⟩⟩
    obtain ⟨f, hf⟩ := choose_lt key
    refine ⟨(List.range len).map f, by simp, fun i x hi => ?_, by omega⟩
    rw [List.getElem?_map] at hi
    by_cases hlt : i < len
    · rw [List.getElem?_range hlt] at hi
      simp at hi
      subst hi
      exact hf i hlt
    · rw [List.getElem?_eq_none (by simp; omega)] at hi
      simp at hi
end
end Go.Proofs.Qxb6615757a
