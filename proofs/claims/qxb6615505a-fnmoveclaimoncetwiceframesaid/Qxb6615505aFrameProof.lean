/-
  THE PROOF OF 'Rows.FnMoveClaimOnceTwiceFrameSaid'.
-/
import Derived.Test.Qxb6615505aRows
import Derived.Test.Qxb6615505aFrame
import Derived.WalkKit
import Derived.ProofKit
import Derived.OpenShut
import Derived.ShutString
import Derived.ChangeOld
import Derived.Below
import Derived.Deep.Slices
import Derived.Deep.Strs
namespace Go.Proofs.Qxb6615505a.fnMoveClaimOnceTwiceFrame
open Go.ChangeShapes Go.WideShapes Go.ChangeAt Go.RowKit Go.Deep
open Pl (CRec CRow Key Tab)

theorem own : ownKnob Try.prog.godebug = none := by kernel_rfl
theorem cells44 : Try.prog.cellsOf 44 = 3 := by kernel_rfl

section
variable {H : Type} {enc : TypeId × Value → H} {w : World} {base : Nat} {spare : Nat → Bool} {held : Bool}

theorem read_row {n : Nat} {cs : List Value} {y : DataW H × List MemPlace} (h : DataW.trod enc Try.prog w base spare held n 44 cs = some y) :
    ∃ r : CRow, cs = [.string r.ten, .string r.mach, .string r.id] ∧ RowOk r := by
  obtain ⟨xs, k, _, _, hl, hx, hf⟩ := DataW.trod_struct Try.underlying44 h
  rw [cells44] at hl
  match cs, hl with
  | [v0, v1, v2], _ =>
  match xs, hx with
  | [x0, x1, x2], _ =>
  have t0 := hf 0 _ rfl
  have t1 := hf 1 _ rfl
  have t2 := hf 2 _ rfl
  simp [cells9] at t0 t1 t2
  obtain ⟨s0, e0, _, z0⟩ := DataW.trod_string Try.underlying9 t0
  obtain ⟨s1, e1, _, z1⟩ := DataW.trod_string Try.underlying9 t1
  obtain ⟨s2, e2, _, z2⟩ := DataW.trod_string Try.underlying9 t2
  simp at e0 e1 e2
  subst e0 e1 e2
  exact ⟨⟨s0, s1, s2⟩, rfl, ⟨z0, z1⟩, z2⟩

theorem row_cells {b off i : Nat} {r : CRow} (h : w.cells? base ((⟨b, off, none⟩ : Addr).add (i * 3)) 3 = some [.string r.ten, .string r.mach, .string r.id]) : RowAt w (some ⟨b, off, none⟩) i r := by
  obtain ⟨_, _, hc⟩ := World.cells?_some h
  have h0 := hc 0 (by omega)
  have h1 := hc 1 (by omega)
  have h2 := hc 2 (by omega)
  simp only [WideShapes.add_plain] at h0 h1 h2
  exact ⟨b, off, rfl, h0, h1, h2⟩

theorem read_rows {n : Nat} {a : Option Addr} {len cap : Nat} {y : DataW H × List MemPlace} (h : DataW.trod enc Try.prog w base spare held n 40 [.slice a len cap] = some y) :
    len ≤ maxLen ∧ ∃ R : Nat → CRow, (∀ i, i < len → RowAt w a i (R i)) ∧ ∀ i, i < len → RowOk (R i) := by
  rcases open_slice Try.underlying40 h with ⟨hcs, _⟩ | ⟨a', len', cap', m, k, D, Pl, hcs, hb, hl, hm, hmm, _, hx⟩
  · simp at hcs
    obtain ⟨_, rfl, _⟩ := hcs
    exact ⟨by simp [maxLen], fun _ => ⟨ByteArray.empty, ByteArray.empty, ByteArray.empty⟩, fun i hi => absurd hi (Nat.not_lt_zero _), fun i hi => absurd hi (Nat.not_lt_zero _)⟩
  · simp at hcs
    obtain ⟨rfl, rfl, rfl⟩ := hcs
    have hle : len ≤ m := by rw [hmm]; split <;> omega
    refine ⟨by omega, ?_⟩
    rw [cells44] at hx
    have key : ∀ i, i < len → ∃ x : CRow, RowAt w (some a') i x ∧ RowOk x := fun i hi => by
      obtain ⟨cs', h1, h2⟩ := hx i (by omega)
      obtain ⟨r, rfl, h3⟩ := read_row h2
      refine ⟨r, ?_, h3⟩
      obtain ⟨b, off, spot⟩ := a'
      have hs : spot = none := by
        obtain ⟨cs0, g1, g2⟩ := hx 0 (by omega)
        obtain ⟨r0, rfl, _⟩ := read_row g2
        obtain ⟨_, _, hc⟩ := World.cells?_some g1
        have := World.cell?_spot (hc 0 (by omega))
        simpa [Addr.add] using this
      subst hs
      exact row_cells h1
    have inh : Inhabited CRow := ⟨⟨ByteArray.empty, ByteArray.empty, ByteArray.empty⟩⟩
    obtain ⟨f, hf⟩ := choose_lt key
    exact ⟨f, fun i hi => (hf i hi).1, fun i hi => (hf i hi).2⟩

theorem read_prev {n : Nat} {v : Option Addr} {y : DataW H × List MemPlace} (h : DataW.trod enc Try.prog w base spare held n 41 [.pointer v] = some y) :
    ∃ prev : Option CRec, PrevIn w v prev ∧ ∀ p, prev = some p → RecOk p := by
  rcases DataW.trod_pointer Try.underlying41 h with ⟨hcs, _⟩ | ⟨a, cs', y', k, _, hcs, _, hc, ht⟩
  · simp at hcs
    exact ⟨none, Or.inl ⟨hcs, rfl⟩, fun p e => by cases e⟩
  · simp at hcs
    subst hcs
    rw [cells27] at hc
    obtain ⟨r, mp, rfl, hm, hok⟩ := read_rec ht
    obtain ⟨b, off, spot⟩ := a
    obtain ⟨_, _, hcc⟩ := World.cells?_some hc
    have hs : spot = none := by
      have := World.cell?_spot (hcc 0 (by omega))
      simpa [Addr.add] using this
    subst hs
    have h0 := hcc 0 (by omega)
    have h1 := hcc 1 (by omega)
    have h2 := hcc 2 (by omega)
    have h3 := hcc 3 (by omega)
    have h4 := hcc 4 (by omega)
    simp only [WideShapes.add_plain] at h0 h1 h2 h3 h4
    exact ⟨some r, Or.inr ⟨b, off, r, mp, rfl, rfl, ⟨h0, h1, h2, h3, h4, hm⟩⟩, fun p e => by cases e; exact hok⟩
end

set_option maxRecDepth 100000 in
theorem lifted (os : Os) (started : os.Started) (H : Type) (enc : TypeId × Value → H) :
    ReturnsInHanded {} Try.checked os 4 .any (Rows.fnMoveClaimOnceTwiceFrameSpec.pre6 enc Try.prog Try.f4 Rows.fnMoveClaimOnceTwiceFrameRow.domain false) (Rows.fnMoveClaimOnceTwiceFrameSpec.post enc Try.prog Try.f4 false true false false) := by
  refine returnsInHanded_of_change (C := Try.checked) own started (by kernel_rfl) Try.func4
    (ChangeSpec.witness6 (enc := enc) (C := Try.checked) false ⟨#[], #[.slice none 0 0, .pointer none, .agg #[.string ⟨#[]⟩, .string ⟨#[]⟩, .pointer none, .bool false, .string ⟨#[]⟩]], []⟩ 8 (by kernel_rfl) (by kernel_rfl) (by kernel_rfl) (by kernel_rfl)) ?_
  intro W base args ds gs before hval0 hW hcnd _
  have hval : ∀ (j : Nat) t v, Try.f4.params[j]? = some t → args[j]? = some v → Value.okWide Try.prog W .any base t v := hval0
  have hW' := hW
  obtain ⟨p, q, hA0, hV, rfl, hfz, hnd⟩ := hW
  have hA : DataW.TrodAll enc Try.prog W 0 (fun _ => true) true Try.f4.params.toList args.toList ds p := hA0
  rw [Try.params4] at hA hval
  obtain ⟨v0, vs0, d0, ds0, p0, q0, hargs, rfl, rfl, h0, r0⟩ := trodAll_cons hA
  obtain ⟨v1, vs1, d1, ds1, p1, q1, rfl, rfl, rfl, h1, r1⟩ := trodAll_cons r0
  obtain ⟨v2, vs2, d2, ds2, p2, q2, rfl, rfl, rfl, h2, r2⟩ := trodAll_cons r1
  obtain ⟨rfl, rfl, rfl⟩ := trodAll_nil r2
  obtain rfl : args = #[v0, v1, v2] := by cases args; simp_all
  obtain ⟨rfl, rfl⟩ := trodVars_none hV
  obtain ⟨a0, len0, cap0, rfl⟩ := okWide_slice Try.underlying40 (hval 0 40 v0 rfl rfl)
  have k0 := h0
  have k1 := h1
  have k2 := h2
  have lt0 : ∀ x ∈ p0, x.block < W.heap.size := by obtain ⟨m, hm⟩ := k0; exact DataW.trod_lt m _ _ _ hm
  have lt1 : ∀ x ∈ p1, x.block < W.heap.size := by obtain ⟨m, hm⟩ := k1; exact DataW.trod_lt m _ _ _ hm
  have lt2 : ∀ x ∈ p2, x.block < W.heap.size := by obtain ⟨m, hm⟩ := k2; exact DataW.trod_lt m _ _ _ hm
  obtain ⟨cs2, rfl, hsz2⟩ := okWide_struct Try.underlying27 (hval 2 27 v2 rfl rfl)
  obtain ⟨pv, rfl⟩ := okWide_pointer Try.underlying41 (hval 1 41 v1 rfl rfl)
  have walk : Calls Try.prog 4 #[.slice a0 len0 cap0, .pointer pv, .agg cs2] W fun e W' => e = .returned (.bool true) ∧ W.grownBy W' none := by
    obtain ⟨f0, hf0⟩ := h0
    obtain ⟨f1, hf1⟩ := h1
    obtain ⟨f2, hf2⟩ := h2
    obtain ⟨hl, R, hrows, hrok⟩ := read_rows (by simpa [Value.cells] using hf0)
    obtain ⟨prev, hprev, hpok⟩ := read_prev (by simpa [Value.cells] using hf1)
    obtain ⟨r, mp, hcs, hm, hok⟩ := read_rec hf2
    have e2 : cs2 = #[.string r.id, .string r.ten, .pointer mp, .bool r.excl, .string r.st] := by
      simp only [Value.cells] at hcs
      exact Array.toList_inj.1 hcs
    rw [e2]
    exact frame_any a0 len0 cap0 R pv prev r mp W hrows hl hprev hm hrok hok hpok
  clear hA0 hval0
  refine walk.mono fun e W' ⟨he, hg⟩ => ?_
  have bel : Below W.heap.size W W' := below_of_grown hg
  subst he
  exact ⟨_, rfl, _, _, _, [], _, [], hW', trodAll_mk1 (shut_bool Try.underlying4 _),
    (trodAll_cons_mk (Below.trod laidOut (by kernel_rfl) (of_decide_eq_true (by kernel_rfl)) k0 bel lt0)
      (trodAll_cons_mk (Below.trod laidOut (by kernel_rfl) (of_decide_eq_true (by kernel_rfl)) k1 bel lt1)
        (trodAll_cons_mk (Below.trod laidOut (by kernel_rfl) (of_decide_eq_true (by kernel_rfl)) k2 bel lt2) trodAll_mk0))), rfl, bel.frame _, fun h => by cases h⟩

theorem over : Rows.fnMoveClaimOnceTwiceFrameRow.holds Try.pinned (OpenSpec.ofChange Rows.fnMoveClaimOnceTwiceFrameSpec) :=
  OpenClaim.holds_of_wide 4 Try.f4 rfl rfl rfl rfl rfl rfl rfl ⟨rfl, rfl, rfl, rfl, rfl⟩ rfl rfl rfl rfl rfl (by kernel_rfl) Try.func4 (by kernel_rfl)
    (of_decide_eq_true (by kernel_rfl)) (by unfold Func.isWrapper; first | (rw [if_pos (by decide +kernel)]; kernel_rfl) | (rw [if_neg (by decide +kernel)]; exact ⟨rfl, rfl⟩))
    (fun os started H enc _ => lifted os started H enc)

/-- THE STATEMENT -/
theorem proved : Rows.FnMoveClaimOnceTwiceFrameSaid :=
  over
end Go.Proofs.Qxb6615505a.fnMoveClaimOnceTwiceFrame
