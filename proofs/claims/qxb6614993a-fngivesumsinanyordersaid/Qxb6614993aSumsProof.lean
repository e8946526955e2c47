/-
  THE PROOF OF 'Rows.FnGiveSumsInAnyOrderSaid': the frame as the kit's skeleton tool wrote it, the walk filled.
-/
import Derived.Test.Qxb6614993aRows
import Derived.Test.Qxb6614993aGive
import Derived.WalkKit
import Derived.ProofKit
import Derived.OpenShut
import Derived.ShutString
namespace Go.Proofs.Qxb6614993a.fnGiveSumsInAnyOrder
open Go.ChangeShapes Go.WideShapes Go.ChangeAt Go.RowKit
open Go.ChangeMaps (open_string shut_string)
set_option linter.unusedVariables false      -- a walk need not use every 'w<i>' (that an integer argument fits its kind)

theorem own : ownKnob Try.prog.godebug = none := by kernel_rfl

/-! ### STEP 1: THE WALK: the Go text returns true. 'Grown w w'': the world has at most new blocks (Derived/RowKit3.lean). Part the cases AHEAD of 'go_enter' where a test parts the walk; take each callee by a contract of your own. -/
set_option maxHeartbeats 1000000 in
theorem walk (a0 : Int) (a1 : Int) (a2 : Int) (w0 : (Lit.int .i64 a0).wf = true) (w1 : (Lit.int .i64 a1).wf = true) (w2 : (Lit.int .i64 a2).wf = true) (w : World) :
    Calls Try.prog 3 #[.int .i64 a0, .int .i64 a1, .int .i64 a2] w fun e w' => e = .returned (.bool true) ∧ Grown w w' := by
  go_enter Try.func3, Try.ntmps3
  go_wp2_with fail
  -- c1: given a1, then a2
  refine (zznew_any a0 _).mono ?_
  rintro e u1 ⟨rfl, c1, z1, g1, -, -⟩
  have G1 : Hid (Grown w u1) := g1 w (Grown.refl w)
  have Z1 : Hid (u1.heap.size = w.heap.size + 1) := z1
  have C1 : Hid (Ctr w.heap.size a0 u1) := c1
  clear c1 g1 z1
  go_wp2_with fail
  refine (zzgive_any w.heap.size _ _ _ C1.out).mono ?_
  rintro e u2 ⟨rfl, s2, c2⟩
  have G2 : Hid (Grown w u2) := s2.grown w (Nat.le_refl _) G1.out
  have Z2 : Hid (u2.heap.size = w.heap.size + 1) := s2.size.trans Z1.out
  have C2 : Hid (Ctr w.heap.size (wrap64 (a0 - a1)) u2) := c2
  clear c2 s2 G1 C1 Z1
  go_wp2_with fail
  refine (zzgive_any w.heap.size _ _ _ C2.out).mono ?_
  rintro e u3 ⟨rfl, s3, c3⟩
  have G3 : Hid (Grown w u3) := s3.grown w (Nat.le_refl _) G2.out
  have Z3 : Hid (u3.heap.size = w.heap.size + 1) := s3.size.trans Z2.out
  have C3 : Hid (Ctr w.heap.size (wrap64 (wrap64 (a0 - a1) - a2)) u3) := c3
  clear c3 s3 G2 C2 Z2
  -- c2: given a2, then a1
  go_wp2_with fail
  refine (zznew_any a0 _).mono ?_
  rintro e u4 ⟨rfl, d4, z4, g4, k4, f4⟩
  have E4 : Hid (u3.heap.size = w.heap.size + 1) := Z3.out
  generalize u3.heap.size = b2 at *
  have G4 : Hid (Grown w u4) := g4 w G3.out
  have Z4 : Hid (u4.heap.size = w.heap.size + 2) := by have := E4.out; show _ = _; omega
  have A4 : Hid (Ctr w.heap.size (wrap64 (wrap64 (a0 - a1) - a2)) u4) := (C3.out).kept (fun o => k4 _ (by have := E4.out; show w.heap.size < b2; omega)) (fun a => f4 a)
  have B4 : Hid (Ctr b2 a0 u4) := d4
  have hne : Hid (w.heap.size ≠ b2) := by have := E4.out; show _ ≠ _; omega
  have hle : Hid (w.heap.size ≤ b2) := by have := E4.out; show _ ≤ _; omega
  clear d4 z4 g4 k4 f4 G3 Z3 C3
  go_wp2_with fail
  refine (zzgive_any b2 _ _ _ B4.out).mono ?_
  rintro e u5 ⟨rfl, s5, c5⟩
  have G5 : Hid (Grown w u5) := s5.grown w hle.out G4.out
  have Z5 : Hid (u5.heap.size = w.heap.size + 2) := s5.size.trans Z4.out
  have A5 : Hid (Ctr w.heap.size (wrap64 (wrap64 (a0 - a1) - a2)) u5) := A4.out.other s5 hne.out
  have B5 : Hid (Ctr b2 (wrap64 (a0 - a2)) u5) := c5
  clear c5 s5 G4 Z4 A4 B4
  go_wp2_with fail
  refine (zzgive_any b2 _ _ _ B5.out).mono ?_
  rintro e u6 ⟨rfl, s6, c6⟩
  have G6 : Hid (Grown w u6) := s6.grown w hle.out G5.out
  have Z6 : Hid (u6.heap.size = w.heap.size + 2) := s6.size.trans Z5.out
  have A6 : Hid (Ctr w.heap.size (wrap64 (wrap64 (a0 - a1) - a2)) u6) := A5.out.other s6 hne.out
  have B6 : Hid (Ctr b2 (wrap64 (wrap64 (a0 - a1) - a2)) u6) := by rw [wrap_two a0 a2 a1] at c6; exact c6
  clear c6 s6 G5 Z5 A5 B5
  -- c3: given a1 + a2
  go_wp2_with fail
  refine (zznew_any a0 _).mono ?_
  rintro e u7 ⟨rfl, d7, z7, g7, k7, f7⟩
  have E7 : Hid (u6.heap.size = w.heap.size + 2) := Z6.out
  generalize u6.heap.size = b3 at *
  have G7 : Hid (Grown w u7) := g7 w G6.out
  have A7 : Hid (Ctr w.heap.size (wrap64 (wrap64 (a0 - a1) - a2)) u7) := (A6.out).kept (fun o => k7 _ (by have := E7.out; show w.heap.size < b3; omega)) (fun a => f7 a)
  have B7 : Hid (Ctr b2 (wrap64 (wrap64 (a0 - a1) - a2)) u7) := (B6.out).kept (fun o => k7 _ (by have := E7.out; have := E4.out; show b2 < b3; omega)) (fun a => f7 a)
  have D7 : Hid (Ctr b3 a0 u7) := d7
  have hne3 : Hid (w.heap.size ≠ b3) := by have := E7.out; show _ ≠ _; omega
  have hne23 : Hid (b2 ≠ b3) := by have := E7.out; have := E4.out; show _ ≠ _; omega
  have hle3 : Hid (w.heap.size ≤ b3) := by have := E7.out; show _ ≤ _; omega
  clear d7 z7 g7 k7 f7 G6 Z6 A6 B6
  go_wp2_with fail
  refine (zzgive_any b3 _ _ _ D7.out).mono ?_
  rintro e u8 ⟨rfl, s8, c8⟩
  have G8 : Hid (Grown w u8) := s8.grown w hle3.out G7.out
  have A8 : Hid (Ctr w.heap.size (wrap64 (wrap64 (a0 - a1) - a2)) u8) := A7.out.other s8 hne3.out
  have B8 : Hid (Ctr b2 (wrap64 (wrap64 (a0 - a1) - a2)) u8) := B7.out.other s8 hne23.out
  have D8 : Hid (Ctr b3 (wrap64 (wrap64 (a0 - a1) - a2)) u8) := by rw [wrap_sum a0 a1 a2] at c8; exact c8
  clear c8 s8 G7 A7 B7 D7
  go_wp2_with fail
  refine (zzheld_any w.heap.size _ _ A8.out).mono ?_
  rintro e v1 ⟨rfl, rfl⟩
  go_wp2_with fail
  refine (zzheld_any b2 _ _ B8.out).mono ?_
  rintro e v2 ⟨rfl, rfl⟩
  go_wp2_with fail
  refine (zzheld_any b3 _ _ D8.out).mono ?_
  rintro e v3 ⟨rfl, rfl⟩
  go_wp2
  go_ret
  exact ⟨by simp, G8.out⟩

/-! ### THE ROW's STEP: WRITTEN OUT: LEAVE IT -/
set_option maxRecDepth 100000 in
theorem lifted (os : Os) (started : os.Started) (H : Type) (enc : TypeId × Value → H) :
    ReturnsInHanded {} Try.checked os 3 .any (Rows.fnGiveSumsInAnyOrderSpec.pre6 enc Try.prog Try.f3 Rows.fnGiveSumsInAnyOrderRow.domain false) (Rows.fnGiveSumsInAnyOrderSpec.post enc Try.prog Try.f3 false true false false) := by
  refine returnsInHanded_of_change (C := Try.checked) own started (by kernel_rfl) Try.func3
    (ChangeSpec.witness6 (enc := enc) (C := Try.checked) false ⟨#[], #[.int .i64 0, .int .i64 0, .int .i64 0], []⟩ 8 (by kernel_rfl) (by kernel_rfl) (by kernel_rfl) (by kernel_rfl)) ?_
  intro W base args ds gs before hval0 hW hcnd _
  have hval : ∀ (j : Nat) t v, Try.f3.params[j]? = some t → args[j]? = some v → Value.okWide Try.prog W .any base t v := hval0
  have hW' := hW
  obtain ⟨p, q, hA0, hV, rfl, hfz, hnd⟩ := hW
  have hA : DataW.TrodAll enc Try.prog W 0 (fun _ => true) true Try.f3.params.toList args.toList ds p := hA0
  rw [Try.params3] at hA hval
  obtain ⟨v0, vs0, d0, ds0, p0, q0, hargs, rfl, rfl, h0, r0⟩ := trodAll_cons hA
  obtain ⟨v1, vs1, d1, ds1, p1, q1, rfl, rfl, rfl, h1, r1⟩ := trodAll_cons r0
  obtain ⟨v2, vs2, d2, ds2, p2, q2, rfl, rfl, rfl, h2, r2⟩ := trodAll_cons r1
  obtain ⟨rfl, rfl, rfl⟩ := trodAll_nil r2
  obtain rfl : args = #[v0, v1, v2] := by cases args; simp_all
  obtain ⟨rfl, rfl⟩ := trodVars_none hV
  obtain ⟨a0, rfl, rfl, rfl, w0⟩ := open_int Try.underlying3 (hval 0 3 v0 rfl rfl) h0
  obtain ⟨a1, rfl, rfl, rfl, w1⟩ := open_int Try.underlying3 (hval 1 3 v1 rfl rfl) h1
  obtain ⟨a2, rfl, rfl, rfl, w2⟩ := open_int Try.underlying3 (hval 2 3 v2 rfl rfl) h2
  clear hA0 hval0
  simp only [List.append_nil] at hW'
  refine (walk a0 a1 a2 w0 w1 w2 W).mono fun e W' ⟨he, hg⟩ => ?_
  subst he
  exact ⟨_, rfl, post_of_same (pa := []) (pv := []) hW' (fun _ _ _ => (trodAll_cons_mk (shut_bool Try.underlying4 _) trodAll_mk0)) (fun sp _ => (trodAll_cons_mk (shut_int Try.underlying3 w0) (trodAll_cons_mk (shut_int Try.underlying3 w1) (trodAll_cons_mk (shut_int Try.underlying3 w2) trodAll_mk0)))) (fun _ _ => rfl) rfl
    (hg.frame _) hg.2.1 (ok_one (by kernel_rfl) rfl (okWide_bool_mk Try.underlying4 _))⟩

theorem over : Rows.fnGiveSumsInAnyOrderRow.holds Try.pinned (OpenSpec.ofChange Rows.fnGiveSumsInAnyOrderSpec) :=
  OpenClaim.holds_of_wide 3 Try.f3 rfl rfl rfl rfl rfl rfl rfl ⟨rfl, rfl, rfl, rfl, rfl⟩ rfl rfl rfl rfl rfl (by kernel_rfl) Try.func3 (by kernel_rfl)
    (of_decide_eq_true (by kernel_rfl)) (by unfold Func.isWrapper; first | (rw [if_pos (by decide +kernel)]; kernel_rfl) | (rw [if_neg (by decide +kernel)]; exact ⟨rfl, rfl⟩))
    (fun os started H enc _ => lifted os started H enc)

/-- ████ THE STATEMENT ████ -/
theorem proved : Rows.FnGiveSumsInAnyOrderSaid :=
  over
end Go.Proofs.Qxb6614993a.fnGiveSumsInAnyOrder
