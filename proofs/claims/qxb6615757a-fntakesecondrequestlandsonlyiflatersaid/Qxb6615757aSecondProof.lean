/-
  FnTakeSecondRequestLandsOnlyIfLater: THE STATEMENT.
-/
import Derived.Test.Qxb6615757aRows
import Derived.ProofKit
import Derived.OpenShut
import Derived.ShutString
import Derived.Test.Qxb6615757aSecondWalk
import Derived.WalkKit
namespace Go.Proofs.Qxb6615757a.fnTakeSecondRequestLandsOnlyIfLater
open Go.ChangeShapes Go.WideShapes Go.ChangeAt Go.RowKit
open Go.ChangeMaps (open_string shut_string)
set_option linter.unusedVariables false      -- a walk need not use every 'w<i>' (that an integer argument fits its kind)

theorem own : ownKnob Try.prog.godebug = none := by kernel_rfl

theorem u64_bounds {n : Int} (h : (Lit.int .u64 n).wf = true) : 0 ≤ n ∧ n ≤ 18446744073709551615 := by
  simp [Lit.wf, IntKind.min, IntKind.max, IntKind.signed, IntKind.bits] at h
  omega
theorem i64_bounds {n : Int} (h : (Lit.int .i64 n).wf = true) : -9223372036854775808 ≤ n ∧ n ≤ 9223372036854775807 := by
  simp [Lit.wf, IntKind.min, IntKind.max, IntKind.signed, IntKind.bits] at h
  omega

set_option maxRecDepth 100000 in
set_option maxHeartbeats 2000000 in
theorem early_big (a0 : ByteArray) (a1 a2 a3 a4 a5 a6 a7 a8 : Int) (w0 : a0.size ≤ maxLen) (hb : ¬ a0.size ≤ 1048576) (w : World) :
    Calls Try.prog 4 #[.string a0, .int .u64 a1, .int .i64 a2, .int .i64 a3, .int .u64 a4, .int .u64 a5, .int .i64 a6, .int .i64 a7, .int .u64 a8] w fun e w' => e = .returned (.bool true) ∧ Grown w w' := by
  have hbd : decide (a0.size ≤ 1048576) = false := by simpa using hb
  clear hb
  go_enter Try.func4, Try.ntmps4
  go_wp2_with fail
  refine (bytes_c a0 a1 a2 a3 a4 a5 a6 a7 a8 w0 w).mono ?_
  rintro e1 w1 ⟨rfl, rfl⟩
  rw [hbd]
  go_wp2
  go_ret
  exact ⟨rfl, Grown.refl _⟩
set_option maxRecDepth 100000 in
set_option maxHeartbeats 2000000 in
theorem early_last (a0 : ByteArray) (a1 a2 a3 a4 a5 a6 a7 a8 : Int) (w0 : a0.size ≤ maxLen) (hb : a0.size ≤ 1048576) (hl : a4 = 18446744073709551615 ∨ a8 = 18446744073709551615) (w : World) :
    Calls Try.prog 4 #[.string a0, .int .u64 a1, .int .i64 a2, .int .i64 a3, .int .u64 a4, .int .u64 a5, .int .i64 a6, .int .i64 a7, .int .u64 a8] w fun e w' => e = .returned (.bool true) ∧ Grown w w' := by
  have hbd : decide (a0.size ≤ 1048576) = true := by simpa using hb
  have hb1 : ¬ (1048576 : Int) < (a0.size : Int) := by omega
  clear hb
  by_cases h4 : a4 = 18446744073709551615
  · subst h4
    clear hl
    go_enter Try.func4, Try.ntmps4
    go_wp2_with fail
    refine (bytes_c a0 a1 a2 a3 18446744073709551615 a5 a6 a7 a8 w0 w).mono ?_
    rintro e1 w1 ⟨rfl, rfl⟩
    rw [hbd]
    go_wp2
    go_ret
    exact ⟨rfl, Grown.refl _⟩
  · have e4 : (a4 == 18446744073709551615) = false := by simpa using h4
    obtain rfl : a8 = 18446744073709551615 := hl.resolve_left h4
    clear hl h4
    go_enter Try.func4, Try.ntmps4
    go_wp2_with fail
    refine (bytes_c a0 a1 a2 a3 a4 a5 a6 a7 18446744073709551615 w0 w).mono ?_
    rintro e1 w1 ⟨rfl, rfl⟩
    rw [hbd]
    go_wp2
    go_ret
    exact ⟨rfl, Grown.refl _⟩

/-! ### STEP 1: THE WALK: the Go text returns true. 'Grown w w'': the world has at most new blocks (Derived/RowKit3.lean). Part the cases AHEAD of 'go_enter' where a test parts the walk; take each callee by a contract of your own. -/
theorem walk (a0 : ByteArray) (a1 : Int) (a2 : Int) (a3 : Int) (a4 : Int) (a5 : Int) (a6 : Int) (a7 : Int) (a8 : Int) (w0 : a0.size ≤ maxLen) (w1 : (Lit.int .u64 a1).wf = true) (w2 : (Lit.int .i64 a2).wf = true) (w3 : (Lit.int .i64 a3).wf = true) (w4 : (Lit.int .u64 a4).wf = true) (w5 : (Lit.int .u64 a5).wf = true) (w6 : (Lit.int .i64 a6).wf = true) (w7 : (Lit.int .i64 a7).wf = true) (w8 : (Lit.int .u64 a8).wf = true) (w : World) :
    Calls Try.prog 4 #[.string a0, .int .u64 a1, .int .i64 a2, .int .i64 a3, .int .u64 a4, .int .u64 a5, .int .i64 a6, .int .i64 a7, .int .u64 a8] w fun e w' => e = .returned (.bool true) ∧ Grown w w' := by
  have b1 : 0 ≤ a4 ∧ a4 ≤ 18446744073709551615 := u64_bounds w4
  have b2 : 0 ≤ a8 ∧ a8 ≤ 18446744073709551615 := u64_bounds w8
  have b3 := i64_bounds w2
  have b4 := i64_bounds w6
  by_cases hb : a0.size ≤ 1048576
  · by_cases h4 : a4 = 18446744073709551615
    · exact early_last a0 a1 a2 a3 a4 a5 a6 a7 a8 w0 hb (.inl h4) w
    · by_cases h8 : a8 = 18446744073709551615
      · exact early_last a0 a1 a2 a3 a4 a5 a6 a7 a8 w0 hb (.inr h8) w
      · exact second_main a0 a1 a2 a3 a4 a5 a6 a7 a8 hb b3.2 b4.2 ⟨b1.1, by omega⟩ ⟨b2.1, by omega⟩ w
  · exact early_big a0 a1 a2 a3 a4 a5 a6 a7 a8 w0 hb w

/-! ### THE ROW's STEP: WRITTEN OUT: LEAVE IT -/
set_option maxRecDepth 100000 in
theorem lifted (os : Os) (started : os.Started) (H : Type) (enc : TypeId × Value → H) :
    ReturnsInHanded {} Try.checked os 4 .any (Rows.fnTakeSecondRequestLandsOnlyIfLaterSpec.pre6 enc Try.prog Try.f4 Rows.fnTakeSecondRequestLandsOnlyIfLaterRow.domain false) (Rows.fnTakeSecondRequestLandsOnlyIfLaterSpec.post enc Try.prog Try.f4 false true false false) := by
  refine returnsInHanded_of_change (C := Try.checked) own started (by kernel_rfl) Try.func4
    (ChangeSpec.witness6 (enc := enc) (C := Try.checked) false ⟨#[], #[.string ByteArray.empty, .int .u64 0, .int .i64 0, .int .i64 0, .int .u64 0, .int .u64 0, .int .i64 0, .int .i64 0, .int .u64 0], []⟩ 8 (by kernel_rfl) (by kernel_rfl) (by kernel_rfl) (by kernel_rfl)) ?_
  intro W base args ds gs before hval0 hW hcnd _
  have hval : ∀ (j : Nat) t v, Try.f4.params[j]? = some t → args[j]? = some v → Value.okWide Try.prog W .any base t v := hval0
  have hW' := hW
  obtain ⟨p, q, hA0, hV, rfl, hfz, hnd⟩ := hW
  have hA : DataW.TrodAll enc Try.prog W 0 (fun _ => true) true Try.f4.params.toList args.toList ds p := hA0
  rw [Try.params4] at hA hval
  obtain ⟨v0, vs0, d0, ds0, p0, q0, hargs, rfl, rfl, h0, r0⟩ := trodAll_cons hA
  obtain ⟨v1, vs1, d1, ds1, p1, q1, rfl, rfl, rfl, h1, r1⟩ := trodAll_cons r0
  obtain ⟨v2, vs2, d2, ds2, p2, q2, rfl, rfl, rfl, h2, r2⟩ := trodAll_cons r1
  obtain ⟨v3, vs3, d3, ds3, p3, q3, rfl, rfl, rfl, h3, r3⟩ := trodAll_cons r2
  obtain ⟨v4, vs4, d4, ds4, p4, q4, rfl, rfl, rfl, h4, r4⟩ := trodAll_cons r3
  obtain ⟨v5, vs5, d5, ds5, p5, q5, rfl, rfl, rfl, h5, r5⟩ := trodAll_cons r4
  obtain ⟨v6, vs6, d6, ds6, p6, q6, rfl, rfl, rfl, h6, r6⟩ := trodAll_cons r5
  obtain ⟨v7, vs7, d7, ds7, p7, q7, rfl, rfl, rfl, h7, r7⟩ := trodAll_cons r6
  obtain ⟨v8, vs8, d8, ds8, p8, q8, rfl, rfl, rfl, h8, r8⟩ := trodAll_cons r7
  obtain ⟨rfl, rfl, rfl⟩ := trodAll_nil r8
  obtain rfl : args = #[v0, v1, v2, v3, v4, v5, v6, v7, v8] := by cases args; simp_all
  obtain ⟨rfl, rfl⟩ := trodVars_none hV
  obtain ⟨a0, rfl, rfl, rfl, w0⟩ := open_string Try.underlying9 (hval 0 9 v0 rfl rfl) h0
  obtain ⟨a1, rfl, rfl, rfl, w1⟩ := open_int Try.underlying23 (hval 1 23 v1 rfl rfl) h1
  obtain ⟨a2, rfl, rfl, rfl, w2⟩ := open_int Try.underlying2 (hval 2 2 v2 rfl rfl) h2
  obtain ⟨a3, rfl, rfl, rfl, w3⟩ := open_int Try.underlying3 (hval 3 3 v3 rfl rfl) h3
  obtain ⟨a4, rfl, rfl, rfl, w4⟩ := open_int Try.underlying23 (hval 4 23 v4 rfl rfl) h4
  obtain ⟨a5, rfl, rfl, rfl, w5⟩ := open_int Try.underlying23 (hval 5 23 v5 rfl rfl) h5
  obtain ⟨a6, rfl, rfl, rfl, w6⟩ := open_int Try.underlying2 (hval 6 2 v6 rfl rfl) h6
  obtain ⟨a7, rfl, rfl, rfl, w7⟩ := open_int Try.underlying3 (hval 7 3 v7 rfl rfl) h7
  obtain ⟨a8, rfl, rfl, rfl, w8⟩ := open_int Try.underlying23 (hval 8 23 v8 rfl rfl) h8
  clear hA0 hval0
  simp only [List.append_nil] at hW'
  refine (walk a0 a1 a2 a3 a4 a5 a6 a7 a8 w0 w1 w2 w3 w4 w5 w6 w7 w8 W).mono fun e W' ⟨he, hg⟩ => ?_
  subst he
  exact ⟨_, rfl, post_of_same (pa := []) (pv := []) hW' (fun _ _ _ => (trodAll_cons_mk (shut_bool Try.underlying4 _) trodAll_mk0)) (fun sp _ => (trodAll_cons_mk (shut_string Try.underlying9 w0) (trodAll_cons_mk (shut_int Try.underlying23 w1) (trodAll_cons_mk (shut_int Try.underlying2 w2) (trodAll_cons_mk (shut_int Try.underlying3 w3) (trodAll_cons_mk (shut_int Try.underlying23 w4) (trodAll_cons_mk (shut_int Try.underlying23 w5) (trodAll_cons_mk (shut_int Try.underlying2 w6) (trodAll_cons_mk (shut_int Try.underlying3 w7) (trodAll_cons_mk (shut_int Try.underlying23 w8) trodAll_mk0)))))))))) (fun _ _ => rfl) rfl
    (hg.frame _) hg.2.1 (ok_one (by kernel_rfl) rfl (okWide_bool_mk Try.underlying4 _))⟩

theorem over : Rows.fnTakeSecondRequestLandsOnlyIfLaterRow.holds Try.pinned (OpenSpec.ofChange Rows.fnTakeSecondRequestLandsOnlyIfLaterSpec) :=
  OpenClaim.holds_of_wide 4 Try.f4 rfl rfl rfl rfl rfl rfl rfl ⟨rfl, rfl, rfl, rfl, rfl⟩ rfl rfl rfl rfl rfl (by kernel_rfl) Try.func4 (by kernel_rfl)
    (of_decide_eq_true (by kernel_rfl)) (by unfold Func.isWrapper; first | (rw [if_pos (by decide +kernel)]; kernel_rfl) | (rw [if_neg (by decide +kernel)]; exact ⟨rfl, rfl⟩))
    (fun os started H enc _ => lifted os started H enc)

/-- ████ THE STATEMENT ████ -/
theorem proved : Rows.FnTakeSecondRequestLandsOnlyIfLaterSaid :=
  over
end Go.Proofs.Qxb6615757a.fnTakeSecondRequestLandsOnlyIfLater
