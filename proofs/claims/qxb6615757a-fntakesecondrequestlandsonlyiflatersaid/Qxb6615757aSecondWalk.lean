/-
  FnTakeSecondRequestLandsOnlyIfLater: the walk.
-/
import Derived.Test.Qxb6615757aSecond
import Derived.WalkArith
namespace Go.Proofs.Qxb6615757a
open Go.RowKit

theorem grown_of {w w' : World} (h : Turn [] w w') (hf : ∀ a, w'.frozen? a = w.frozen? a) : Grown w w' :=
  ⟨(h.below (n := w.heap.size) (Nat.le_refl _) (fun _ e => by simp at e)).frame _, hf, h.size⟩

theorem drop_one (c : Cl) (t : Int) : [c].dropWhile (oldL t) = if 3600000 < t - c.tm then [] else [c] := by
  simp only [List.dropWhile_cons, List.dropWhile_nil, oldL, decide_eq_true_eq]
/-- THE PLAIN LAW -/
theorem plain2 (x : ByteArray) (q1 n1 f1 t1 q2 n2 f2 t2 : Int) {A B : Bool × List Cl} {L1 L2 : List Cl} (hA : tookL [] x q1 n1 f1 t1 = A) (h1 : A.2.dropWhile (oldL t1) = L1) (hB : tookL L1 x q2 n2 f2 t2 = B) (h2 : B.2.dropWhile (oldL t2) = L2) :
    (x = ByteArray.empty → B.1 = true ∧ lookL L2 x = none) ∧ (x ≠ ByteArray.empty → q1 < q2 → B.1 = true ∧ lookL L2 x = some ⟨x, q2, f2, n2, t2⟩) ∧
      (x ≠ ByteArray.empty → q2 ≤ q1 → B.1 = false ∧ lookL L2 x = if 3600000 < t2 - t1 then none else some ⟨x, q1, f1, n1, t1⟩) := by
  by_cases hx : x = ByteArray.empty
  · subst hx
    rw [took0] at hA
    subst hA
    subst h1
    simp only [List.dropWhile_nil] at hB
    rw [took0] at hB
    subst hB
    subst h2
    exact ⟨fun _ => ⟨rfl, rfl⟩, fun h => absurd rfl h, fun h => absurd rfl h⟩
  · rw [took1 hx] at hA
    subst hA
    simp only [drop1] at h1
    subst h1
    refine ⟨fun h => absurd h hx, fun _ hq => ?_, fun _ hq => ?_⟩
    · rw [took2 hx _ rfl _ _ _ _ hq] at hB
      subst hB
      simp only [drop1] at h2
      subst h2
      exact ⟨rfl, look_self x _ rfl⟩
    · rw [took3 hx _ rfl _ _ _ _ hq] at hB
      subst hB
      simp only [drop_one] at h2
      subst h2
      refine ⟨rfl, ?_⟩
      split
      · rfl
      · exact look_self x _ rfl
theorem plain1 (x : ByteArray) (q1 n1 f1 t1 : Int) : (tookL [] x q1 n1 f1 t1).1 = true ∧ ((tookL [] x q1 n1 f1 t1).2.dropWhile (oldL t1)).length ≤ 1 := by
  by_cases hx : x = ByteArray.empty
  · subst hx; rw [took0]; exact ⟨rfl, by simp⟩
  · rw [took1 hx]; simp only [drop1]; exact ⟨trivial, by simp⟩

set_option maxRecDepth 100000 in
set_option maxHeartbeats 4000000 in
/-- the road behind the two takes -/
theorem second_main (a0 : ByteArray) (a1 a2 a3 a4 a5 a6 a7 a8 : Int) (hb : a0.size ≤ 1048576) (h2 : a2 ≤ 9223372036854775807) (h6 : a6 ≤ 9223372036854775807)
    (l4 : 0 ≤ a4 ∧ a4 < 18446744073709551615) (l8 : 0 ≤ a8 ∧ a8 < 18446744073709551615) (w : World) :
    Calls Try.prog 4 #[.string a0, .int .u64 a1, .int .i64 a2, .int .i64 a3, .int .u64 a4, .int .u64 a5, .int .i64 a6, .int .i64 a7, .int .u64 a8] w fun e w' => e = .returned (.bool true) ∧ Grown w w' := by
  have hm : maxLen = 9223372036854775807 := rfl
  have w0 : a0.size ≤ maxLen := by omega
  have hb1 : ¬ (1048576 : Int) < (a0.size : Int) := by omega
  have hbd : decide (a0.size ≤ 1048576) = true := by simpa using hb
  have e4 : (a4 == 18446744073709551615) = false := by simp; omega
  have e8 : (a8 == 18446744073709551615) = false := by simp; omega
  have W4 : Hid (0 ≤ a4 ∧ a4 < 18446744073709551615) := l4
  have W8 : Hid (0 ≤ a8 ∧ a8 < 18446744073709551615) := l8
  have H2 : Hid (a2 ≤ 9223372036854775807 ∧ a6 ≤ 9223372036854775807) := ⟨h2, h6⟩
  clear hm l4 l8 h2 h6 hb
  go_enter Try.func4, Try.ntmps4
  go_wp2_with fail
  refine (bytes_c a0 a1 a2 a3 a4 a5 a6 a7 a8 w0 w).mono ?_
  rintro e1 w1 ⟨rfl, rfl⟩
  rw [hbd]
  go_wp2_with fail
  refine (newRule_c w1 none 0 0 1).mono ?_
  rintro e2 w2 ⟨rfl, hw2⟩
  have R2 : Hid (RS [w1.heap.size] w2 w1.heap.size [] 0 3 ∧ Turn [] w1 w2 ∧ (∀ a, w2.frozen? a = w1.frozen? a) ∧ w2.cell? ⟨w1.heap.size, 5, none⟩ = some (.slice none 0 0) ∧ w2.cell? ⟨w1.heap.size, 6, none⟩ = some (.int .u64 1)) := by
    subst hw2
    exact ⟨rs_new w1 _ _ 3 (by omega), (Turn.refl [] w1).alloc _, fun a => frozen?_alloc_cells _ _ _ a, World.cell?_alloc_at _ _ _ _ rfl, World.cell?_alloc_at _ _ _ _ rfl⟩
  clear hw2
  obtain ⟨sb, hsb⟩ : ∃ sb, w1.heap.size = sb := ⟨_, rfl⟩
  rw [hsb] at R2 ⊢
  have HS : Hid (w1.heap.size = sb) := hsb
  clear hsb
  go_wp2_with fail
  obtain ⟨r2, t2, f2, c25, c26⟩ := R2.out
  refine (zztake_req r2 a1 a2 a3 a4 w0 H2.out.1 (by simp [maxLen]) (by simp) (by omega) W4.out.1 W4.out.2).mono ?_
  rintro e3 w3 ⟨rfl, ha3⟩
  obtain ⟨p1, p1l⟩ := plain1 a0 a1 a3 (a4 + 1) (max 0 a2)
  obtain ⟨A, hA⟩ : ∃ A, tookL [] a0 a1 a3 (a4 + 1) (max 0 a2) = A := ⟨_, rfl⟩
  rw [hA] at ha3 p1 p1l ⊢
  obtain ⟨L1, hL1⟩ : ∃ L1, A.2.dropWhile (oldL (max 0 a2)) = L1 := ⟨_, rfl⟩
  rw [hL1] at ha3 p1l
  rw [p1]
  have HP : Hid (tookL [] a0 a1 a3 (a4 + 1) (max 0 a2) = A ∧ A.2.dropWhile (oldL (max 0 a2)) = L1 ∧ L1.length ≤ 1) := ⟨hA, hL1, p1l⟩
  have R3 : Hid (∃ F, RS F w3 sb L1 (max 0 a2) 3 ∧ (∀ k ∈ F, sb ≤ k) ∧ Turn [] w1 w3 ∧ (∀ a, w3.frozen? a = w1.frozen? a) ∧ w3.cell? ⟨sb, 5, none⟩ = some (.slice none 0 0) ∧ w3.cell? ⟨sb, 6, none⟩ = some (.int .u64 1)) := by
    obtain ⟨F, hr, ht, hF, hf, h5⟩ := ha3.out
    have hge : ∀ k ∈ F, sb ≤ k := fun k hk => by
      rcases hF k hk with e | e
      · simp at e; omega
      · have := t2.size; have := HS.out; omega
    exact ⟨F, hr, hge, t2.trans ht (fun x hx hlt => by simp at hx; have := HS.out; omega), fun a => (hf a).trans (f2 a), (h5 5 (by omega)).trans c25, (h5 6 (by omega)).trans c26⟩
  clear hA hL1 p1l p1 ha3 r2 t2 f2 c25 c26 R2
  simp only [if_true]
  go_wp2_with fail
  obtain ⟨F, r3, hge, t3, f3, c35, c36⟩ := R3.out
  refine (zztake_req r3 a5 a6 a7 a8 w0 H2.out.2 (by have := HP.out.2.2; have hm : maxLen = 9223372036854775807 := rfl; omega) (by have := HP.out.2.2; omega) (by omega) W8.out.1 W8.out.2).mono ?_
  rintro e4 w4 ⟨rfl, ha4⟩
  obtain ⟨B, hB⟩ : ∃ B, tookL L1 a0 a5 a7 (a8 + 1) (max (max 0 a2) a6) = B := ⟨_, rfl⟩
  rw [hB] at ha4 ⊢
  obtain ⟨L2, hL2⟩ : ∃ L2, B.2.dropWhile (oldL (max (max 0 a2) a6)) = L2 := ⟨_, rfl⟩
  rw [hL2] at ha4
  have PL : Hid _ := plain2 a0 a1 a3 (a4 + 1) (max 0 a2) a5 a7 (a8 + 1) (max (max 0 a2) a6) HP.out.1 HP.out.2.1 hB hL2
  have R4 : Hid (∃ F, RS F w4 sb L2 (max (max 0 a2) a6) 3 ∧ Turn [] w1 w4 ∧ (∀ a, w4.frozen? a = w1.frozen? a)) := by
    obtain ⟨F4, hr, ht, hF, hf, h5⟩ := ha4.out
    exact ⟨F4, hr, t3.trans ht (fun x hx hlt => by have := hge x hx; have := HS.out; omega), fun a => (hf a).trans (f3 a)⟩
  have c45 : w4.cell? ⟨sb, 5, none⟩ = some (.slice none 0 0) := by obtain ⟨F4, hr, ht, hF, hf, h5⟩ := ha4.out; exact (h5 5 (by omega)).trans c35
  have c46 : w4.cell? ⟨sb, 6, none⟩ = some (.int .u64 1) := by obtain ⟨F4, hr, ht, hF, hf, h5⟩ := ha4.out; exact (h5 6 (by omega)).trans c36
  clear hB hL2 ha4 r3 hge t3 f3 c35 c36 R3 HP
  by_cases hx : a0 = ByteArray.empty
  · obtain ⟨b1, lk⟩ := PL.out.1 hx
    have LK : Hid (lookL L2 a0 = none) := lk
    rw [b1]
    simp only [if_true]
    clear b1 lk PL
    have hte : a0.toList = [] := by rw [hx]; exact empty_toList
    clear hx
    go_wp2_with fail
    all_goals
      refine (ruleFirst_c c46).mono ?_
      rintro e5 w5 ⟨rfl, hw5⟩
      cases hw5
      go_wp2_with fail
      refine (ruleConfig_c c45).mono ?_
      rintro e6 w6 ⟨rfl, hw6⟩
      cases hw6
      go_wp2_with fail
      obtain ⟨F4, r4, t4, f4⟩ := R4.out
      refine (ruleLatest_c r4 w0).mono ?_
      rintro e7 w7 ⟨rfl, ht7, hf7⟩
      have HG : Hid (Grown w1 w7) := grown_of (t4.trans ht7 (fun _ e => by simp at e)) (fun a => (hf7 a).trans (f4 a))
      rw [LK.out]
      simp only [lat4]
      clear r4 t4 f4 ht7 hf7
      go_wp2
      go_ret
      exact ⟨rfl, HG.out⟩
  · have hte := str_empty hx
    have hte2 : a0.toList.isEmpty = false := by simpa using hte
    by_cases hq : a1 < a5
    · obtain ⟨b1, lk⟩ := PL.out.2.1 hx hq
      have LK : Hid (lookL L2 a0 = some { id := a0, seq := a5, fst := a8 + 1, ent := a7, tm := max (max 0 a2) a6 }) := lk
      have hw8 : IntKind.u64.wrap (a8 + 1) = a8 + 1 := IntWalk.u64_in _ ⟨by have := W8.out; omega, by have := W8.out; omega⟩
      rw [b1]
      simp only [if_true]
      clear b1 lk PL hx
      go_wp2_with fail
      all_goals
        refine (ruleFirst_c c46).mono ?_
        rintro e5 w5 ⟨rfl, hw5⟩
        cases hw5
        go_wp2_with fail
        refine (ruleConfig_c c45).mono ?_
        rintro e6 w6 ⟨rfl, hw6⟩
        cases hw6
        go_wp2_with fail
        obtain ⟨F4, r4, t4, f4⟩ := R4.out
        refine (ruleLatest_c r4 w0).mono ?_
        rintro e7 w7 ⟨rfl, ht7, hf7⟩
        have HG : Hid (Grown w1 w7) := grown_of (t4.trans ht7 (fun _ e => by simp at e)) (fun a => (hf7 a).trans (f4 a))
        rw [LK.out]
        simp only [lat4]
        clear r4 t4 f4 ht7 hf7
        go_wp2
        go_ret
        exact ⟨rfl, HG.out⟩
    · obtain ⟨b1, lk⟩ := PL.out.2.2 hx (by omega)
      have hqd : decide (a1 < a5) = false := by simpa using hq
      have hw4 : IntKind.u64.wrap (a4 + 1) = a4 + 1 := IntWalk.u64_in _ ⟨by have := W4.out; omega, by have := W4.out; omega⟩
      rw [b1]
      simp only [Bool.false_eq_true, if_false]
      have h2a := H2.out.1
      have h6a := H2.out.2
      by_cases hexp : 3600000 < max (max 0 a2) a6 - max 0 a2
      · have LK : Hid (lookL L2 a0 = none) := by rw [lk, if_pos hexp]; trivial
        clear b1 lk PL hx
        go_wp2_with fail
        all_goals
          refine (ruleFirst_c c46).mono ?_
          rintro e5 w5 ⟨rfl, hw5⟩
          cases hw5
          go_wp2_with fail
          refine (ruleConfig_c c45).mono ?_
          rintro e6 w6 ⟨rfl, hw6⟩
          cases hw6
          go_wp2_with fail
          obtain ⟨F4, r4, t4, f4⟩ := R4.out
          refine (ruleLatest_c r4 w0).mono ?_
          rintro e7 w7 ⟨rfl, ht7, hf7⟩
          have HG : Hid (Grown w1 w7) := grown_of (t4.trans ht7 (fun _ e => by simp at e)) (fun a => (hf7 a).trans (f4 a))
          rw [LK.out]
          simp only [lat4]
          clear r4 t4 f4 ht7 hf7
          go_wp2
          go_ret
          exact ⟨rfl, HG.out⟩
      · have LK : Hid (lookL L2 a0 = some { id := a0, seq := a1, fst := a4 + 1, ent := a3, tm := max 0 a2 }) := by rw [lk, if_neg hexp]; trivial
        clear b1 lk PL hx
        go_wp2_with fail
        all_goals
          refine (ruleFirst_c c46).mono ?_
          rintro e5 w5 ⟨rfl, hw5⟩
          cases hw5
          go_wp2_with fail
          refine (ruleConfig_c c45).mono ?_
          rintro e6 w6 ⟨rfl, hw6⟩
          cases hw6
          go_wp2_with fail
          obtain ⟨F4, r4, t4, f4⟩ := R4.out
          refine (ruleLatest_c r4 w0).mono ?_
          rintro e7 w7 ⟨rfl, ht7, hf7⟩
          have HG : Hid (Grown w1 w7) := grown_of (t4.trans ht7 (fun _ e => by simp at e)) (fun a => (hf7 a).trans (f4 a))
          rw [LK.out]
          simp only [lat4]
          clear r4 t4 f4 ht7 hf7
          go_wp2
          go_ret
          exact ⟨rfl, HG.out⟩
end Go.Proofs.Qxb6615757a
