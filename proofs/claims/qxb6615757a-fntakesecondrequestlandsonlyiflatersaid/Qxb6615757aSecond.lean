/-
  FnTakeSecondRequestLandsOnlyIfLater: the plain law and the walk.
-/
import Derived.Test.Qxb6615757aZz
namespace Go.Proofs.Qxb6615757a
open Go.RowKit

theorem find_self (x : ByteArray) (c : Cl) (h : c.id = x) : [c].findIdx? (fun c => decide (c.id = x)) = some 0 := by simp [List.findIdx?_cons, h]
/-- the first request -/
theorem took1 {x : ByteArray} (hx : x ≠ ByteArray.empty) (q n f now : Int) : tookL [] x q n f now = (true, [⟨x, q, f, n, now⟩]) := by
  unfold tookL recL; rw [if_neg hx]; rfl
theorem drop1 (x : ByteArray) (q n f now : Int) : [(⟨x, q, f, n, now⟩ : Cl)].dropWhile (oldL now) = [⟨x, q, f, n, now⟩] := by
  have : oldL now ⟨x, q, f, n, now⟩ = false := by simp [oldL]
  simp [this]
theorem took0 (L : List Cl) (q n f now : Int) : tookL L ByteArray.empty q n f now = (true, L) := by unfold tookL; rw [if_pos rfl]
theorem took2 {x : ByteArray} (hx : x ≠ ByteArray.empty) (c : Cl) (hc : c.id = x) (q n f now : Int) (hq : c.seq < q) : tookL [c] x q n f now = (true, [⟨x, q, f, n, now⟩]) := by
  unfold tookL recL; rw [if_neg hx, find_self x c hc]
  simp only [List.getElem?_cons_zero, Option.map_some, Option.getD_some]
  rw [if_neg (by omega)]
  rfl
theorem took3 {x : ByteArray} (hx : x ≠ ByteArray.empty) (c : Cl) (hc : c.id = x) (q n f now : Int) (hq : q ≤ c.seq) : tookL [c] x q n f now = (false, [c]) := by
  unfold tookL recL; rw [if_neg hx, find_self x c hc]
  simp only [List.getElem?_cons_zero, Option.map_some, Option.getD_some]
  rw [if_pos hq]
theorem look_self (x : ByteArray) (c : Cl) (h : c.id = x) : lookL [c] x = some c := by unfold lookL; rw [find_self x c h]; rfl
theorem look_none (x : ByteArray) : lookL [] x = none := rfl

theorem bytes_c (a0 : ByteArray) (a1 a2 a3 a4 a5 a6 a7 a8 : Int) (w0 : a0.size ≤ maxLen) (w : World) :
    Calls Try.prog 19 #[.string a0, .int .u64 a1, .int .i64 a2, .int .i64 a3, .int .u64 a4, .int .u64 a5, .int .i64 a6, .int .i64 a7, .int .u64 a8] w fun e w' => e = .returned (.bool (decide (a0.size ≤ 1048576))) ∧ w' = w := by
  have w0' : (a0.size : Int) ≤ 9223372036854775807 := by have : maxLen = 9223372036854775807 := rfl; omega
  by_cases h : a0.size ≤ 1048576
  · have h1 : ¬ (1048576 : Int) < (a0.size : Int) := by omega
    go_enter Try.func19, Try.ntmps19
    go_wp2
    go_ret
    exact ⟨by simp, rfl⟩
  · have h1 : (1048576 : Int) < (a0.size : Int) := by omega
    go_enter Try.func19, Try.ntmps19
    go_wp2
    go_ret
    exact ⟨by simp [h], rfl⟩
end Go.Proofs.Qxb6615757a
