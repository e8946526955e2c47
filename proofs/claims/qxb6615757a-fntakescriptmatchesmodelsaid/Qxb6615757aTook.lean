/-
  THE WALKS of (*Requests).Take, (*ruleState).take (a request), ZZtake, ZZruleLatest.
-/
import Derived.Test.Qxb6615757aTake
import Derived.Deep.RegionWith
namespace Go.Proofs.Qxb6615757a
open Go.RowKit

theorem str_empty {x : ByteArray} (h : x ≠ ByteArray.empty) : ¬ x.toList = [] := by
  rw [ByteArray.toList_eq]
  exact fun e => h (ByteArray.ext (Array.toList_inj.1 e))
theorem empty_toList : ByteArray.empty.toList = [] := by decide +kernel
theorem Aft.box {F : List Nat} {w w1 : World} {sb : Nat} {L : List Cl} {now K : Int} (h : Aft F w w1 sb L now K) (c : Array Value) (ty : TypeId) : Aft F w (w1.alloc (.cells c ty)) sb L now K := by
  obtain ⟨F1, hr, ht, hF, hf, h5⟩ := h
  exact Aft.trans F1 ht hF hf h5 (Aft.still hr ((Turn.refl [] w1).alloc _) (fun a => frozen?_alloc_cells _ _ _ a))
theorem Aft.drewN {F : List Nat} {w w1 : World} {sb : Nat} {L : List Cl} {now K : Int} (h : Aft F w w1 sb L now K) (n : Nat) : Aft F w (w1.drewN n) sb L now K := by
  obtain ⟨F1, hr, ht, hF, hf, h5⟩ := h
  exact Aft.trans F1 ht hF hf h5 (Aft.still hr ((Turn.refl [] w1).drewN _) (fun _ => rfl))

set_option maxRecDepth 100000 in
set_option maxHeartbeats 2000000 in
theorem Take_c {F : List Nat} {w : World} {sb : Nat} {L : List Cl} {now K : Int} (h : RS F w sb L now K) {x : ByteArray} (q t n f : Int) (hx : x.size ≤ maxLen) (ht : t ≤ 9223372036854775807) (hlen : L.length < maxLen) (hK : (L.length : Int) + 1 ≤ K) (hK4 : K ≤ 9223372036854775807) :
    Calls Try.prog 38 #[.pointer (some ⟨sb, 0, none⟩), .agg #[.string x, .int .u64 q], .int .i64 t, .int .i64 n, .int .u64 f] w fun e w' => e = .returned (.bool (tookL L x q n f (max now t)).1) ∧
      Aft F w w' sb ((tookL L x q n f (max now t)).2.dropWhile (oldL (max now t))) (max now t) K := by
  have H : Hid (RS F w sb L now K) := h
  obtain ⟨c3, c0, fs⟩ : w.cell? ⟨sb, 3, none⟩ = some (.int .i64 now) ∧ (∃ v, w.cell? ⟨sb, 0, none⟩ = some v) ∧ ∀ o, w.frozen? ⟨sb, o, none⟩ = false := by
    obtain ⟨N, m, tbl, peak, rfl, h, hp0, hpK, hF⟩ := h
    exact ⟨h.c3, ⟨_, h.c0⟩, h.fz sb (.inl rfl)⟩
  have hs : sb < w.heap.size := lt_of_cell c3
  clear h c0
  have HB : Hid (∀ now', now' = max now t → Aft F w ((w.setCell ⟨sb, 3, none⟩ (.int .i64 now')).alloc (Obj.cells #[.string x, .int .u64 q] 68)) sb L now' K) := by
    intro now' e
    refine (RS.time H.out (by omega) ?_).box _ _
    obtain ⟨N, m, tbl, peak, rfl, h, _⟩ := H.out
    have := h.nowb
    omega
  by_cases hxe : x = ByteArray.empty
  · subst hxe
    have HT : Hid (tookL L ByteArray.empty q n f (max now t) = (true, L)) := by unfold tookL; rw [if_pos rfl]; trivial
    have hte := empty_toList
    go_enter Try.func38, Try.ntmps38
    go_wp2_with fail
    · obtain ⟨F1, hr, ht1, hF1, hf1, h51⟩ := HB.out t (by omega)
      refine (forget_any hr hK4).mono ?_
      rintro e2 w2 ⟨rfl, haft⟩
      have HA : Hid (Aft F w w2 sb (L.dropWhile (oldL t)) t K) := Aft.trans F1 ht1 hF1 hf1 h51 haft
      clear haft hr ht1 hF1 hf1 h51
      go_wp2
      go_ret
      rw [HT.out, show max now t = t from by omega]
      exact ⟨rfl, HA.out⟩
    · obtain ⟨F1, hr, ht1, hF1, hf1, h51⟩ := HB.out now (by omega)
      refine (forget_any hr hK4).mono ?_
      rintro e2 w2 ⟨rfl, haft⟩
      have HA : Hid (Aft F w w2 sb (L.dropWhile (oldL now)) now K) := Aft.trans F1 ht1 hF1 hf1 h51 haft
      clear haft hr ht1 hF1 hf1 h51
      go_wp2
      go_ret
      rw [HT.out, show max now t = now from by omega]
      exact ⟨rfl, HA.out⟩
  · have HT : Hid (tookL L x q n f (max now t) = recL L x q n f (max now t)) := by unfold tookL; rw [if_neg hxe]; trivial
    have hte := str_empty hxe
    have hte2 : x.toList.isEmpty = false := by simpa using hte
    clear hxe
    go_enter Try.func38, Try.ntmps38
    go_wp2_with fail
    · obtain ⟨F1, hr, ht1, hF1, hf1, h51⟩ := HB.out t (by omega)
      refine (record_any hr q n f hx hlen hK).mono ?_
      rintro e2 w2 ⟨rfl, haft⟩
      obtain ⟨F2, hr2, ht2, hF2, hf2, h52⟩ := Aft.trans F1 ht1 hF1 hf1 h51 haft
      have HA : Hid (RS F2 w2 sb (recL L x q n f t).2 t K ∧ Turn F w w2 ∧ (∀ k ∈ F2, k ∈ F ∨ w.heap.size ≤ k) ∧ (∀ a, w2.frozen? a = w.frozen? a) ∧ ∀ o, 5 ≤ o → w2.cell? ⟨sb, o, none⟩ = w.cell? ⟨sb, o, none⟩) := ⟨hr2, ht2, hF2, hf2, h52⟩
      clear haft hr ht1 hF1 hf1 h51 hr2 ht2 hF2 hf2 h52
      go_wp2_with fail
      obtain ⟨hr2, ht2, hF2, hf2, h52⟩ := HA.out
      refine (forget_any hr2 hK4).mono ?_
      rintro e3 w3 ⟨rfl, haft⟩
      have HC : Hid (Aft F w w3 sb ((recL L x q n f t).2.dropWhile (oldL t)) t K) := Aft.trans F2 ht2 hF2 hf2 h52 haft
      clear haft hr2 ht2 hF2 hf2 h52
      go_wp2
      go_ret
      rw [HT.out, show max now t = t from by omega]
      exact ⟨rfl, HC.out⟩
    · obtain ⟨F1, hr, ht1, hF1, hf1, h51⟩ := HB.out now (by omega)
      refine (record_any hr q n f hx hlen hK).mono ?_
      rintro e2 w2 ⟨rfl, haft⟩
      obtain ⟨F2, hr2, ht2, hF2, hf2, h52⟩ := Aft.trans F1 ht1 hF1 hf1 h51 haft
      have HA : Hid (RS F2 w2 sb (recL L x q n f now).2 now K ∧ Turn F w w2 ∧ (∀ k ∈ F2, k ∈ F ∨ w.heap.size ≤ k) ∧ (∀ a, w2.frozen? a = w.frozen? a) ∧ ∀ o, 5 ≤ o → w2.cell? ⟨sb, o, none⟩ = w.cell? ⟨sb, o, none⟩) := ⟨hr2, ht2, hF2, hf2, h52⟩
      clear haft hr ht1 hF1 hf1 h51 hr2 ht2 hF2 hf2 h52
      go_wp2_with fail
      obtain ⟨hr2, ht2, hF2, hf2, h52⟩ := HA.out
      refine (forget_any hr2 hK4).mono ?_
      rintro e3 w3 ⟨rfl, haft⟩
      have HC : Hid (Aft F w w3 sb ((recL L x q n f now).2.dropWhile (oldL now)) now K) := Aft.trans F2 ht2 hF2 hf2 h52 haft
      clear haft hr2 ht2 hF2 hf2 h52
      go_wp2
      go_ret
      rw [HT.out, show max now t = now from by omega]
      exact ⟨rfl, HC.out⟩

set_option maxRecDepth 100000 in
set_option maxHeartbeats 2000000 in
/-- take of a request -/
theorem take_req {F : List Nat} {w : World} {sb : Nat} {L : List Cl} {now K : Int} (h : RS F w sb L now K) {x : ByteArray} (q t n l : Int) (hx : x.size ≤ maxLen) (ht : t ≤ 9223372036854775807) (hlen : L.length < maxLen) (hK : (L.length : Int) + 1 ≤ K) (hK4 : K ≤ 9223372036854775807) (hl0 : 0 ≤ l) (hl : l < 18446744073709551615) :
    Calls Try.prog 29 #[.pointer (some ⟨sb, 0, none⟩), .agg #[.string x, .int .u64 q, .int .i64 t, .int .i64 n, .slice none 0 0, .int .u64 0], .int .u64 l] w fun e w' => e = .returned (.int .i64 (if (tookL L x q n (l + 1) (max now t)).1 then n else 0)) ∧
      Aft F w w' sb ((tookL L x q n (l + 1) (max now t)).2.dropWhile (oldL (max now t))) (max now t) K := by
  have H : Hid (RS F w sb L now K) := h
  have hs : sb < w.heap.size := by obtain ⟨N, m, tbl, peak, rfl, h, _⟩ := h; exact lt_of_cell h.c0
  clear h
  obtain ⟨tb, htb⟩ : ∃ tb, (tookL L x q n (l + 1) (max now t)).1 = tb := ⟨_, rfl⟩
  have HT : Hid (Calls Try.prog 38 #[.pointer (some ⟨sb, 0, none⟩), .agg #[.string x, .int .u64 q], .int .i64 t, .int .i64 n, .int .u64 (l + 1)]
      (w.alloc (Obj.cells #[.string x, .int .u64 q, .int .i64 t, .int .i64 n, .slice none 0 0, .int .u64 0] 70)).drew fun e w' => e = .returned (.bool tb) ∧
      Hid (Aft F w w' sb ((tookL L x q n (l + 1) (max now t)).2.dropWhile (oldL (max now t))) (max now t) K) ∧ w'.cell? ⟨w.heap.size, 3, none⟩ = some (.int .i64 n)) := by
    have hT0 : Turn [] w (w.alloc (Obj.cells #[.string x, .int .u64 q, .int .i64 t, .int .i64 n, .slice none 0 0, .int .u64 0] 70)).drew := ((Turn.refl [] w).alloc _).drew
    have hf0 : ∀ a, (w.alloc (Obj.cells #[.string x, .int .u64 q, .int .i64 t, .int .i64 n, .slice none 0 0, .int .u64 0] 70)).drew.frozen? a = w.frozen? a := fun a => frozen?_alloc_cells _ _ _ a
    have hb : (w.alloc (Obj.cells #[.string x, .int .u64 q, .int .i64 t, .int .i64 n, .slice none 0 0, .int .u64 0] 70)).drew.cell? ⟨w.heap.size, 3, none⟩ = some (.int .i64 n) := World.cell?_alloc_at _ _ _ _ rfl
    have hsz : w.heap.size < (w.alloc (Obj.cells #[.string x, .int .u64 q, .int .i64 t, .int .i64 n, .slice none 0 0, .int .u64 0] 70)).drew.heap.size := by simp
    generalize (w.alloc (Obj.cells #[.string x, .int .u64 q, .int .i64 t, .int .i64 n, .slice none 0 0, .int .u64 0] 70)).drew = u at hT0 hf0 hb hsz ⊢
    obtain ⟨N, m, tbl, peak, hN, hq, hp0, hpK, hF⟩ := H.out
    have hu : RS (foot sb N m) u sb L now K := ⟨N, m, tbl, peak, hN, hq.grow hT0, hp0, hpK, fun _ h => h⟩
    refine (Take_c hu q t n (l + 1) hx ht hlen hK hK4).mono ?_
    rintro e w' ⟨he, F', hr', ht', hF', hf', h5'⟩
    refine ⟨by rw [he, htb], ⟨F', hr', (hT0.mono (fun _ e => by simp at e)).trans ht' (fun a ha _ => hF a ha), fun k hk => ?_, fun a => (hf' a).trans (hf0 a), fun o ho => (h5' o ho).trans (World.cell?_of_block (hT0.block sb hs (by simp)))⟩, ?_⟩
    · rcases hF' k hk with e | e
      · exact .inl (hF k e)
      · exact .inr (Nat.le_trans hT0.size e)
    · refine (World.cell?_of_block (ht'.block w.heap.size hsz ?_)).trans hb
      intro e
      have := hq.lt _ e
      omega
  rw [htb]
  clear htb
  have hwl : IntKind.u64.wrap (l + 1) = l + 1 := IntWalk.u64_in _ ⟨by omega, by omega⟩
  go_enter Try.func29, Try.ntmps29
  go_wp2_with fail
  cases tb
  · go_region_with (go_at_call 38; refine HT.out.mono ?_; rintro e3 w3 ⟨rfl, hA, hb3⟩)
    all_goals go_wp2
    all_goals go_ret
    all_goals exact ⟨rfl, hA.out⟩
  · go_region_with (go_at_call 38; refine HT.out.mono ?_; rintro e3 w3 ⟨rfl, hA, hb3⟩)
    all_goals go_wp2
    all_goals go_ret
    all_goals exact ⟨rfl, hA.out⟩
end Go.Proofs.Qxb6615757a
