/-
  THE WALKS of latest and of the thin functions (ZZnewRuleState, ZZtake, ZZruleFirst, ZZruleConfig, ZZruleLatest).
-/
import Derived.Test.Qxb6615757aTook
namespace Go.Proofs.Qxb6615757a
open Go.RowKit

def lookL (L : List Cl) (x : ByteArray) : Option Cl := (L.findIdx? (fun c => decide (c.id = x))).bind (L[·]?)
/-- what latest answers -/
def lat : Option Cl → Value
  | some c => .tuple #[.agg #[.int .u64 c.seq, .int .u64 c.fst, .int .i64 c.ent], .bool true]
  | none => .tuple #[.agg #[.int .u64 0, .int .u64 0, .int .i64 0], .bool false]
def lat4 : Option Cl → Value
  | some c => .tuple #[.int .u64 c.seq, .int .u64 c.fst, .int .i64 c.ent, .bool true]
  | none => .tuple #[.int .u64 0, .int .u64 0, .int .i64 0, .bool false]

set_option maxRecDepth 100000 in
set_option maxHeartbeats 2000000 in
theorem latest_c {F : List Nat} {w : World} {sb : Nat} {L : List Cl} {now K : Int} (h : RS F w sb L now K) {x : ByteArray} (hx : x.size ≤ maxLen) :
    Calls Try.prog 30 #[.pointer (some ⟨sb, 0, none⟩), .string x] w fun e w' => e = .returned (lat (lookL L x)) ∧ Turn [] w w' ∧ ∀ a, w'.frozen? a = w.frozen? a := by
  obtain ⟨N, m, tbl, peak, rfl, h, -⟩ := h
  have c0 := h.c0
  have hs : sb < w.heap.size := lt_of_cell c0
  cases hg : Pl.get tbl x with
  | none =>
    have HL : Hid (lookL (N.map (·.2)) x = none) := by unfold lookL; rw [h.find_none hg]; trivial
    have hlook : ∀ (cc : Array Value) (t : TypeId), (Instr.lookup 60 (.map m) (.string x) false).run Try.prog (w.alloc (.cells cc t)) = .ok (.pointer none) (w.alloc (.cells cc t)) := fun cc t => by
      have := h.mp.look (u := w.alloc (.cells cc t)) (fun k hk => Below.heap_alloc w _ k hk) hx
      rw [hg] at this
      exact this
    clear h hg
    go_enter Try.func30, Try.ntmps30
    go_wp2
    exact bodyPost_ret (v := lat none) (by simp [results, Try.results30, go_sem, lat]) rfl ⟨by rw [HL.out], (Turn.refl [] w).alloc _, fun a => frozen?_alloc_cells _ _ _ a⟩
  | some b =>
    obtain ⟨k, c, hk, hid, hfi⟩ := h.find_some hg
    have HL : Hid (lookL (N.map (·.2)) x = some c) := by unfold lookL; rw [hfi]; show (N.map (·.2))[k]? = some c; rw [List.getElem?_map, hk]; rfl
    have hlook : ∀ (cc : Array Value) (t : TypeId), (Instr.lookup 60 (.map m) (.string x) false).run Try.prog (w.alloc (.cells cc t)) = .ok (.pointer (some ⟨b, 0, none⟩)) (w.alloc (.cells cc t)) := fun cc t => by
      have := h.mp.look (u := w.alloc (.cells cc t)) (fun k hk => Below.heap_alloc w _ k hk) hx
      rw [hg] at this
      exact this
    obtain ⟨n0, n1, n2, -, -⟩ := h.nodes _ (List.mem_of_getElem? hk)
    simp only at n0 n1 n2
    have hb : b < w.heap.size := lt_of_cell n0
    clear h hg hk hid hfi
    go_enter Try.func30, Try.ntmps30
    go_wp2
    exact bodyPost_ret (v := lat (some c)) (by simp [results, Try.results30, go_sem, lat]) rfl ⟨by rw [HL.out], (Turn.refl [] w).alloc _, fun a => frozen?_alloc_cells _ _ _ a⟩

set_option maxRecDepth 100000 in
set_option maxHeartbeats 2000000 in
theorem ruleLatest_c {F : List Nat} {w : World} {sb : Nat} {L : List Cl} {now K : Int} (h : RS F w sb L now K) {x : ByteArray} (hx : x.size ≤ maxLen) :
    Calls Try.prog 18 #[.pointer (some ⟨sb, 0, none⟩), .string x] w fun e w' => e = .returned (lat4 (lookL L x)) ∧ Turn [] w w' ∧ ∀ a, w'.frozen? a = w.frozen? a := by
  have H : Hid (RS F w sb L now K) := h
  clear h
  go_enter Try.func18, Try.ntmps18
  go_wp2_with fail
  refine (latest_c H.out hx).mono ?_
  rintro e1 w1 ⟨rfl, ht, hf⟩
  have HT : Hid (Turn [] w w1 ∧ ∀ a, w1.frozen? a = w.frozen? a) := ⟨ht, hf⟩
  clear ht hf
  cases hl : lookL L x with
  | none =>
    simp only [lat]
    go_wp2_with fail
    go_quiet (fail)
    go_wp2
    exact bodyPost_ret (v := lat4 none) (by simp [results, Try.results18, go_sem, lat4]) rfl ⟨by rw [hl], (HT.out.1.alloc _).drewN _, fun a => (frozen?_alloc_cells _ _ _ a).trans (HT.out.2 a)⟩
  | some c =>
    simp only [lat]
    go_wp2_with fail
    go_quiet (fail)
    go_wp2
    exact bodyPost_ret (v := lat4 (some c)) (by simp [results, Try.results18, go_sem, lat4]) rfl ⟨by rw [hl], (HT.out.1.alloc _).drewN _, fun a => (frozen?_alloc_cells _ _ _ a).trans (HT.out.2 a)⟩

theorem ruleFirst_c {w : World} {sb : Nat} {v : Int} (c6 : w.cell? ⟨sb, 6, none⟩ = some (.int .u64 v)) : Calls Try.prog 15 #[.pointer (some ⟨sb, 0, none⟩)] w fun e w' => e = .returned (.int .u64 v) ∧ w' = w := by
  go_enter Try.func15, Try.ntmps15
  go_wp2
  go_ret
  exact ⟨rfl, rfl⟩
theorem ruleConfig_c {w : World} {sb : Nat} {a : Option Addr} {l c : Nat} (c5 : w.cell? ⟨sb, 5, none⟩ = some (.slice a l c)) : Calls Try.prog 16 #[.pointer (some ⟨sb, 0, none⟩)] w fun e w' => e = .returned (.slice a l c) ∧ w' = w := by
  go_enter Try.func16, Try.ntmps16
  go_wp2
  go_ret
  exact ⟨rfl, rfl⟩
/-- a rule state -/
def rule (v : Value) (f : Int) : Obj := .cells #[.map none, .pointer none, .pointer none, .int .i64 0, .int .i64 0, v, .int .u64 f] 65
theorem newRule_c (w : World) (a : Option Addr) (l c : Nat) (f : Int) : Calls Try.prog 9 #[.slice a l c, .int .u64 f] w fun e w' => e = .returned (.pointer (some ⟨w.heap.size, 0, none⟩)) ∧ w' = w.alloc (rule (.slice a l c) f) := by
  go_enter Try.func9, Try.ntmps9
  go_wp2
  go_ret
  exact ⟨rfl, rfl⟩
theorem rs_new (w : World) (v : Value) (f K : Int) (hK : 0 ≤ K) : RS [w.heap.size] (w.alloc (rule v f)) w.heap.size [] 0 K := by
  refine ⟨[], none, [], 0, rfl, ⟨by simp, ⟨?_, ?_, fun i b h => by simp at h, fun i b h => by simp at h⟩, by simp, ?_, ?_, ?_, fun p h => by simp at h, ?_, rfl, fun x b => ?_, rfl, fun p h => by simp at h, fun p h => by simp at h, ⟨by omega, by omega⟩⟩, by omega, hK, fun k hk => ?_⟩
  · exact World.cell?_alloc_at _ _ _ _ rfl
  · exact World.cell?_alloc_at _ _ _ _ rfl
  · exact World.cell?_alloc_at _ _ _ _ rfl
  · exact World.cell?_alloc_at _ _ _ _ rfl
  · exact World.cell?_alloc_at _ _ _ _ rfl
  · rintro a (rfl | h) o
    · exact World.frozen?_alloc_at _ _ _ _ rfl
    · simp at h
  · constructor
    · intro h; simp [Pl.get] at h
    · rintro ⟨c, h, _⟩; simp at h
  · simpa [foot] using hk
theorem zztake_req {F : List Nat} {w : World} {sb : Nat} {L : List Cl} {now K : Int} (h : RS F w sb L now K) {x : ByteArray} (q t n l : Int) (hx : x.size ≤ maxLen) (ht : t ≤ 9223372036854775807) (hlen : L.length < maxLen) (hK : (L.length : Int) + 1 ≤ K) (hK4 : K ≤ 9223372036854775807) (hl0 : 0 ≤ l) (hl : l < 18446744073709551615) :
    Calls Try.prog 12 #[.pointer (some ⟨sb, 0, none⟩), .string x, .int .u64 q, .int .i64 t, .int .i64 n, .slice none 0 0, .int .u64 0, .int .u64 l] w fun e w' => e = .returned (.int .i64 (if (tookL L x q n (l + 1) (max now t)).1 then n else 0)) ∧
      Hid (Aft F w w' sb ((tookL L x q n (l + 1) (max now t)).2.dropWhile (oldL (max now t))) (max now t) K) := by
  have H : Hid (RS F w sb L now K) := h
  clear h
  obtain ⟨res, hres⟩ : ∃ res, (if (tookL L x q n (l + 1) (max now t)).1 = true then n else 0) = res := ⟨_, rfl⟩
  have HE : Hid ((if (tookL L x q n (l + 1) (max now t)).1 = true then n else 0) = res) := hres
  rw [hres]
  clear hres
  go_enter Try.func12, Try.ntmps12
  go_wp2_with fail
  refine (take_req H.out q t n l hx ht hlen hK hK4 hl0 hl).mono ?_
  rintro e1 w1 ⟨he1, ha⟩
  rw [HE.out] at he1
  subst he1
  have HA : Hid (Aft F w w1 sb ((tookL L x q n (l + 1) (max now t)).2.dropWhile (oldL (max now t))) (max now t) K) := ha
  clear ha
  go_wp2
  go_ret
  exact ⟨rfl, HA⟩
end Go.Proofs.Qxb6615757a
