/-
  The walk of ZZlogWith.
-/
import Derived.Test.Qxb6615757aPend
import Derived.Test.Qxb6615757aLog2
import Derived.Test.Qxb6615757aBegin
namespace Go.Proofs.Qxb6615757a
open Go.RowKit

/-- the cells of a slot that holds the configuration v -/
def reqCells (v : Value) : List Value := [.string ⟨#[]⟩, .int .u64 0, .int .i64 0, .int .i64 0, v, .int .u64 0, .slice none 0 0, .int .i64 0, .int .i64 0]
def flatR : List Sl → List Value
  | [] => []
  | q :: qs => reqCells q.val ++ flatR qs
theorem flatR_length (qs : List Sl) : (flatR qs).length = qs.length * 9 := by
  induction qs with
  | nil => rfl
  | cons q qs ih => simp only [flatR, List.length_append, List.length_cons, ih]; simp [reqCells]; omega
theorem flatR_append (a b : List Sl) : flatR (a ++ b) = flatR a ++ flatR b := by
  induction a with
  | nil => rfl
  | cons q a ih => simp only [List.cons_append, flatR, ih, List.append_assoc]
theorem info105 : ∃ i, Try.prog.info? 105 = some i ∧ i.zero = some (.agg #[.string ⟨#[]⟩, .int .u64 0, .int .i64 0, .int .i64 0, .slice none 0 0, .int .u64 0, .slice none 0 0, .int .i64 0, .int .i64 0]) ∧ i.size = 9 ∧ i.bytes = 112 := by
  have h : (Try.prog.info? 105).map (fun i => (i.zero, i.size, i.bytes)) = some (some (.agg #[.string ⟨#[]⟩, .int .u64 0, .int .i64 0, .int .i64 0, .slice none 0 0, .int .u64 0, .slice none 0 0, .int .i64 0, .int .i64 0]), 9, 112) := by kernel_rfl
  cases e : Try.prog.info? 105 with
  | none => rw [e] at h; cases h
  | some i => rw [e] at h; simp at h; exact ⟨i, rfl, h.1, h.2.1, h.2.2⟩
theorem LogIs.kept {w w' : World} {lb : Nat} {cfg pend : Value} {row : Option Nat} (h : LogIs w lb cfg pend) (hg : w.grownBy w' row) (hr : row ≠ some lb) : LogIs w' lb cfg pend := by
  have hlt := lt_of_cell2 h.c3
  have hb := hg.block lb hlt (fun e => hr e.symm)
  have hc : ∀ o, w'.cell? ⟨lb, o, none⟩ = w.cell? ⟨lb, o, none⟩ := fun o => World.cell?_of_block hb
  obtain ⟨n, c32⟩ := h.c32
  obtain ⟨v, c38⟩ := h.c38
  exact ⟨(hc 3).trans h.c3, (hc 24).trans h.c24, (hc 30).trans h.c30, ⟨n, (hc 32).trans c32⟩, ⟨v, (hc 38).trans c38⟩, fun o => (World.frozen?_of_block hb).trans (h.f o)⟩
theorem LogIs.pend {w : World} {lb : Nat} {cfg pend : Value} (h : LogIs w lb cfg pend) (v : Value) : LogIs (w.setCell ⟨lb, 24, none⟩ v) lb cfg v := by
  obtain ⟨n, c32⟩ := h.c32
  obtain ⟨v38, c38⟩ := h.c38
  exact ⟨(set_other _ _ _ _ _ (by omega)).trans h.c3, set_same _ _ _ _ _ h.c24, (set_other _ _ _ _ _ (by omega)).trans h.c30, ⟨n, (set_other _ _ _ _ _ (by omega)).trans c32⟩, ⟨v38, (set_other _ _ _ _ _ (by omega)).trans c38⟩, fun o => by rw [World.frozen?_setCell]; exact h.f o⟩

set_option maxRecDepth 100000 in
set_option maxHeartbeats 2000000 in
theorem logWith_c (base : Nat) (ca : Option Addr) (cl cc : Nat) (pa : Option Addr) (pc : Nat) (qs : List Sl) (w : World) (hown : w.ownsRow base 29 1 (.slice pa qs.length pc) qs.length (qs.map Sl.val)) (hl : qs.length ≤ 1048576) :
    Calls Try.prog 22 #[.slice ca cl cc, .slice pa qs.length pc] w fun e w' => ∃ lb pv, e = .returned (.pointer (some ⟨lb, 0, none⟩)) ∧ w.heap.size ≤ lb ∧ LogIs w' lb (.slice ca cl cc) pv ∧ w'.ownsRow (lb + 1) 105 9 pv qs.length (flatR qs) ∧ w.grownBy w' none := by
  have HO : Hid (w.ownsRow base 29 1 (.slice pa qs.length pc) qs.length (qs.map Sl.val)) := hown
  have hl2 : (qs.length : Int) ≤ 1048576 := by omega
  clear hown
  go_enter Try.func22, Try.ntmps22
  go_wp2_with fail
  refine (newLog_c w).mono ?_
  rintro e1 w1 ⟨lb, rfl, hlb, hlog, hg1⟩
  have L1 : Hid (w.heap.size ≤ lb ∧ LogIs w1 lb (.slice none 0 0) (.slice none 0 0) ∧ w.grownBy w1 none) := ⟨hlb, hlog, hg1⟩
  clear hlb hlog hg1
  go_wp2_with fail
  refine (begin_c lb _ ca cl cc w1 L1.out.2.1).mono ?_
  rintro e2 w2 ⟨rfl, hlog, hg2⟩
  have L2 : Hid (w.heap.size ≤ lb ∧ LogIs w2 lb (.slice ca cl cc) (.slice none 0 0) ∧ w.grownBy w2 none) := ⟨L1.out.1, hlog, grown_row L1.out.2.2 hg2 (fun k e => by cases e; exact L1.out.1)⟩
  clear hlog hg2 L1
  go_wp2_with fail
  obtain ⟨i0, hi, hz, hsz, hby⟩ := info105
  have HI : Hid (Try.prog.info? 105 = some i0 ∧ i0.zero = some (.agg #[.string ⟨#[]⟩, .int .u64 0, .int .i64 0, .int .i64 0, .slice none 0 0, .int .u64 0, .slice none 0 0, .int .i64 0, .int .i64 0]) ∧ i0.size = 9 ∧ i0.bytes = 112) := ⟨hi, hz, hsz, hby⟩
  clear hi hz hsz hby
  go_loopg [7, 14] qs.length (fun gg _ i wr => ∃ (k : Nat) (pv : Value), k ≤ qs.length ∧ gg = qs.length - k ∧ i = .int .i64 k ∧ LogIs wr lb (.slice ca cl cc) pv ∧ wr.ownsRow (lb + 1) 105 9 pv k (flatR (qs.take k)) ∧ w.grownBy wr none)
  case atStart => exact ⟨0, _, Nat.zero_le _, rfl, rfl, L2.out.2.1, World.ownsRow_nil _ _ _ _, L2.out.2.2⟩
  case round =>
    obtain ⟨k, pv, hk, hgg, rfl, hlog, hrow, hgr⟩ := hrel
    have MD : Hid (LogIs wr lb (.slice ca cl cc) pv ∧ wr.ownsRow (lb + 1) 105 9 pv k (flatR (qs.take k)) ∧ w.grownBy wr none ∧ gk = qs.length - k) := ⟨hlog, hrow, hgr, hgg⟩
    clear hlog hrow hgr hgg
    by_cases hlt : k < qs.length
    · obtain ⟨q, hq⟩ : ∃ q, qs[k]? = some q := ⟨qs[k], List.getElem?_eq_getElem hlt⟩
      have HQ : Hid (qs[k]? = some q) := hq
      have hpa : ∃ g, pa = some ⟨g, 0, none⟩ ∧ w.cell? ⟨g, k, none⟩ = some q.val := by
        have h := HO.out
        obtain ⟨_, ⟨e, hn⟩ | ⟨g, cap, cur, e, r⟩⟩ := HO.out
        · omega
        · cases e
          refine ⟨g, rfl, ?_⟩
          rw [h.cellAt k (by omega), List.getElem?_map, hq]
          rfl
      obtain ⟨g, rfl, cq⟩ := hpa
      have cq : wr.cell? ⟨g, k, none⟩ = some (.slice q.a q.ms.length q.cap) := MD.out.2.2.1.cell cq (by simp)
      have c24 := MD.out.1.c24
      have hlb : lb < wr.heap.size := lt_of_cell2 c24
      have f24 := MD.out.1.f 24
      clear hq
      go_wp2_with (at_builtin; refine wpList_append_own _ rfl _ _ 77 rfl (lb + 1) 105 i0 _ 9 112 Try.underlying77 HI.out.1 HI.out.2.1 HI.out.2.2.1 HI.out.2.2.2 rfl (by omega) _ _ _ rfl (MD.out.2.1.alloc _) ⟨wr.heap.size, 0, none⟩ 1 1 (reqCells q.val) rfl ?qc1 ?qc2 ?qc3 ?qc4 ?qc5 ?qc6 ?_)
      case qc1 => rfl
      case qc2 =>
        intro j u hj
        rw [Addr.add_lit, Nat.zero_add, World.cell?_alloc_at _ _ _ _ rfl, ← hj]
        simp [reqCells, Sl.val]
      case qc3 => intro u hu; simp [reqCells, Sl.val] at hu; rcases hu with rfl | rfl | rfl | rfl | rfl | rfl | rfl | rfl | rfl <;> rfl
      case qc4 => have : maxLen = 9223372036854775807 := rfl; omega
      case qc5 => omega
      case qc6 => simp; omega
      intro v' w5 hown hgrow hnil
      have L5 : Hid (LogIs w5 lb (.slice ca cl cc) pv ∧ w5.ownsRow (lb + 1) 105 9 v' (k + 1) (flatR (qs.take (k + 1))) ∧ w.grownBy w5 none) := by
        have hne : ∀ j, pv.ownBlock = some j → lb + 1 ≤ j := fun j hj => (MD.out.2.1.lt j hj).1
        have g1 := World.grownBy_alloc wr (Obj.cells #[Value.string ⟨#[]⟩, Value.int .u64 0, Value.int .i64 0, Value.int .i64 0, Value.slice q.a q.ms.length q.cap, Value.int .u64 0, Value.slice none 0 0, Value.int .i64 0, Value.int .i64 0] 105) none
        refine ⟨(MD.out.1.kept g1 (by simp)).kept hgrow (fun e => by have := hne lb e; omega), ?_, grown_row (grown_trans MD.out.2.2.1 g1) hgrow (fun j hj => by have := hne j hj; have := L2.out.1; omega)⟩
        rw [List.take_add_one, HQ.out, flatR_append]
        simpa [flatR] using hown
      have d24 := L5.out.1.c24
      have e24 := L5.out.1.f 24
      obtain ⟨va, vn, vc, hv⟩ : ∃ a n c, v' = .slice a n c := by
        obtain ⟨_, ⟨e, _⟩ | ⟨g', cap', cur', e, _⟩⟩ := L5.out.2.1
        · exact ⟨_, _, _, e⟩
        · exact ⟨_, _, _, e⟩
      subst hv
      clear hown hgrow hnil
      go_wp2_with fail
      go_roundg (qs.length - (k + 1))
      case measure => have := MD.out.2.2.2; omega
      case rel =>
        have hs := grown_self (grown_refl_b w5 lb) 24 (.slice va vn vc)
        refine ⟨k + 1, .slice va vn vc, by omega, rfl, by go_num, L5.out.1.pend _, ?_, grown_row L5.out.2.2 hs (fun j e => by cases e; exact L2.out.1)⟩
        refine World.ownsRow.kept L5.out.2.1 hs ?_
        cases hv : (Value.slice va vn vc).ownBlock with
        | none => exact .inl rfl
        | some j =>
          refine .inr (fun e => ?_)
          cases e
          have := (World.ownsRow.lt L5.out.2.1 lb hv).1
          omega
    · have hkl : k = qs.length := by omega
      go_wp2
      go_ret
      refine ⟨lb, pv, rfl, L2.out.1, MD.out.1, ?_, MD.out.2.2.1⟩
      have h := MD.out.2.1
      rw [hkl, List.take_length] at h
      exact h
end Go.Proofs.Qxb6615757a
