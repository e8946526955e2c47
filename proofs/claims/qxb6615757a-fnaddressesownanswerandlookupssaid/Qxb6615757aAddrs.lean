/-
  The walk of (*Log).addresses.
-/
import Derived.Test.Qxb6615757aAddr
namespace Go.Proofs.Qxb6615757a
open Go.RowKit
open Go.MuLone

/-- what lies at a does not lie in block lb -/
def Off (lb : Nat) (a : Option Addr) : Prop := ∀ b off s, a = some ⟨b, off, s⟩ → b ≠ lb
theorem MsAt.keptOff {w w' : World} {a : Option Addr} {ms : List Mem} {lb : Nat} (h : MsAt w a ms) (ho : Off lb a) (g : w.grownBy w' (some lb)) : MsAt w' a ms := fun i m hi => by
  obtain ⟨b, off, e, c0, c1⟩ := h i m hi
  have hb := ho b off none e
  exact ⟨b, off, e, g.cell c0 (by simpa using hb), g.cell c1 (by simpa using hb)⟩
theorem flatR_get (qs : List Sl) (i : Nat) (q : Sl) (h : qs[i]? = some q) (j : Nat) (hj : j < 9) : (flatR qs)[i * 9 + j]? = (reqCells q.val)[j]? := by
  induction qs generalizing i with
  | nil => simp at h
  | cons x qs ih =>
    cases i with
    | zero =>
      simp at h
      subst h
      simp only [flatR, Nat.zero_mul, Nat.zero_add]
      exact List.getElem?_append_left (by simpa [reqCells] using hj)
    | succ i =>
      simp only [List.getElem?_cons_succ] at h
      simp only [flatR]
      rw [List.getElem?_append_right (by simp [reqCells]; omega), show (i + 1) * 9 + j - (reqCells x.val).length = i * 9 + j from by simp [reqCells]; omega]
      exact ih i h

theorem Own.keptB {base : Nat} {e : TypeId} {w w' : World} {v : Value} {ms : List Mem} {g : Nat} (h : Own base e w v ms) (hg : w.grownBy w' (some g)) (hb : g < base) : Own base e w' v ms := by
  refine World.ownsRow.kept h hg ?_
  cases hv : v.ownBlock with
  | none => exact .inl rfl
  | some k =>
    refine .inr (fun e => ?_)
    cases e
    have := (World.ownsRow.lt h g hv).1
    omega
theorem addrs_length (ps : List (List Mem)) (cfg : List Mem) : (addrs cfg ps).length ≤ cfg.length + (ps.map List.length).sum := by
  unfold addrs
  induction ps generalizing cfg with
  | nil => simp
  | cons p ps ih =>
    have h1 := ih (addAll cfg p)
    have h2 := addAll_length p cfg
    simp only [List.foldl_cons, List.map_cons, List.sum_cons]
    omega
theorem sum_take (qs : List Sl) (k : Nat) (q : Sl) (h : qs[k]? = some q) : (((qs.map (·.ms)).take k).map List.length).sum + q.ms.length ≤ (qs.map (·.ms.length)).sum := by
  induction qs generalizing k with
  | nil => simp at h
  | cons x qs ih =>
    cases k with
    | zero => simp at h; subst h; simp
    | succ k =>
      simp only [List.getElem?_cons_succ] at h
      have := ih k h
      simp only [List.map_cons, List.take_succ_cons, List.sum_cons]
      omega

set_option maxRecDepth 100000 in
set_option maxHeartbeats 2000000 in
theorem addresses_c (lb : Nat) (ca : Option Addr) (cc : Nat) (cms : List Mem) (pa : Option Addr) (pc : Nat) (qs : List Sl) (w : World) (hlog : LogIs w lb (.slice ca cms.length cc) (.slice pa qs.length pc))
    (hc : MsAt w ca cms) (hcn : ca = none → cms = []) (hco : Off lb ca) (hrow : w.ownsRow (lb + 1) 105 9 (.slice pa qs.length pc) qs.length (flatR qs)) (hq : ∀ q ∈ qs, MsAt w q.a q.ms ∧ Off lb q.a)
    (hsum : cms.length + (qs.map (·.ms.length)).sum ≤ 1048576) :
    Calls Try.prog 33 #[.pointer (some ⟨lb, 0, none⟩)] w fun e w' => ∃ v, e = .returned v ∧ Own w.heap.size 57 w' v (addrs cms (qs.map (·.ms))) ∧ LogIs w' lb (.slice ca cms.length cc) (.slice pa qs.length pc) ∧ w.grownBy w' (some lb) := by
  have HL : Hid (LogIs w lb (.slice ca cms.length cc) (.slice pa qs.length pc)) := hlog
  have HC : Hid (MsAt w ca cms ∧ (ca = none → cms = []) ∧ Off lb ca) := ⟨hc, hcn, hco⟩
  have HQ : Hid (w.ownsRow (lb + 1) 105 9 (.slice pa qs.length pc) qs.length (flatR qs) ∧ ∀ q ∈ qs, MsAt w q.a q.ms ∧ Off lb q.a) := ⟨hrow, hq⟩
  have HS : Hid (cms.length + (qs.map (·.ms.length)).sum ≤ 1048576) := hsum
  obtain ⟨c3, c24, c30, ⟨n32, c32⟩, ⟨v38, c38⟩, f⟩ := hlog
  have f3 := f 3
  clear hc hcn hco hrow hq hsum
  go_enter_defers Try.func33, Try.ntmps33
  go_wp2_with (go_at_call 40; refine (lock_free Try.muLib ⟨lb, 3, none⟩ _ c3 f3).mono ?_; rintro e w' ⟨rfl, rfl⟩)
  have k3 := set_same w lb 3 (.int .i32 1) _ c3
  generalize hu1 : w.setCell ⟨lb, 3, none⟩ (Value.int .i32 1) = u1
  have g1 : w.grownBy u1 (some lb) := hu1 ▸ grown_self (grown_refl_b w lb) _ _
  have z1 : u1.heap.size = w.heap.size := by rw [← hu1]; simp [World.setCell]
  have oth : ∀ o, o ≠ 3 → u1.cell? ⟨lb, o, none⟩ = w.cell? ⟨lb, o, none⟩ := fun o ho => by rw [← hu1]; exact set_other _ _ _ _ _ ho
  have k3 : u1.cell? ⟨lb, 3, none⟩ = some (.int .i32 1) := by rw [← hu1]; exact k3
  have kf : ∀ o, u1.frozen? ⟨lb, o, none⟩ = false := fun o => by rw [← hu1]; simpa using f o
  have d24 := (oth 24 (by omega)).trans c24
  have U : Hid (w.grownBy u1 (some lb) ∧ u1.heap.size = w.heap.size ∧ u1.cell? ⟨lb, 3, none⟩ = some (.int .i32 1) ∧ (∀ o, o ≠ 3 → u1.cell? ⟨lb, o, none⟩ = w.cell? ⟨lb, o, none⟩) ∧ (∀ o, u1.frozen? ⟨lb, o, none⟩ = false) ∧
      MsAt u1 ca cms ∧ u1.ownsRow (lb + 1) 105 9 (.slice pa qs.length pc) qs.length (flatR qs) ∧ ∀ q ∈ qs, MsAt u1 q.a q.ms) := by
    refine ⟨g1, z1, k3, oth, kf, HC.out.1.keptOff HC.out.2.2 g1, ?_, fun q hq => (HQ.out.2 q hq).1.keptOff (HQ.out.2 q hq).2 g1⟩
    refine World.ownsRow.kept HQ.out.1 g1 ?_
    cases hv : (Value.slice pa qs.length pc).ownBlock with
    | none => exact .inl rfl
    | some j =>
      refine .inr (fun e => ?_)
      cases e
      have := (World.ownsRow.lt HQ.out.1 lb hv).1
      omega
  clear hu1 g1 z1 oth k3 kf c3 c24 c30 c32 c38 f f3
  refine (clone_c ca cc cms u1 (by have := HS.out; omega) U.out.2.2.2.2.2.1 HC.out.2.1).mono ?_
  rintro e1 w1 ⟨v, rfl, hown, -, hg1⟩
  have O1 : Hid (Own w.heap.size 57 w1 v cms ∧ u1.grownBy w1 none) := ⟨hown.base (by rw [U.out.2.1]; omega), hg1⟩
  clear hown
  have e24 : w1.cell? ⟨lb, 24, none⟩ = some (.slice pa qs.length pc) := hg1.cell d24 (by simp)
  clear hg1 d24
  go_wp2_with fail
  have hql : qs.length ≤ maxLen := by
    obtain ⟨_, ⟨_, hn⟩ | ⟨g, cap, cur, e, r1, r2, r3, r4, _⟩⟩ := HQ.out.1
    · omega
    · omega
  have hql2 : (qs.length : Int) ≤ 9223372036854775807 := by have : maxLen = 9223372036854775807 := rfl; omega
  clear hql e24 k3
  go_loopg [3, 28] qs.length (fun gg vv i wr => ∃ k : Nat, k ≤ qs.length ∧ gg = qs.length - k ∧ i = .int .i64 k ∧ Own w.heap.size 57 wr vv (addrs cms ((qs.map (·.ms)).take k)) ∧ u1.grownBy wr none)
  case atStart => exact ⟨0, Nat.zero_le _, rfl, rfl, O1.out.1, O1.out.2⟩
  case round =>
    obtain ⟨k, hk, hgg, rfl, hown, hgr⟩ := hrel
    obtain ⟨va, vc, rfl, -⟩ := hown.slice
    by_cases hlt : k < qs.length
    · obtain ⟨q, hq⟩ : ∃ q, qs[k]? = some q := ⟨qs[k], List.getElem?_eq_getElem hlt⟩
      have MD : Hid (qs[k]? = some q ∧ Own w.heap.size 57 wr (.slice va (addrs cms ((qs.map (·.ms)).take k)).length vc) (addrs cms ((qs.map (·.ms)).take k)) ∧ u1.grownBy wr none ∧ gk = qs.length - k) := ⟨hq, hown, hgr, hgg⟩
      have hpa : ∃ g, pa = some ⟨g, 0, none⟩ ∧ ∀ j, j < 9 → wr.cell? ⟨g, k * 9 + j, none⟩ = (reqCells q.val)[j]? := by
        have h := World.ownsRow.kept U.out.2.2.2.2.2.2.1 hgr (by
          cases hv : (Value.slice pa qs.length pc).ownBlock with
          | none => exact .inl rfl
          | some j => exact .inr (by simp))
        obtain ⟨_, ⟨e, hn⟩ | ⟨g, cap, cur, e, r⟩⟩ := HQ.out.1
        · omega
        · cases e
          refine ⟨g, rfl, fun j hj => ?_⟩
          rw [h.cellAt _ (by omega)]
          exact flatR_get qs k q hq j hj
      obtain ⟨g, rfl, hcell⟩ := hpa
      have e0 : wr.cell? ⟨g, k * 9, none⟩ = some (.string ⟨#[]⟩) := hcell 0 (by omega)
      have e1 : wr.cell? ⟨g, k * 9 + 1, none⟩ = some (.int .u64 0) := hcell 1 (by omega)
      have e2 : wr.cell? ⟨g, k * 9 + 2, none⟩ = some (.int .i64 0) := hcell 2 (by omega)
      have e3 : wr.cell? ⟨g, k * 9 + 3, none⟩ = some (.int .i64 0) := hcell 3 (by omega)
      have e4 : wr.cell? ⟨g, k * 9 + 4, none⟩ = some (.slice q.a q.ms.length q.cap) := hcell 4 (by omega)
      have e5 : wr.cell? ⟨g, k * 9 + 5, none⟩ = some (.int .u64 0) := hcell 5 (by omega)
      have e6 : wr.cell? ⟨g, k * 9 + 6, none⟩ = some (.slice none 0 0) := hcell 6 (by omega)
      have e7 : wr.cell? ⟨g, k * 9 + 7, none⟩ = some (.int .i64 0) := hcell 7 (by omega)
      have e8 : wr.cell? ⟨g, k * 9 + 8, none⟩ = some (.int .i64 0) := hcell 8 (by omega)
      clear hcell hown hgr hgg
      have HQK : Hid (qs[k]? = some q) := hq
      clear hq
      go_wp2_with fail
      have hq := HQK.out
      clear e0 e1 e2 e3 e4 e5 e6 e7 e8
      have HB : Hid ((addrs cms ((qs.map (·.ms)).take k)).length + q.ms.length ≤ 1048576) := by
        have h1 := addrs_length ((qs.map (·.ms)).take k) cms
        have h2 := HS.out
        have h3 : (((qs.map (·.ms)).take k).map List.length).sum + q.ms.length ≤ (qs.map (·.ms.length)).sum := sum_take qs k q hq
        exact Nat.le_trans (Nat.add_le_add_right h1 _) (by omega)
      have hqm : (q.ms.length : Int) ≤ 1048576 := by have := HB.out; omega
      obtain ⟨al, hal⟩ : ∃ al, addrs cms ((qs.map (·.ms)).take k) = al := ⟨_, rfl⟩
      have HA : Hid (addrs cms ((qs.map (·.ms)).take k) = al) := hal
      rw [hal] at MD HB ⊢
      clear hal
      go_loopg [3, 36] q.ms.length (fun gg vv i wi => ∃ j : Nat, j ≤ q.ms.length ∧ gg = q.ms.length - j ∧ i = .int .i64 j ∧ Own w.heap.size 57 wi vv (addAll al (q.ms.take j)) ∧ u1.grownBy wi none)
      case atStart => exact ⟨0, Nat.zero_le _, rfl, rfl, MD.out.2.1.kept (World.grownBy_alloc _ _ _), grown_alloc MD.out.2.2.1 _⟩
      case round =>
        obtain ⟨j, hj, hjg, rfl, hown, hgr⟩ := hrel
        obtain ⟨xa, xc, rfl, hxs⟩ := hown.slice
        by_cases hjl : j < q.ms.length
        · obtain ⟨m, hm⟩ : ∃ m, q.ms[j]? = some m := ⟨q.ms[j], List.getElem?_eq_getElem hjl⟩
          obtain ⟨b, off, ea, c0, c1⟩ := (U.out.2.2.2.2.2.2.2 q (List.mem_of_getElem? MD.out.1) j m hm).kept hgr
          have IN : Hid (q.ms[j]? = some m ∧ Own w.heap.size 57 wr (.slice xa (addAll al (q.ms.take j)).length xc) (addAll al (q.ms.take j)) ∧ u1.grownBy wr none ∧ gk = q.ms.length - j) := ⟨hm, hown, hgr, hjg⟩
          obtain ⟨all, hall⟩ : ∃ all, addAll al (q.ms.take j) = all := ⟨_, rfl⟩
          have HALL : Hid (addAll al (q.ms.take j) = all ∧ all.length ≤ 1048576) := ⟨hall, by
            have h1 := addAll_length (q.ms.take j) al
            have h2 := HB.out
            have h3 : (q.ms.take j).length ≤ q.ms.length := by simp; omega
            rw [hall] at h1
            omega⟩
          rw [hall] at IN hown hxs ⊢
          have hal2 : (all.length : Int) ≤ 1048576 := by have := HALL.out.2; omega
          clear hm hown hgr hjg hall hxs
          go_wp2_with fail
          have gb := World.grownBy_alloc wr (Obj.cells #[Value.int .i64 m.1, Value.string m.2] 57) none
          obtain ⟨xa', xc', hx1, hx2⟩ := IN.out.2.1.slice
          have hx2 : MsAt wr xa all := by cases hx1; exact hx2
          refine (addr_c xa xc all m.1 _ (by have := HALL.out.2; have : maxLen = 9223372036854775807 := rfl; omega) (hx2.kept gb)).mono ?_
          rintro e2 w3 ⟨rfl, hg3⟩
          have cb : w3.cell? ⟨wr.heap.size, 0, none⟩ = some (.int .i64 m.1) := hg3.cell (World.cell?_alloc_at _ _ _ _ rfl) (by simp)
          have cb1 : w3.cell? ⟨wr.heap.size, 1, none⟩ = some (.string m.2) := hg3.cell (World.cell?_alloc_at _ _ _ _ rfl) (by simp)
          have G3 : Hid (wr.grownBy w3 none) := grown_trans gb hg3
          clear gb hg3 hx1 hx2 c0 c1
          cases hlk : look all m.1 with
          | some s0 =>
            have HE : Hid (addAll al (q.ms.take (j + 1)) = all) := by
              rw [addAll_take IN.out.1, HALL.out.1]
              unfold addOne
              rw [hlk]
              rfl
            simp only [adr]
            clear hlk
            go_wp2_with fail
            go_roundg (q.ms.length - (j + 1))
            case measure => have := IN.out.2.2.2; omega
            case rel => exact ⟨j + 1, by omega, rfl, by go_num, by rw [HE.out]; exact IN.out.2.1.kept G3.out, grown_trans IN.out.2.2.1 G3.out⟩
          | none =>
            have HE : Hid (addAll al (q.ms.take (j + 1)) = all ++ [m]) := by
              rw [addAll_take IN.out.1, HALL.out.1]
              unfold addOne
              rw [hlk]
              rfl
            have O3 : Hid (Own w.heap.size 57 w3 (.slice xa all.length xc) all) := IN.out.2.1.kept G3.out
            have hws : Hid (w.heap.size ≤ w3.heap.size) := by
              have h1 := U.out.2.1
              have h2 := IN.out.2.2.1.size
              have h3 := G3.out.size
              exact (by omega : w.heap.size ≤ w3.heap.size)
            simp only [adr]
            clear hlk ea
            obtain ⟨i0, hi, hz, hsz, hby⟩ := info57
            have HI : Hid (Try.prog.info? 57 = some i0 ∧ i0.zero = some (.agg #[.int .i64 0, .string ⟨#[]⟩]) ∧ i0.size = 2 ∧ i0.bytes = 24) := ⟨hi, hz, hsz, hby⟩
            clear hi hz hsz hby
            go_wp2_with (at_builtin; refine wpList_append_own _ rfl _ _ 29 rfl w.heap.size 57 i0 _ 2 24 Try.underlying29 HI.out.1 HI.out.2.1 HI.out.2.2.1 HI.out.2.2.2 rfl (by omega) _ _ _ rfl (World.ownsRow.alloc O3.out _) ⟨w3.heap.size, 0, none⟩ 1 1 (flat [m]) rfl ?qc1 ?qc2 ?qc3 ?qc4 ?qc5 ?qc6 ?_)
            case qc1 => rfl
            case qc2 =>
              intro jj u hjj
              rw [Addr.add_lit, Nat.zero_add, World.cell?_alloc_at _ _ _ _ rfl, ← hjj]
              simp [flat]
            case qc3 => exact flat_one [m]
            case qc4 => have : maxLen = 9223372036854775807 := rfl; omega
            case qc5 => omega
            case qc6 => have := hws.out; simp; omega
            intro v' w5 hown hgrow hnil
            have L5 : Hid (Own w.heap.size 57 w5 v' (all ++ [m]) ∧ u1.grownBy w5 none) := by
              refine ⟨?_, grown_row (grown_alloc (grown_trans IN.out.2.2.1 G3.out) _) hgrow (fun j hj => ?_)⟩
              · unfold Own
                rw [List.length_append, flat_append]
                exact hown
              · have := (World.ownsRow.lt O3.out j hj).1
                have := U.out.2.1
                omega
            obtain ⟨va', vc', rfl, -⟩ := L5.out.1.slice
            clear hown hgrow hnil
            go_wp2_with fail
            go_roundg (q.ms.length - (j + 1))
            case measure => have := IN.out.2.2.2; omega
            case rel => exact ⟨j + 1, by omega, rfl, by go_num, by rw [HE.out]; exact L5.out.1, L5.out.2⟩
        · have hjl2 : j = q.ms.length := by omega
          have IX : Hid (Own w.heap.size 57 wr (.slice xa (addAll al (q.ms.take j)).length xc) (addrs cms ((qs.map (·.ms)).take (k + 1))) ∧ u1.grownBy wr none) := by
            refine ⟨?_, hgr⟩
            have e : addrs cms ((qs.map (·.ms)).take (k + 1)) = addAll al (q.ms.take j) := by
              rw [addrs_take (ms := q.ms) (by rw [List.getElem?_map, MD.out.1]; rfl), HA.out, hjl2, List.take_length]
            rw [e]
            exact hown
          clear hown hgr hjg hxs
          go_wp2_with fail
          go_roundg (qs.length - (k + 1))
          case measure => have := MD.out.2.2.2; omega
          case rel => exact ⟨k + 1, by omega, rfl, by go_num, IX.out.1, IX.out.2⟩
    · have hkl : k = qs.length := by omega
      subst hkl
      have e : (qs.map (·.ms)).take qs.length = qs.map (·.ms) := List.take_of_length_le (by simp)
      rw [e] at hown ⊢
      have OX : Hid (Own w.heap.size 57 wr (.slice va (addrs cms (qs.map (·.ms))).length vc) (addrs cms (qs.map (·.ms))) ∧ u1.grownBy wr none) := ⟨hown, hgr⟩
      clear hown hgr hgg e
      go_wp2
      have hg2 := OX.out.2
      obtain ⟨n32, c32⟩ := HL.out.c32
      obtain ⟨v38, c38⟩ := HL.out.c38
      have hlt : lb < u1.heap.size := lt_of_cell2 U.out.2.2.1
      have hblk := hg2.block lb hlt (by simp)
      have hc : ∀ o, wr.cell? ⟨lb, o, none⟩ = u1.cell? ⟨lb, o, none⟩ := fun o => World.cell?_of_block hblk
      have hf : ∀ o, wr.frozen? ⟨lb, o, none⟩ = u1.frozen? ⟨lb, o, none⟩ := fun o => World.frozen?_of_block hblk
      have oth := U.out.2.2.2.1
      have z3 : wr.cell? ⟨lb, 3, none⟩ = some (.int .i32 1) := (hc 3).trans U.out.2.2.1
      have zo : ∀ o, o ≠ 3 → wr.cell? ⟨lb, o, none⟩ = w.cell? ⟨lb, o, none⟩ := fun o ho => (hc o).trans (oth o ho)
      have zf : ∀ o, wr.frozen? ⟨lb, o, none⟩ = false := fun o => (hf o).trans (U.out.2.2.2.2.1 o)
      refine leaves_cons (f := 41) (args := #[.pointer (some ⟨lb, 3, none⟩)]) (by simp) (by simp [go_sem]) ?_
      refine (unlock_deferred Try.muLib ⟨lb, 3, none⟩ .returning _ z3 (zf 3)).mono ?_
      rintro e u' w'' ⟨rfl, rfl, rfl⟩
      have gs : w.grownBy (wr.setCell ⟨lb, 3, none⟩ (.int .i32 0)) (some lb) := by
        refine grown_self ?_ _ _
        have g1 := U.out.1
        exact ⟨hg2.os.trans g1.os, hg2.tape.trans g1.tape, hg2.output.trans g1.output, Nat.le_trans g1.size hg2.size, fun i hi hn => (hg2.block i (Nat.lt_of_lt_of_le hi g1.size) (by simp)).trans (g1.block i hi hn)⟩
      refine ⟨_, results_tmp rfl _ _ _, _, rfl, ?_, ⟨set_same _ _ _ _ _ z3, ?_, ?_, ⟨n32, ?_⟩, ⟨v38, ?_⟩, fun o => by simpa using zf o⟩, gs⟩
      · exact OX.out.1.keptB (grown_self (grown_refl_b wr lb) 3 (.int .i32 0)) (U.out.2.1 ▸ hlt)
      · rw [set_other _ _ _ _ _ (by omega), zo _ (by omega)]; exact HL.out.c24
      · rw [set_other _ _ _ _ _ (by omega), zo _ (by omega)]; exact HL.out.c30
      · rw [set_other _ _ _ _ _ (by omega), zo _ (by omega)]; exact c32
      · rw [set_other _ _ _ _ _ (by omega), zo _ (by omega)]; exact c38
end Go.Proofs.Qxb6615757a
