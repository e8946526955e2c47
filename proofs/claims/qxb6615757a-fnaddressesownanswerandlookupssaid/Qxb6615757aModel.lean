/-
  The walk of zzAddressesModel.
-/
import Derived.Test.Qxb6615757aFirst
import Derived.Test.Qxb6615757aAddrs
namespace Go.Proofs.Qxb6615757a
open Go.RowKit

theorem isFirst_eq {cms : List Mem} {ps : List Sl} {i j : Nat} {ms : List Mem} {id : Int} : isFirst cms ps i ms j id = !(look (addAll (addrs cms ((ps.map (·.ms)).take i)) (ms.take j)) id).isSome := by
  rw [has_look, has_addAll, has_addrs]
  unfold isFirst
  rw [← List.map_take, List.any_map]
  rfl

set_option maxRecDepth 100000 in
set_option maxHeartbeats 2000000 in
theorem model_c (ca : Option Addr) (cc : Nat) (cms : List Mem) (pa : Option Addr) (pc : Nat) (ps : List Sl) (w : World) (hc : MsAt w ca cms) (hcn : ca = none → cms = []) (hp : PsAt w pa ps) (hpl : ps.length ≤ 1048576) (hsum : cms.length + (ps.map (·.ms.length)).sum ≤ 1048576) :
    Calls Try.prog 25 #[.slice ca cms.length cc, .slice pa ps.length pc] w fun e w' => ∃ v, e = .returned v ∧ Own w.heap.size 37 w' v (addrs cms (ps.map (·.ms))) ∧ w.grownBy w' none := by
  have HC : Hid (MsAt w ca cms ∧ (ca = none → cms = [])) := ⟨hc, hcn⟩
  have HP : Hid (PsAt w pa ps) := hp
  have HS : Hid (cms.length + (ps.map (·.ms.length)).sum ≤ 1048576) := hsum
  have hpl2 : (ps.length : Int) ≤ 1048576 := by omega
  clear hc hcn hp hsum hpl
  go_enter Try.func25, Try.ntmps25
  go_wp2_with fail
  refine (cloneMembers_c ca cc cms w (by have := HS.out; omega) HC.out.1 HC.out.2).mono ?_
  rintro e1 w1 ⟨v, rfl, hown, -, hg1⟩
  have O1 : Hid (Own w.heap.size 37 w1 v cms ∧ w.grownBy w1 none) := ⟨hown, hg1⟩
  clear hown hg1
  go_wp2_with fail
  go_loopg [5, 6] ps.length (fun gg vv i wr => ∃ k : Nat, k ≤ ps.length ∧ gg = ps.length - k ∧ i = .int .i64 k ∧ Own w.heap.size 37 wr vv (addrs cms ((ps.map (·.ms)).take k)) ∧ w.grownBy wr none)
  case atStart => exact ⟨0, Nat.zero_le _, rfl, rfl, O1.out.1, O1.out.2⟩
  case round =>
    obtain ⟨k, hk, hgg, rfl, hown, hgr⟩ := hrel
    obtain ⟨va, vc, rfl, -⟩ := hown.slice
    by_cases hlt : k < ps.length
    · obtain ⟨q, hq⟩ : ∃ q, ps[k]? = some q := ⟨ps[k], List.getElem?_eq_getElem hlt⟩
      have MD : Hid (ps[k]? = some q ∧ Own w.heap.size 37 wr (.slice va (addrs cms ((ps.map (·.ms)).take k)).length vc) (addrs cms ((ps.map (·.ms)).take k)) ∧ w.grownBy wr none ∧ gk = ps.length - k) := ⟨hq, hown, hgr, hgg⟩
      have HB : Hid ((addrs cms ((ps.map (·.ms)).take k)).length + q.ms.length ≤ 1048576) := by
        have h1 := addrs_length ((ps.map (·.ms)).take k) cms
        have h2 := HS.out
        have h3 : (((ps.map (·.ms)).take k).map List.length).sum + q.ms.length ≤ (ps.map (·.ms.length)).sum := sum_take ps k q hq
        exact Nat.le_trans (Nat.add_le_add_right h1 _) (by omega)
      have hqm : (q.ms.length : Int) ≤ 1048576 := by have := HB.out; omega
      have hqw : PsAt w pa ps → ∃ b off, pa = some ⟨b, off, none⟩ ∧ w.cell? ⟨b, off + k, none⟩ = some (.slice q.a q.ms.length q.cap) := fun h => (h k q hq).1
      obtain ⟨b, off, ea, c0w⟩ := hqw HP.out
      cases ea
      have CW : Hid (w.cell? ⟨b, off + k, none⟩ = some (.slice q.a q.ms.length q.cap)) := c0w
      clear hown hgr hgg hq hqw c0w
      obtain ⟨al, hal⟩ : ∃ al, addrs cms ((ps.map (·.ms)).take k) = al := ⟨_, rfl⟩
      have HA : Hid (addrs cms ((ps.map (·.ms)).take k) = al) := hal
      rw [hal] at MD HB ⊢
      clear hal
      go_wp2_with fail
      go_loopg [5, 7] q.ms.length (fun gg vv i wi => ∃ j : Nat, j ≤ q.ms.length ∧ gg = q.ms.length - j ∧ i = .int .i64 j ∧ Own w.heap.size 37 wi vv (addAll al (q.ms.take j)) ∧ w.grownBy wi none)
      case atStart => exact ⟨0, Nat.zero_le _, rfl, rfl, MD.out.2.1, MD.out.2.2.1⟩
      case round =>
        obtain ⟨j, hj, hjg, rfl, hown, hgr⟩ := hrel
        obtain ⟨xa, xc, rfl, hxs⟩ := hown.slice
        have c0 : wr.cell? ⟨b, off + k, none⟩ = some (.slice q.a q.ms.length q.cap) := hgr.cell CW.out (by simp)
        by_cases hjl : j < q.ms.length
        · obtain ⟨m, hm⟩ : ∃ m, q.ms[j]? = some m := ⟨q.ms[j], List.getElem?_eq_getElem hjl⟩
          have IN : Hid (q.ms[j]? = some m ∧ Own w.heap.size 37 wr (.slice xa (addAll al (q.ms.take j)).length xc) (addAll al (q.ms.take j)) ∧ w.grownBy wr none ∧ gk = q.ms.length - j) := ⟨hm, hown, hgr, hjg⟩
          have HF : Hid (isFirst cms ps k q.ms j m.1 = !(look (addAll al (q.ms.take j)) m.1).isSome) := by
            rw [isFirst_eq, HA.out]
            trivial
          obtain ⟨all, hall⟩ : ∃ all, addAll al (q.ms.take j) = all := ⟨_, rfl⟩
          have HALL : Hid (addAll al (q.ms.take j) = all ∧ all.length ≤ 1048576) := ⟨hall, by
            have h1 := addAll_length (q.ms.take j) al
            have h2 := HB.out
            have h3 : (q.ms.take j).length ≤ q.ms.length := by simp; omega
            rw [hall] at h1
            omega⟩
          rw [hall] at IN HF hown hxs ⊢
          have hal2 : (all.length : Int) ≤ 1048576 := by have := HALL.out.2; omega
          clear hm hown hgr hjg hall hxs
          go_wp2_with fail
          refine (firstOfID_c ca cc cms (some ⟨b, off, none⟩) pc ps k j q m wr (HC.out.1.kept IN.out.2.2.1) (by have := HS.out; omega) (HP.out.kept IN.out.2.2.1) (by omega) MD.out.1 IN.out.1).mono ?_
          rintro e2 w3 ⟨rfl, rfl⟩
          rw [HF.out]
          cases hlk : look all m.1 with
          | some s0 =>
            have HE : Hid (addAll al (q.ms.take (j + 1)) = all) := by
              rw [addAll_take IN.out.1, HALL.out.1]
              unfold addOne
              rw [hlk]
              rfl
            clear hlk
            go_wp2_with fail
            go_roundg (q.ms.length - (j + 1))
            case measure => have := IN.out.2.2.2; omega
            case rel => exact ⟨j + 1, by omega, rfl, by go_num, by rw [HE.out]; exact IN.out.2.1, IN.out.2.2.1⟩
          | none =>
            have HE : Hid (addAll al (q.ms.take (j + 1)) = all ++ [m]) := by
              rw [addAll_take IN.out.1, HALL.out.1]
              unfold addOne
              rw [hlk]
              rfl
            have hws : Hid (w.heap.size ≤ w3.heap.size) := IN.out.2.2.1.size
            clear hlk
            obtain ⟨i0, hi, hz, hsz, hby⟩ := info37
            have HI : Hid (Try.prog.info? 37 = some i0 ∧ i0.zero = some (.agg #[.int .i64 0, .string ⟨#[]⟩]) ∧ i0.size = 2 ∧ i0.bytes = 24) := ⟨hi, hz, hsz, hby⟩
            clear hi hz hsz hby
            obtain ⟨b', off', ea', d0, d1⟩ := ((HP.out k q MD.out.1).2.1 j m IN.out.1).kept IN.out.2.2.1
            have EA : Hid (q.a = some ⟨b', off', none⟩) := ea'
            rw [ea'] at c0
            clear ea'
            go_wp2_with (at_builtin; refine wpList_append_own _ rfl _ _ 22 rfl w.heap.size 37 i0 _ 2 24 Try.underlying22 HI.out.1 HI.out.2.1 HI.out.2.2.1 HI.out.2.2.2 rfl (by omega) _ _ _ rfl (World.ownsRow.alloc IN.out.2.1 _) ⟨w3.heap.size, 0, none⟩ 1 1 (flat [m]) rfl ?qc1 ?qc2 ?qc3 ?qc4 ?qc5 ?qc6 ?_)
            case qc1 => rfl
            case qc2 =>
              intro jj u hjj
              rw [Addr.add_lit, Nat.zero_add, World.cell?_alloc_at _ _ _ _ rfl, ← hjj]
              simp [flat]
            case qc3 => exact flat_one [m]
            case qc4 => have : maxLen = 9223372036854775807 := rfl; omega
            case qc5 => omega
            case qc6 => have := hws.out; simp; omega
            intro v' w5 hown hgrow hnil
            have L5 : Hid (Own w.heap.size 37 w5 v' (all ++ [m]) ∧ w.grownBy w5 none) := by
              refine ⟨?_, grown_row (grown_alloc IN.out.2.2.1 _) hgrow (fun j hj => (World.ownsRow.lt IN.out.2.1 j hj).1)⟩
              unfold Own
              rw [List.length_append, flat_append]
              exact hown
            obtain ⟨va', vc', rfl, -⟩ := L5.out.1.slice
            clear hown hgrow hnil
            go_wp2_with fail
            go_roundg (q.ms.length - (j + 1))
            case measure => have := IN.out.2.2.2; omega
            case rel => exact ⟨j + 1, by omega, rfl, by go_num, by rw [HE.out]; exact L5.out.1, L5.out.2⟩
        · have hjl2 : j = q.ms.length := by omega
          have IX : Hid (Own w.heap.size 37 wr (.slice xa (addAll al (q.ms.take j)).length xc) (addrs cms ((ps.map (·.ms)).take (k + 1))) ∧ w.grownBy wr none) := by
            refine ⟨?_, hgr⟩
            have e : addrs cms ((ps.map (·.ms)).take (k + 1)) = addAll al (q.ms.take j) := by
              rw [addrs_take (ms := q.ms) (by rw [List.getElem?_map, MD.out.1]; rfl), HA.out, hjl2, List.take_length]
            rw [e]
            exact hown
          clear hown hgr hjg hxs
          go_wp2_with fail
          go_roundg (ps.length - (k + 1))
          case measure => have := MD.out.2.2.2; omega
          case rel => exact ⟨k + 1, by omega, rfl, by go_num, IX.out.1, IX.out.2⟩
    · have hkl : k = ps.length := by omega
      subst hkl
      have e : (ps.map (·.ms)).take ps.length = ps.map (·.ms) := List.take_of_length_le (by simp)
      rw [e] at hown ⊢
      have OX : Hid (Own w.heap.size 37 wr (.slice va (addrs cms (ps.map (·.ms))).length vc) (addrs cms (ps.map (·.ms))) ∧ w.grownBy wr none) := ⟨hown, hgr⟩
      clear hown hgr hgg e
      go_wp2
      go_ret
      exact ⟨_, rfl, OX.out.1, OX.out.2⟩
end Go.Proofs.Qxb6615757a
