/-
  The walk of zzFirstOfID.
-/
import Derived.Test.Qxb6615757aAddr
import Derived.Test.Qxb6615757aBytes
namespace Go.Proofs.Qxb6615757a
open Go.RowKit

/-- a member with this id is in the list -/
def has (ms : List Mem) (id : Int) : Bool := ms.any (fun m => decide (m.1 = id))
theorem has_append (a b : List Mem) (id : Int) : has (a ++ b) id = (has a id || has b id) := by simp [has]
theorem has_look (ms : List Mem) (id : Int) : (look ms id).isSome = has ms id := by
  unfold look findAt has
  cases h : ms.findIdx? (fun m => decide (m.1 = id)) with
  | none =>
    rw [List.findIdx?_eq_none_iff] at h
    simp only [Option.bind_none, Option.isSome_none]
    symm
    rw [List.any_eq_false]
    intro m hm
    simpa using h m hm
  | some k =>
    rw [List.findIdx?_eq_some_iff_getElem] at h
    obtain ⟨hk, h1, _⟩ := h
    simp only [Option.bind_some, List.getElem?_eq_getElem hk, Option.map_some, Option.isSome_some]
    symm
    rw [List.any_eq_true]
    exact ⟨_, List.getElem_mem hk, h1⟩
theorem has_addOne (all : List Mem) (m : Mem) (id : Int) : has (addOne all m) id = (has all id || decide (m.1 = id)) := by
  unfold addOne
  rw [has_look]
  split
  · rename_i h
    by_cases e : m.1 = id
    · rw [e] at h; rw [h]; simp
    · simp [e]
  · rw [has_append]; simp [has]
theorem has_addAll (ms all : List Mem) (id : Int) : has (addAll all ms) id = (has all id || has ms id) := by
  induction ms generalizing all with
  | nil => simp [addAll, has]
  | cons m ms ih =>
    show has (addAll (addOne all m) ms) id = _
    rw [ih, has_addOne]
    simp [has, Bool.or_assoc]
theorem has_addrs (ps : List (List Mem)) (cfg : List Mem) (id : Int) : has (addrs cfg ps) id = (has cfg id || ps.any (fun p => has p id)) := by
  induction ps generalizing cfg with
  | nil => simp [addrs]
  | cons p ps ih =>
    show has (addrs (addAll cfg p) ps) id = _
    rw [ih, has_addAll]
    simp [Bool.or_assoc]
theorem has_take {ms : List Mem} {k : Nat} {m : Mem} (h : ms[k]? = some m) (id : Int) : has (ms.take (k + 1)) id = (has (ms.take k) id || decide (m.1 = id)) := by
  rw [List.take_add_one, h, has_append]
  simp [has]
theorem any_take {ps : List Sl} {k : Nat} {s : Sl} (h : ps[k]? = some s) (id : Int) : ((ps.take (k + 1)).any (fun p => has p.ms id)) = ((ps.take k).any (fun p => has p.ms id) || has s.ms id) := by
  rw [List.take_add_one, h, List.any_append]
  simp
theorem has_of_mem {ms : List Mem} {k : Nat} {m : Mem} {id : Int} (h : ms[k]? = some m) (e : m.1 = id) : has ms id = true := by
  unfold has
  rw [List.any_eq_true]
  exact ⟨m, List.mem_of_getElem? h, by simpa using e⟩
theorem any_of_mem {ps : List Sl} {n k : Nat} {s : Sl} {id : Int} (h : ps[k]? = some s) (hk : k < n) (e : has s.ms id = true) : (ps.take n).any (fun p => has p.ms id) = true := by
  rw [List.any_eq_true]
  refine ⟨s, ?_, e⟩
  have : (ps.take n)[k]? = some s := by rw [List.getElem?_take, if_pos hk]; exact h
  exact List.mem_of_getElem? this

/-- whether pending[i][j] is the first of its id -/
def isFirst (cms : List Mem) (ps : List Sl) (i : Nat) (ms : List Mem) (j : Nat) (id : Int) : Bool := !(has cms id || (ps.take i).any (fun p => has p.ms id) || has (ms.take j) id)

set_option maxRecDepth 100000 in
set_option maxHeartbeats 2000000 in
theorem firstOfID_c (ca : Option Addr) (cc : Nat) (cms : List Mem) (pa : Option Addr) (pc : Nat) (ps : List Sl) (i j : Nat) (s : Sl) (m : Mem) (w : World) (hc : MsAt w ca cms) (hcl : cms.length ≤ 1048576) (hp : PsAt w pa ps) (hpl : ps.length ≤ 1048576) (hs : ps[i]? = some s) (hm : s.ms[j]? = some m) :
    Calls Try.prog 34 #[.slice ca cms.length cc, .slice pa ps.length pc, .int .i64 i, .int .i64 j] w fun e w' => e = .returned (.bool (isFirst cms ps i s.ms j m.1)) ∧ w' = w := by
  have HC : Hid (MsAt w ca cms) := hc
  have HP : Hid (PsAt w pa ps) := hp
  have HS : Hid (ps[i]? = some s ∧ s.ms[j]? = some m) := ⟨hs, hm⟩
  have hcl2 : (cms.length : Int) ≤ 1048576 := by omega
  have hpl2 : (ps.length : Int) ≤ 1048576 := by omega
  have hil : i < ps.length := (List.getElem?_eq_some_iff.1 hs).1
  have hjl : j < s.ms.length := (List.getElem?_eq_some_iff.1 hm).1
  have hsl : (s.ms.length : Int) ≤ 1048576 := by have := (hp i s hs).2.2.2; omega
  obtain ⟨b, off, ea, c0v⟩ := (hp i s hs).1
  have c0 : w.cell? ⟨b, off + i, none⟩ = some (.slice s.a s.ms.length s.cap) := c0v
  obtain ⟨b', off', ea', d0, d1⟩ := (hp i s hs).2.1 j m hm
  rw [ea'] at c0
  subst ea
  clear hc hp hcl hpl hs hm c0v d1 ea'
  go_enter Try.func34, Try.ntmps34
  go_wp2_with fail
  clear c0 d0
  go_loopg [10] cms.length (fun gg x wr => ∃ (k : Nat), k ≤ cms.length ∧ gg = cms.length - k ∧ x = .int .i64 k ∧ has (cms.take k) m.1 = false ∧ wr = w)
  case atStart => exact ⟨0, Nat.zero_le _, rfl, rfl, by simp [has], rfl⟩
  case round =>
    obtain ⟨k, hk, hgg, rfl, hno, hwr⟩ := hrel
    subst hwr
    have MD : Hid (has (cms.take k) m.1 = false ∧ gk = cms.length - k) := ⟨hno, hgg⟩
    clear hno hgg
    by_cases hlt : k < cms.length
    · obtain ⟨x, hx⟩ : ∃ x, cms[k]? = some x := ⟨cms[k], List.getElem?_eq_getElem hlt⟩
      have HX : Hid (cms[k]? = some x) := hx
      obtain ⟨bc, offc, ea, c0, c1⟩ := HC.out k x hx
      subst ea
      clear hx c1
      by_cases he : x.1 = m.1
      · have HR : Hid (isFirst cms ps i s.ms j m.1 = false) := by
          unfold isFirst
          rw [has_of_mem HX.out he]
          rfl
        have he1 : (x.1 == m.1) = true := by simpa using he
        clear he
        go_wp2
        go_ret
        exact ⟨by rw [HR.out]; rfl, rfl⟩
      · have HN : Hid (¬ x.1 = m.1) := he
        have he1 : (x.1 == m.1) = false := by simpa using he
        clear he
        go_wp2_with fail
        go_roundg (cms.length - (k + 1))
        case measure => have := MD.out.2; omega
        case rel => exact ⟨k + 1, by omega, rfl, by go_num, by rw [has_take HX.out, MD.out.1]; simpa using HN.out, rfl⟩
    · have HN : Hid (has cms m.1 = false) := by have h := MD.out.1; rw [List.take_of_length_le (by omega)] at h; exact h
      go_wp2_with fail
      go_loopg [11] (i + 1) (fun gg x wx => ∃ (q : Nat), q ≤ i + 1 ∧ gg = i + 1 - q ∧ x = .int .i64 q ∧ (q ≤ i → (ps.take q).any (fun p => has p.ms m.1) = false) ∧ (q = i + 1 → isFirst cms ps i s.ms j m.1 = true) ∧ wx = wr)
      case atStart => exact ⟨0, Nat.zero_le _, rfl, rfl, by simp, fun e => by omega, rfl⟩
      case round =>
        obtain ⟨q, hq, hgg, rfl, hno, hyes, hwr⟩ := hrel
        subst hwr
        have MD2 : Hid ((q ≤ i → (ps.take q).any (fun p => has p.ms m.1) = false) ∧ (q = i + 1 → isFirst cms ps i s.ms j m.1 = true) ∧ gk = i + 1 - q) := ⟨hno, hyes, hgg⟩
        clear hno hgg hyes
        by_cases hlt2 : q ≤ i
        · obtain ⟨s', hs'⟩ : ∃ s', ps[q]? = some s' := ⟨ps[q], List.getElem?_eq_getElem (by omega)⟩
          have HS' : Hid (ps[q]? = some s' ∧ s'.Ok wr) := ⟨hs', (HP.out q s' hs').2⟩
          obtain ⟨b2, off2, ea, c0v⟩ := (HP.out q s' hs').1
          have c0 : wr.cell? ⟨b2, off2 + q, none⟩ = some (.slice s'.a s'.ms.length s'.cap) := c0v
          have hsl' : (s'.ms.length : Int) ≤ 1048576 := by have := HS'.out.2.2.2; omega
          cases ea
          clear hs' c0v
          by_cases hqi : q = i
          · subst hqi
            have HSS : Hid (s' = s) := by
              have h1 := HS.out.1
              have h2 := HS'.out.1
              rw [h1] at h2
              exact (Option.some.inj h2).symm
            have hjl' : j < s'.ms.length := by rw [HSS.out]; exact hjl
            go_wp2_with fail
            go_loopg [13] j (fun gg x wx => ∃ (z : Nat), z ≤ j ∧ gg = j - z ∧ x = .int .i64 z ∧ has (s'.ms.take z) m.1 = false ∧ wx = wr)
            case atStart => exact ⟨0, Nat.zero_le _, rfl, rfl, by simp [has], rfl⟩
            case round =>
              obtain ⟨z, hz, hgg, rfl, hno, hwr⟩ := hrel
              subst hwr
              have MD3 : Hid (has (s'.ms.take z) m.1 = false ∧ gk = j - z) := ⟨hno, hgg⟩
              clear hno hgg
              by_cases hlt3 : z < j
              · have hzl : z < s'.ms.length := by omega
                obtain ⟨x, hx⟩ : ∃ x, s'.ms[z]? = some x := ⟨s'.ms[z], List.getElem?_eq_getElem hzl⟩
                have HX : Hid (s'.ms[z]? = some x) := hx
                obtain ⟨b3, off3, ea3, d0, d1⟩ := HS'.out.2.1 z x hx
                rw [ea3] at c0
                clear hx d1 ea3
                by_cases he : x.1 = m.1
                · have HR : Hid (isFirst cms ps q s.ms j m.1 = false) := by
                    unfold isFirst
                    have h1 : has (s.ms.take j) m.1 = true := by
                      rw [← HSS.out]
                      refine has_of_mem (k := z) (m := x) ?_ he
                      rw [List.getElem?_take, if_pos hlt3]
                      exact HX.out
                    rw [h1]
                    show (!(_ || _)) = false
                    simp
                  have he1 : (x.1 == m.1) = true := by simpa using he
                  clear he
                  go_wp2
                  go_ret
                  exact ⟨by rw [HR.out]; rfl, rfl⟩
                · have HNX : Hid (¬ x.1 = m.1) := he
                  have he1 : (x.1 == m.1) = false := by simpa using he
                  clear he
                  go_wp2_with fail
                  go_roundg (j - (z + 1))
                  case measure => have := MD3.out.2; omega
                  case rel => exact ⟨z + 1, by omega, rfl, by go_num, by rw [has_take HX.out, MD3.out.1]; simpa using HNX.out, rfl⟩
              · go_wp2_with fail
                go_roundg (q + 1 - (q + 1))
                case measure => have := MD2.out.2.2; omega
                case rel =>
                  refine ⟨q + 1, by omega, rfl, by go_num, fun e => by omega, fun _ => ?_, rfl⟩
                  have hzj : z = j := by omega
                  unfold isFirst
                  rw [HN.out, MD2.out.1 (Nat.le_refl _), ← HSS.out, ← hzj, MD3.out.1]
                  rfl
          · have hqe : ((q : Int) == (i : Int)) = false := beq_eq_false_iff_ne.2 (by omega)
            have hqe2 : (q == i) = false := beq_eq_false_iff_ne.2 hqi
            go_wp2_with fail
            go_loopg [13] s'.ms.length (fun gg x wx => ∃ (z : Nat), z ≤ s'.ms.length ∧ gg = s'.ms.length - z ∧ x = .int .i64 z ∧ has (s'.ms.take z) m.1 = false ∧ wx = wr)
            case atStart => exact ⟨0, Nat.zero_le _, rfl, rfl, by simp [has], rfl⟩
            case round =>
              obtain ⟨z, hz, hgg, rfl, hno, hwr⟩ := hrel
              subst hwr
              have MD3 : Hid (has (s'.ms.take z) m.1 = false ∧ gk = s'.ms.length - z) := ⟨hno, hgg⟩
              clear hno hgg
              by_cases hlt3 : z < s'.ms.length
              · have hzl : z < s'.ms.length := by omega
                obtain ⟨x, hx⟩ : ∃ x, s'.ms[z]? = some x := ⟨s'.ms[z], List.getElem?_eq_getElem hzl⟩
                have HX : Hid (s'.ms[z]? = some x) := hx
                obtain ⟨b3, off3, ea3, d0, d1⟩ := HS'.out.2.1 z x hx
                rw [ea3] at c0
                clear hx d1 ea3
                by_cases he : x.1 = m.1
                · have HR : Hid (isFirst cms ps i s.ms j m.1 = false) := by
                    unfold isFirst
                    rw [any_of_mem (n := i) HS'.out.1 (by omega) (has_of_mem HX.out he)]
                    show (!(_ || _)) = false
                    simp
                  have he1 : (x.1 == m.1) = true := by simpa using he
                  clear he
                  go_wp2
                  go_ret
                  exact ⟨by rw [HR.out]; rfl, rfl⟩
                · have HNX : Hid (¬ x.1 = m.1) := he
                  have he1 : (x.1 == m.1) = false := by simpa using he
                  clear he
                  go_wp2_with fail
                  go_roundg (s'.ms.length - (z + 1))
                  case measure => have := MD3.out.2; omega
                  case rel => exact ⟨z + 1, by omega, rfl, by go_num, by rw [has_take HX.out, MD3.out.1]; simpa using HNX.out, rfl⟩
              · go_wp2_with fail
                go_roundg (i + 1 - (q + 1))
                case measure => have := MD2.out.2.2; omega
                case rel =>
                  refine ⟨q + 1, by omega, rfl, by go_num, fun e => ?_, fun e => by omega, rfl⟩
                  have h := MD3.out.1
                  rw [List.take_of_length_le (by omega)] at h
                  rw [any_take HS'.out.1, MD2.out.1 (by omega), h]
                  rfl
        · have HR : Hid (isFirst cms ps i s.ms j m.1 = true) := MD2.out.2.1 (by omega)
          go_wp2
          go_ret
          exact ⟨by rw [HR.out]; rfl, rfl⟩
end Go.Proofs.Qxb6615757a
