/-
  LOOKUPS: the plain law, and the walks of zzFirstAddr and zzLookupAgrees.
-/
import Derived.Test.Qxb6615757aFirst
namespace Go.Proofs.Qxb6615757a
open Go.RowKit

def lk (ms : List Mem) (id : Int) : Option ByteArray := (ms.find? (fun m => decide (m.1 = id))).map (·.2)
theorem lk_append (a b : List Mem) (id : Int) : lk (a ++ b) id = (lk a id).or (lk b id) := by
  unfold lk
  rw [List.find?_append]
  cases a.find? (fun m => decide (m.1 = id)) <;> simp
theorem lk_one (m : Mem) (id : Int) : lk [m] id = if m.1 = id then some m.2 else none := by
  unfold lk
  by_cases h : m.1 = id <;> simp [h]
theorem look_lk (ms : List Mem) (id : Int) : look ms id = lk ms id := by
  unfold look findAt lk
  induction ms with
  | nil => rfl
  | cons m ms ih =>
    by_cases h : m.1 = id
    · simp [List.findIdx?_cons, h]
    · simp only [List.findIdx?_cons, h, decide_false, Bool.false_eq_true, if_false, List.find?_cons]
      rw [← ih]
      cases ms.findIdx? (fun m => decide (m.1 = id)) <;> simp
theorem lk_has (ms : List Mem) (id : Int) : (lk ms id).isSome = has ms id := by rw [← look_lk, has_look]
theorem lk_addOne (all : List Mem) (m : Mem) (id : Int) : lk (addOne all m) id = (lk all id).or (lk [m] id) := by
  unfold addOne
  rw [look_lk]
  split
  · rename_i h
    rw [lk_one]
    split
    · rename_i e
      rw [e] at h
      cases hl : lk all id with
      | none => rw [hl] at h; cases h
      | some x => rfl
    · simp
  · exact lk_append _ _ _
theorem lk_addAll (ms all : List Mem) (id : Int) : lk (addAll all ms) id = (lk all id).or (lk ms id) := by
  induction ms generalizing all with
  | nil => simp [addAll, lk]
  | cons m ms ih =>
    show lk (addAll (addOne all m) ms) id = _
    rw [ih, lk_addOne, show m :: ms = [m] ++ ms from rfl, lk_append, Option.or_assoc]
theorem lk_addrs (ps : List Sl) (cfg : List Mem) (id : Int) : lk (addrs cfg (ps.map (·.ms))) id = (lk cfg id).or (lk (ps.flatMap (·.ms)) id) := by
  induction ps generalizing cfg with
  | nil => simp [addrs, lk]
  | cons p ps ih =>
    show lk (addrs (addAll cfg p.ms) (ps.map (·.ms))) id = _
    rw [ih, lk_addAll, List.flatMap_cons, lk_append, Option.or_assoc]
theorem lk_step {ms : List Mem} {k : Nat} {m : Mem} {id : Int} (h : lk (ms.take k) id = none) (hm : ms[k]? = some m) (he : ¬ m.1 = id) : lk (ms.take (k + 1)) id = none := by
  rw [List.take_add_one, hm, lk_append, h]
  show lk [m] id = none
  rw [lk_one, if_neg he]
theorem lk_hit {ms : List Mem} {k : Nat} {m : Mem} {id : Int} (h : lk (ms.take k) id = none) (hm : ms[k]? = some m) (he : m.1 = id) : lk ms id = some m.2 := by
  obtain ⟨hlt, e⟩ := List.getElem?_eq_some_iff.1 hm
  have : ms = ms.take k ++ ([m] ++ ms.drop (k + 1)) := by
    rw [← e]
    simp
  rw [this, lk_append, h, lk_append, lk_one, if_pos he]
  rfl
theorem lkP_step {ps : List Sl} {k : Nat} {s : Sl} {id : Int} (h : lk ((ps.take k).flatMap (·.ms)) id = none) (hs : ps[k]? = some s) (hm : lk s.ms id = none) : lk ((ps.take (k + 1)).flatMap (·.ms)) id = none := by
  rw [List.take_add_one, hs, List.flatMap_append, lk_append, h]
  simpa using hm
theorem lkP_hit {ps : List Sl} {k : Nat} {s : Sl} {id : Int} {v : ByteArray} (h : lk ((ps.take k).flatMap (·.ms)) id = none) (hs : ps[k]? = some s) (hm : lk s.ms id = some v) : lk (ps.flatMap (·.ms)) id = some v := by
  obtain ⟨hlt, e⟩ := List.getElem?_eq_some_iff.1 hs
  have h2 : ps = ps.take k ++ ([s] ++ ps.drop (k + 1)) := by
    rw [← e]
    simp
  rw [h2, List.flatMap_append, List.flatMap_append, lk_append, h, lk_append]
  have h3 : lk ([s].flatMap (·.ms)) id = some v := by simpa using hm
  rw [h3]
  rfl
/-- the first address of the id in the configuration followed by the pending ones -/
def firstA (cms : List Mem) (ps : List Sl) (id : Int) : Option ByteArray := (lk cms id).or (lk (ps.flatMap (·.ms)) id)

set_option maxRecDepth 100000 in
set_option maxHeartbeats 2000000 in
theorem firstAddr_c (ca : Option Addr) (cc : Nat) (cms : List Mem) (pa : Option Addr) (pc : Nat) (ps : List Sl) (id : Int) (w : World) (hc : MsAt w ca cms) (hcl : cms.length ≤ 1048576) (hp : PsAt w pa ps) (hpl : ps.length ≤ 1048576) :
    Calls Try.prog 36 #[.slice ca cms.length cc, .slice pa ps.length pc, .int .i64 id] w fun e w' => e = .returned (adr (firstA cms ps id)) ∧ w' = w := by
  have HC : Hid (MsAt w ca cms) := hc
  have HP : Hid (PsAt w pa ps) := hp
  have hcl2 : (cms.length : Int) ≤ 1048576 := by omega
  have hpl2 : (ps.length : Int) ≤ 1048576 := by omega
  clear hc hp hcl hpl
  go_enter Try.func36, Try.ntmps36
  go_wp2_with fail
  go_loopg [8] cms.length (fun gg x wr => ∃ (k : Nat), k ≤ cms.length ∧ gg = cms.length - k ∧ x = .int .i64 k ∧ lk (cms.take k) id = none ∧ wr = w)
  case atStart => exact ⟨0, Nat.zero_le _, rfl, rfl, by simp [lk], rfl⟩
  case round =>
    obtain ⟨k, hk, hgg, rfl, hno, hwr⟩ := hrel
    subst hwr
    have MD : Hid (lk (cms.take k) id = none ∧ gk = cms.length - k) := ⟨hno, hgg⟩
    clear hno hgg
    by_cases hlt : k < cms.length
    · obtain ⟨x, hx⟩ : ∃ x, cms[k]? = some x := ⟨cms[k], List.getElem?_eq_getElem hlt⟩
      have HX : Hid (cms[k]? = some x) := hx
      obtain ⟨bc, offc, ea, c0, c1⟩ := HC.out k x hx
      subst ea
      clear hx
      by_cases he : x.1 = id
      · have HR : Hid (firstA cms ps id = some x.2) := by
          unfold firstA
          rw [lk_hit MD.out.1 HX.out he]
          rfl
        have he1 : (x.1 == id) = true := by simpa using he
        clear he
        go_wp2
        go_ret2
        exact ⟨by rw [HR.out]; rfl, rfl⟩
      · have HN : Hid (¬ x.1 = id) := he
        have he1 : (x.1 == id) = false := by simpa using he
        clear he
        go_wp2_with fail
        go_roundg (cms.length - (k + 1))
        case measure => have := MD.out.2; omega
        case rel => exact ⟨k + 1, by omega, rfl, by go_num, lk_step MD.out.1 HX.out HN.out, rfl⟩
    · have HN : Hid (lk cms id = none) := by have h := MD.out.1; rw [List.take_of_length_le (by omega)] at h; exact h
      go_wp2_with fail
      go_loopg [9] ps.length (fun gg x wx => ∃ (q : Nat), q ≤ ps.length ∧ gg = ps.length - q ∧ x = .int .i64 q ∧ lk ((ps.take q).flatMap (·.ms)) id = none ∧ wx = wr)
      case atStart => exact ⟨0, Nat.zero_le _, rfl, rfl, by simp [lk], rfl⟩
      case round =>
        obtain ⟨q, hq, hgg, rfl, hno, hwr⟩ := hrel
        subst hwr
        have MD2 : Hid (lk ((ps.take q).flatMap (·.ms)) id = none ∧ gk = ps.length - q) := ⟨hno, hgg⟩
        clear hno hgg
        by_cases hlt2 : q < ps.length
        · obtain ⟨s, hs⟩ : ∃ s, ps[q]? = some s := ⟨ps[q], List.getElem?_eq_getElem hlt2⟩
          have HS : Hid (ps[q]? = some s ∧ s.Ok wr) := ⟨hs, (HP.out q s hs).2⟩
          obtain ⟨b, off, ea, c0v⟩ := (HP.out q s hs).1
          have c0 : wr.cell? ⟨b, off + q, none⟩ = some (.slice s.a s.ms.length s.cap) := c0v
          have hsl : (s.ms.length : Int) ≤ 1048576 := by have := HS.out.2.2.2; omega
          cases ea
          clear hs c0v
          go_wp2_with fail
          go_loopg [10] s.ms.length (fun gg x wx => ∃ (z : Nat), z ≤ s.ms.length ∧ gg = s.ms.length - z ∧ x = .int .i64 z ∧ lk (s.ms.take z) id = none ∧ wx = wr)
          case atStart => exact ⟨0, Nat.zero_le _, rfl, rfl, by simp [lk], rfl⟩
          case round =>
            obtain ⟨z, hz, hgg, rfl, hno, hwr⟩ := hrel
            subst hwr
            have MD3 : Hid (lk (s.ms.take z) id = none ∧ gk = s.ms.length - z) := ⟨hno, hgg⟩
            clear hno hgg
            by_cases hlt3 : z < s.ms.length
            · obtain ⟨x, hx⟩ : ∃ x, s.ms[z]? = some x := ⟨s.ms[z], List.getElem?_eq_getElem hlt3⟩
              have HX : Hid (s.ms[z]? = some x) := hx
              obtain ⟨b3, off3, ea3, d0, d1⟩ := HS.out.2.1 z x hx
              rw [ea3] at c0
              clear hx ea3
              by_cases he : x.1 = id
              · have HR : Hid (firstA cms ps id = some x.2) := by
                  unfold firstA
                  rw [HN.out, lkP_hit MD2.out.1 HS.out.1 (lk_hit MD3.out.1 HX.out he)]
                  rfl
                have he1 : (x.1 == id) = true := by simpa using he
                clear he
                go_wp2
                go_ret2
                exact ⟨by rw [HR.out]; rfl, rfl⟩
              · have HNX : Hid (¬ x.1 = id) := he
                have he1 : (x.1 == id) = false := by simpa using he
                clear he
                go_wp2_with fail
                go_roundg (s.ms.length - (z + 1))
                case measure => have := MD3.out.2; omega
                case rel => exact ⟨z + 1, by omega, rfl, by go_num, lk_step MD3.out.1 HX.out HNX.out, rfl⟩
            · go_wp2_with fail
              go_roundg (ps.length - (q + 1))
              case measure => have := MD2.out.2; omega
              case rel =>
                refine ⟨q + 1, by omega, rfl, by go_num, lkP_step MD2.out.1 HS.out.1 ?_, rfl⟩
                have h := MD3.out.1
                rw [List.take_of_length_le (by omega)] at h
                exact h
        · have HR : Hid (firstA cms ps id = none) := by
            have h := MD2.out.1
            rw [List.take_of_length_le (by omega)] at h
            unfold firstA
            rw [HN.out, h]
            rfl
          go_wp2
          go_ret2
          exact ⟨by rw [HR.out]; rfl, rfl⟩

set_option maxRecDepth 100000 in
set_option maxHeartbeats 2000000 in
theorem lookupAgrees_c (xa : Option Addr) (xc : Nat) (al : List Mem) (ca : Option Addr) (cc : Nat) (cms : List Mem) (pa : Option Addr) (pc : Nat) (ps : List Sl) (id : Int) (w : World) (hx : MsAt w xa al) (hxl : al.length ≤ 1048576) (hc : MsAt w ca cms) (hcl : cms.length ≤ 1048576) (hp : PsAt w pa ps) (hpl : ps.length ≤ 1048576)
    (he : look al id = firstA cms ps id) :
    Calls Try.prog 27 #[.slice xa al.length xc, .slice ca cms.length cc, .slice pa ps.length pc, .int .i64 id] w fun e w' => e = .returned (.bool true) ∧ w.grownBy w' none := by
  have HX : Hid (MsAt w xa al ∧ al.length ≤ 1048576) := ⟨hx, hxl⟩
  have HC : Hid (MsAt w ca cms ∧ cms.length ≤ 1048576) := ⟨hc, hcl⟩
  have HP : Hid (PsAt w pa ps ∧ ps.length ≤ 1048576) := ⟨hp, hpl⟩
  have HE : Hid (look al id = firstA cms ps id) := he
  clear hx hxl hc hcl hp hpl he
  go_enter Try.func27, Try.ntmps27
  go_wp2_with fail
  refine (addr_c xa xc al id w (by have := HX.out.2; have : maxLen = 9223372036854775807 := rfl; omega) HX.out.1).mono ?_
  rintro e1 w1 ⟨rfl, hg1⟩
  have G1 : Hid (w.grownBy w1 none) := hg1
  clear hg1
  rw [HE.out]
  have HT : Hid (Calls Try.prog 36 #[.slice ca cms.length cc, .slice pa ps.length pc, .int .i64 id] w1 fun e w' => e = .returned (adr (firstA cms ps id)) ∧ w' = w1) := firstAddr_c ca cc cms pa pc ps id w1 (HC.out.1.kept G1.out) HC.out.2 (HP.out.1.kept G1.out) HP.out.2
  cases hf : firstA cms ps id with
  | none =>
    rw [hf] at HT
    clear hf
    simp only [adr] at HT ⊢
    go_wp2_with fail
    refine Calls.mono HT.out ?_
    rintro e2 w2 ⟨rfl, rfl⟩
    go_wp2
    go_ret
    exact ⟨rfl, G1.out⟩
  | some v =>
    rw [hf] at HT
    clear hf
    simp only [adr] at HT ⊢
    go_wp2_with fail
    refine Calls.mono HT.out ?_
    rintro e2 w2 ⟨rfl, rfl⟩
    go_wp2
    go_ret
    exact ⟨rfl, G1.out⟩
end Go.Proofs.Qxb6615757a
