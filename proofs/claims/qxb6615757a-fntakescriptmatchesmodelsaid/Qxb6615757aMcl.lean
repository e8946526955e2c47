/-
  THE MODEL's CLIENTS in memory; the walks of zzFindClient and zzPrune.
-/
import Derived.Test.Qxb6615757aTakeC
namespace Go.Proofs.Qxb6615757a
open Go.RowKit

theorem str_eq2 (a b : ByteArray) : a.toList = b.toList ↔ a = b := by
  rw [ByteArray.toList_eq, ByteArray.toList_eq]
  exact ⟨fun e => ByteArray.ext (Array.toList_inj.1 e), fun e => by rw [e]⟩
theorem str_beq2 (a b : ByteArray) : (a.toList == b.toList) = decide (a = b) := by
  rw [Bool.eq_iff_iff]
  simp [str_eq2]
def cells5 (c : Cl) : List Value := [.string c.id, .int .u64 c.seq, .int .u64 c.fst, .int .i64 c.ent, .int .i64 c.tm]
def flatC : List Cl → List Value
  | [] => []
  | c :: cs => cells5 c ++ flatC cs
theorem flatC_length (cs : List Cl) : (flatC cs).length = cs.length * 5 := by
  induction cs with
  | nil => rfl
  | cons c cs ih => simp only [flatC, List.length_append, List.length_cons, ih]; simp [cells5]; omega
theorem flatC_append (a b : List Cl) : flatC (a ++ b) = flatC a ++ flatC b := by
  induction a with
  | nil => rfl
  | cons c a ih => simp only [List.cons_append, flatC, ih, List.append_assoc]
theorem flatC_get (cs : List Cl) (i : Nat) (c : Cl) (h : cs[i]? = some c) (j : Nat) (hj : j < 5) : (flatC cs)[i * 5 + j]? = (cells5 c)[j]? := by
  induction cs generalizing i with
  | nil => simp at h
  | cons x cs ih =>
    cases i with
    | zero =>
      simp at h
      subst h
      simp only [flatC, Nat.zero_mul, Nat.zero_add]
      exact List.getElem?_append_left (by simpa [cells5] using hj)
    | succ i =>
      simp only [List.getElem?_cons_succ] at h
      simp only [flatC]
      rw [List.getElem?_append_right (by simp [cells5]; omega), show (i + 1) * 5 + j - (cells5 x).length = i * 5 + j from by simp [cells5]; omega]
      exact ih i h
theorem flatC_set (cs : List Cl) (k : Nat) (c : Cl) (hk : k < cs.length) : flatC (cs.set k c) = (((((flatC cs).set (k * 5) (.string c.id)).set (k * 5 + 1) (.int .u64 c.seq)).set (k * 5 + 2) (.int .u64 c.fst)).set (k * 5 + 3) (.int .i64 c.ent)).set (k * 5 + 4) (.int .i64 c.tm) := by
  induction cs generalizing k with
  | nil => simp at hk
  | cons x cs ih =>
    cases k with
    | zero => rfl
    | succ k =>
      have hk' : k < cs.length := by simpa using hk
      rw [show (k + 1) * 5 + 4 = (k * 5 + 4) + 1 + 1 + 1 + 1 + 1 from by omega, show (k + 1) * 5 + 3 = (k * 5 + 3) + 1 + 1 + 1 + 1 + 1 from by omega, show (k + 1) * 5 + 2 = (k * 5 + 2) + 1 + 1 + 1 + 1 + 1 from by omega, show (k + 1) * 5 + 1 = (k * 5 + 1) + 1 + 1 + 1 + 1 + 1 from by omega, show (k + 1) * 5 = (k * 5) + 1 + 1 + 1 + 1 + 1 from by omega]
      simp only [List.set_cons_succ, flatC, cells5, List.cons_append, List.nil_append, ih k hk']
def ClAt (w : World) (a : Option Addr) (i : Nat) (c : Cl) : Prop :=
  ∃ b off, a = some ⟨b, off, none⟩ ∧ w.cell? ⟨b, off + i * 5, none⟩ = some (.string c.id) ∧ w.cell? ⟨b, off + i * 5 + 1, none⟩ = some (.int .u64 c.seq) ∧ w.cell? ⟨b, off + i * 5 + 2, none⟩ = some (.int .u64 c.fst) ∧ w.cell? ⟨b, off + i * 5 + 3, none⟩ = some (.int .i64 c.ent) ∧ w.cell? ⟨b, off + i * 5 + 4, none⟩ = some (.int .i64 c.tm)
def CsAt (w : World) (a : Option Addr) (cs : List Cl) : Prop := ∀ i c, cs[i]? = some c → ClAt w a i c
theorem CsAt.kept {w w' : World} {a : Option Addr} {cs : List Cl} (h : CsAt w a cs) (g : w.grownBy w' none) : CsAt w' a cs := fun i c hi => by
  obtain ⟨b, off, e, c0, c1, c2, c3, c4⟩ := h i c hi
  exact ⟨b, off, e, g.cell c0 (by simp), g.cell c1 (by simp), g.cell c2 (by simp), g.cell c3 (by simp), g.cell c4 (by simp)⟩
/-- A slice v of the model's clients, of the call's own -/
def OwnC (base : Nat) (w : World) (v : Value) (cs : List Cl) : Prop := w.ownsRow base 40 5 v cs.length (flatC cs)
theorem OwnC.slice {base : Nat} {w : World} {v : Value} {cs : List Cl} (h : OwnC base w v cs) : ∃ a cap, v = .slice a cs.length cap ∧ CsAt w a cs := by
  have h0 : w.ownsRow base 40 5 v cs.length (flatC cs) := h
  obtain ⟨_, ⟨rfl, hn⟩ | ⟨g, cap, cur, rfl, r⟩⟩ := h
  · have : cs = [] := List.eq_nil_of_length_eq_zero hn
    subst this
    exact ⟨none, 0, rfl, fun i m hi => by simp at hi⟩
  · refine ⟨some ⟨g, 0, none⟩, cap, rfl, fun i c hi => ?_⟩
    have hlt := (List.getElem?_eq_some_iff.1 hi).1
    have hf := flatC_get cs i c hi
    refine ⟨g, 0, rfl, ?_, ?_, ?_, ?_, ?_⟩
    · rw [Nat.zero_add, h0.cellAt _ (by omega)]; exact hf 0 (by omega)
    · rw [Nat.zero_add, h0.cellAt _ (by omega)]; exact hf 1 (by omega)
    · rw [Nat.zero_add, h0.cellAt _ (by omega)]; exact hf 2 (by omega)
    · rw [Nat.zero_add, h0.cellAt _ (by omega)]; exact hf 3 (by omega)
    · rw [Nat.zero_add, h0.cellAt _ (by omega)]; exact hf 4 (by omega)
theorem OwnC.kept {base : Nat} {w w' : World} {v : Value} {cs : List Cl} (h : OwnC base w v cs) (hg : w.grownBy w' none) : OwnC base w' v cs := by
  refine World.ownsRow.kept h hg ?_
  cases hv : v.ownBlock with
  | none => exact .inl rfl
  | some k => exact .inr (by simp)
theorem info40 : ∃ i, Try.prog.info? 40 = some i ∧ i.zero = some (.agg #[.string ⟨#[]⟩, .int .u64 0, .int .u64 0, .int .i64 0, .int .i64 0]) ∧ i.size = 5 ∧ i.bytes = 48 := by
  have h : (Try.prog.info? 40).map (fun i => (i.zero, i.size, i.bytes)) = some (some (.agg #[.string ⟨#[]⟩, .int .u64 0, .int .u64 0, .int .i64 0, .int .i64 0]), 5, 48) := by kernel_rfl
  cases e : Try.prog.info? 40 with
  | none => rw [e] at h; cases h
  | some i => rw [e] at h; simp at h; exact ⟨i, rfl, h.1, h.2.1, h.2.2⟩
theorem cells5_one (c : Cl) : ∀ u ∈ cells5 c, u.oneCell' = true := by
  intro u hu
  simp [cells5] at hu
  rcases hu with rfl | rfl | rfl | rfl | rfl <;> rfl

/-- where the client is -/
def fnd (cs : List Cl) (x : ByteArray) : Option Nat := cs.findIdx? (fun c => decide (c.id = x))
set_option maxRecDepth 100000 in
set_option maxHeartbeats 2000000 in
theorem findClient_c (a : Option Addr) (cap : Nat) (cs : List Cl) (x : ByteArray) (w : World) (hl : cs.length ≤ 1048576) (hs : CsAt w a cs) :
    Calls Try.prog 13 #[.slice a cs.length cap, .string x] w fun e w' => e = .returned (.int .i64 (idxVal (fnd cs x))) ∧ w' = w := by
  have HS : Hid (CsAt w a cs) := hs
  have hl2 : (cs.length : Int) ≤ 1048576 := by omega
  clear hs hl
  go_enter Try.func13, Try.ntmps13
  go_wp2_with fail
  go_loopg [5] cs.length (fun g i wr => ∃ k : Nat, k ≤ cs.length ∧ g = cs.length - k ∧ i = .int .i64 k ∧ (∀ j c, j < k → cs[j]? = some c → ¬ c.id = x) ∧ wr = w)
  case atStart => exact ⟨0, Nat.zero_le _, rfl, rfl, fun j m h => by omega, rfl⟩
  case round =>
    obtain ⟨k, hk, hg, rfl, hno, hwr⟩ := hrel
    subst hwr
    have MD : Hid ((∀ j c, j < k → cs[j]? = some c → ¬ c.id = x) ∧ gk = cs.length - k) := ⟨hno, hg⟩
    clear hno hg
    by_cases hlt : k < cs.length
    · obtain ⟨c, hc⟩ : ∃ c, cs[k]? = some c := ⟨cs[k], List.getElem?_eq_getElem hlt⟩
      have HM : Hid (cs[k]? = some c) := hc
      obtain ⟨b, off, ea, c0, -⟩ := HS.out k c hc
      subst ea
      clear hc
      by_cases hid : c.id = x
      · have HF : Hid (fnd cs x = some k) := by
          unfold fnd
          rw [List.findIdx?_eq_some_iff_getElem]
          have e := HM.out
          rw [List.getElem?_eq_getElem hlt] at e
          refine ⟨hlt, by cases e; simpa using hid, fun j hj => ?_⟩
          have := MD.out.1 j cs[j] hj (List.getElem?_eq_getElem _)
          simpa using this
        have hb : (c.id.toList == x.toList) = true := by rw [str_beq2]; simpa using hid
        clear hid
        go_wp2
        go_ret
        exact ⟨by rw [HF.out]; rfl, rfl⟩
      · have HN : Hid (¬ c.id = x) := hid
        have hb : (c.id.toList == x.toList) = false := by rw [str_beq2]; simpa using hid
        clear hid
        go_wp2_with fail
        go_roundg (cs.length - (k + 1))
        case measure => have := MD.out.2; omega
        case rel =>
          refine ⟨k + 1, by omega, rfl, by go_num, fun j c' hj hc' => ?_, rfl⟩
          by_cases e : j = k
          · subst e
            rw [HM.out] at hc'
            cases hc'
            exact HN.out
          · exact MD.out.1 j c' (by omega) hc'
    · have HF : Hid (fnd cs x = none) := by
        unfold fnd
        rw [List.findIdx?_eq_none_iff]
        intro c hc
        obtain ⟨j, hj⟩ := List.mem_iff_getElem?.1 hc
        have := MD.out.1 j c (by have := (List.getElem?_eq_some_iff.1 hj).1; omega) hj
        simpa using this
      go_wp2
      go_ret
      exact ⟨by rw [HF.out]; rfl, rfl⟩

/-- not left behind -/
def keepC (now : Int) (c : Cl) : Bool := decide (now - c.tm ≤ 3600000)
def prn (cs : List Cl) (now : Int) : List Cl := cs.filter (keepC now)
theorem prn_take {cs : List Cl} {k : Nat} {c : Cl} (h : cs[k]? = some c) (now : Int) : prn (cs.take (k + 1)) now = if keepC now c then prn (cs.take k) now ++ [c] else prn (cs.take k) now := by
  unfold prn
  rw [List.take_add_one, h, List.filter_append]
  split
  · rename_i e; simp [e]
  · rename_i e; simp [e]
set_option maxRecDepth 100000 in
set_option maxHeartbeats 2000000 in
theorem prune_c (a : Option Addr) (cap : Nat) (cs : List Cl) (now : Int) (w : World) (hl : cs.length ≤ 1048576) (hs : CsAt w a cs) (hn0 : 0 ≤ now) (hn : now ≤ 9223372036854775807) (ht : ∀ c ∈ cs, 0 ≤ c.tm ∧ c.tm ≤ now) :
    Calls Try.prog 14 #[.slice a cs.length cap, .int .i64 now] w fun e w' => ∃ v, e = .returned v ∧ OwnC w.heap.size w' v (prn cs now) ∧ w.grownBy w' none := by
  obtain ⟨i0, hi, hz, hsz, hby⟩ := info40
  obtain ⟨w0, hmk, hown, hg0⟩ := run_make_own (P := Try.prog) w w.heap.size 32 40 i0 _ 5 Try.underlying32 hi hz hsz .i64 .i64 cs.length (by rw [hby]; omega) (by have : maxLen = 9223372036854775807 := rfl; omega) (Nat.le_refl _)
  have HI : Hid (Try.prog.info? 40 = some i0 ∧ i0.zero = some (.agg #[.string ⟨#[]⟩, .int .u64 0, .int .u64 0, .int .i64 0, .int .i64 0]) ∧ i0.size = 5 ∧ i0.bytes = 48) := ⟨hi, hz, hsz, hby⟩
  have HS : Hid (CsAt w a cs ∧ ∀ c ∈ cs, 0 ≤ c.tm ∧ c.tm ≤ now) := ⟨hs, ht⟩
  have H0 : Hid (OwnC w.heap.size w0 (.slice (some ⟨w.heap.size, 0, none⟩) 0 cs.length) [] ∧ w.grownBy w0 none) := ⟨hown, hg0⟩
  have hl2 : (cs.length : Int) ≤ 1048576 := by omega
  clear hs ht hi hz hsz hby hown hg0 hl
  go_enter Try.func14, Try.ntmps14
  go_wp2_with fail
  clear hmk
  go_loopg [5, 6] cs.length (fun gg vv i wr => ∃ k : Nat, k ≤ cs.length ∧ gg = cs.length - k ∧ i = .int .i64 k ∧ OwnC w.heap.size wr vv (prn (cs.take k) now) ∧ w.grownBy wr none)
  case atStart => exact ⟨0, Nat.zero_le _, rfl, rfl, H0.out.1, H0.out.2⟩
  case round =>
    obtain ⟨k, hk, hgg, rfl, hown, hgr⟩ := hrel
    obtain ⟨va, vc, rfl, -⟩ := hown.slice
    have MD : Hid (OwnC w.heap.size wr (.slice va (prn (cs.take k) now).length vc) (prn (cs.take k) now) ∧ w.grownBy wr none ∧ gk = cs.length - k) := ⟨hown, hgr, hgg⟩
    have HL : Hid ((prn (cs.take k) now).length ≤ 1048576) := by
      have h1 := List.length_filter_le (keepC now) (cs.take k)
      have h2 : (cs.take k).length ≤ cs.length := by simp; omega
      exact Nat.le_trans h1 (by omega)
    obtain ⟨al, hal⟩ : ∃ al, prn (cs.take k) now = al := ⟨_, rfl⟩
    have HA : Hid (prn (cs.take k) now = al) := hal
    rw [hal] at MD HL ⊢
    have hal2 : (al.length : Int) ≤ 1048576 := by have := HL.out; omega
    clear hown hgr hgg hal
    by_cases hlt : k < cs.length
    · obtain ⟨c, hc⟩ : ∃ c, cs[k]? = some c := ⟨cs[k], List.getElem?_eq_getElem hlt⟩
      have HM : Hid (cs[k]? = some c) := hc
      obtain ⟨b, off, ea, c0, c1, c2, c3, c4⟩ := (HS.out.1.kept MD.out.2.1) k c hc
      have htm := HS.out.2 c (List.mem_of_getElem? hc)
      have hwr : IntKind.i64.wrap (now - c.tm) = now - c.tm := by simp [IntKind.wrap, IntKind.bits, IntKind.signed]; omega
      subst ea
      clear hc
      by_cases hkp : now - c.tm ≤ 3600000
      · have HE : Hid (prn (cs.take (k + 1)) now = al ++ [c]) := by
          rw [prn_take HM.out, if_pos (show keepC now c = true from by simpa [keepC] using hkp), HA.out]
          trivial
        have hws : Hid (w.heap.size ≤ wr.heap.size) := MD.out.2.1.size
        go_wp2_with (at_builtin; refine wpList_append_own _ rfl _ _ 32 rfl w.heap.size 40 i0 _ 5 48 Try.underlying32 HI.out.1 HI.out.2.1 HI.out.2.2.1 HI.out.2.2.2 rfl (by omega) _ _ _ rfl (World.ownsRow.alloc MD.out.1 _) ⟨wr.heap.size, 0, none⟩ 1 1 (cells5 c) rfl ?qc1 ?qc2 ?qc3 ?qc4 ?qc5 ?qc6 ?_)
        case qc1 => rfl
        case qc2 =>
          intro jj u hjj
          rw [Addr.add_lit, Nat.zero_add, World.cell?_alloc_at _ _ _ _ rfl, ← hjj]
          simp [cells5]
        case qc3 => exact cells5_one c
        case qc4 => have : maxLen = 9223372036854775807 := rfl; omega
        case qc5 => omega
        case qc6 => have := hws.out; simp; omega
        intro v' w5 hown hgrow hnil
        have L5 : Hid (OwnC w.heap.size w5 v' (al ++ [c]) ∧ w.grownBy w5 none) := by
          refine ⟨?_, grown_row (grown_alloc MD.out.2.1 _) hgrow (fun j hj => (World.ownsRow.lt MD.out.1 j hj).1)⟩
          unfold OwnC
          rw [List.length_append, flatC_append]
          simpa [flatC] using hown
        obtain ⟨va', vc', rfl, -⟩ := L5.out.1.slice
        clear hown hgrow hnil
        go_wp2_with fail
        go_roundg (cs.length - (k + 1))
        case measure => have := MD.out.2.2; omega
        case rel => exact ⟨k + 1, by omega, rfl, by go_num, by rw [HE.out]; exact L5.out.1, L5.out.2⟩
      · have HE : Hid (prn (cs.take (k + 1)) now = al) := by
          rw [prn_take HM.out, if_neg (show ¬ keepC now c = true from by simpa [keepC] using hkp), HA.out]
          trivial
        go_wp2_with fail
        go_roundg (cs.length - (k + 1))
        case measure => have := MD.out.2.2; omega
        case rel => exact ⟨k + 1, by omega, rfl, by go_num, by rw [HE.out]; exact MD.out.1, MD.out.2.1⟩
    · have HX : Hid (prn cs now = al) := by have h := HA.out; rw [List.take_of_length_le (by omega)] at h; exact h
      go_wp2
      go_ret
      exact ⟨_, rfl, by rw [HX.out]; exact MD.out.1, MD.out.2.1⟩
end Go.Proofs.Qxb6615757a
