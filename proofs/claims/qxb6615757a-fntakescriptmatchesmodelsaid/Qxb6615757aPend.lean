/-
  LISTS OF MEMBER LISTS in memory; the walk of zzToConfigs.
-/
import Derived.Test.Qxb6615757aCfg4
namespace Go.Proofs.Qxb6615757a
open Go.RowKit

/-- a slice of members: where it lies, its capacity, what it holds -/
structure Sl where
  a : Option Addr
  cap : Nat
  ms : List Mem
def Sl.val (s : Sl) : Value := .slice s.a s.ms.length s.cap
def Sl.Ok (w : World) (s : Sl) : Prop := MsAt w s.a s.ms ∧ (s.a = none → s.ms = []) ∧ s.ms.length ≤ 1048576
def PAt (w : World) (a : Option Addr) (i : Nat) (s : Sl) : Prop := ∃ b off, a = some ⟨b, off, none⟩ ∧ w.cell? ⟨b, off + i, none⟩ = some s.val
def PsAt (w : World) (a : Option Addr) (ps : List Sl) : Prop := ∀ i s, ps[i]? = some s → PAt w a i s ∧ s.Ok w
theorem PAt.kept {w w' : World} {a : Option Addr} {i : Nat} {s : Sl} (h : PAt w a i s) (g : w.grownBy w' none) : PAt w' a i s := by
  obtain ⟨b, off, e, c0⟩ := h
  exact ⟨b, off, e, g.cell c0 (by simp)⟩
theorem Sl.Ok.kept {w w' : World} {s : Sl} (h : s.Ok w) (g : w.grownBy w' none) : s.Ok w' := ⟨h.1.kept g, h.2⟩
theorem PsAt.kept {w w' : World} {a : Option Addr} {ps : List Sl} (h : PsAt w a ps) (g : w.grownBy w' none) : PsAt w' a ps := fun i s hi => ⟨(h i s hi).1.kept g, (h i s hi).2.kept g⟩

theorem info29 : ∃ i, Try.prog.info? 29 = some i ∧ i.zero = some (.slice none 0 0) ∧ i.size = 1 ∧ i.bytes = 24 := by
  have h : (Try.prog.info? 29).map (fun i => (i.zero, i.size, i.bytes)) = some (some (.slice none 0 0), 1, 24) := by kernel_rfl
  cases e : Try.prog.info? 29 with
  | none => rw [e] at h; cases h
  | some i => rw [e] at h; simp at h; exact ⟨i, rfl, h.1, h.2.1, h.2.2⟩
theorem eql48 (w : World) (a : Option Addr) (n c : Nat) : (binOp .eql 48 (.slice a n c) (.slice none 0 0)).run Try.prog w = .ok (.bool a.isNone) w := Lib.run_eql_slice_nil w _ _ a n c 0 0 Try.underlying48
/-- the configurations laid so far -/
def Laid (w : World) (g n : Nat) (ps : List Sl) (k : Nat) : Prop :=
  ∃ (qs : List Sl) (xs : List Value), w.ownsRow g 29 1 (.slice (some ⟨g, 0, none⟩) n n) n xs ∧ xs.take k = qs.map Sl.val ∧ qs.map (·.ms) = (ps.take k).map (·.ms) ∧ ∀ q ∈ qs, Own (g + 1) 57 w q.val q.ms
theorem Own.keptRow {e : TypeId} {w w' : World} {v : Value} {ms : List Mem} {g : Nat} (h : Own (g + 1) e w v ms) (hg : w.grownBy w' (some g)) : Own (g + 1) e w' v ms := by
  refine World.ownsRow.kept h hg ?_
  cases hv : v.ownBlock with
  | none => exact .inl rfl
  | some k =>
    refine .inr (fun e => ?_)
    cases e
    have := (World.ownsRow.lt h g hv).1
    omega
theorem Laid.kept {w w' : World} {g n : Nat} {ps : List Sl} {k : Nat} (h : Laid w g n ps k) (hg : w.grownBy w' none) : Laid w' g n ps k := by
  obtain ⟨qs, xs, h1, h2, h3, h4⟩ := h
  exact ⟨qs, xs, h1.kept hg (.inr (by simp [Value.ownBlock])), h2, h3, fun q hq => (h4 q hq).kept hg⟩
theorem Laid.step {w : World} {g n : Nat} {ps : List Sl} {k : Nat} (h : Laid w g n ps k) {s q : Sl} (hs : ps[k]? = some s) (hq : q.ms = s.ms) (ho : Own (g + 1) 57 w q.val q.ms) (hk : k < n) : Laid (w.setCell ⟨g, k, none⟩ q.val) g n ps (k + 1) := by
  obtain ⟨qs, xs, h1, h2, h3, h4⟩ := h
  have hl : xs.length = n := by have := h1.1; omega
  obtain ⟨r1, r2⟩ := h1.stored k q.val
  refine ⟨qs ++ [q], _, r1, ?_, ?_, fun p hp => ?_⟩
  · rw [List.take_add_one, List.take_set_of_le (Nat.le_refl _), h2, List.getElem?_set_self (by omega)]
    simp
  · rw [List.map_append, h3, List.take_add_one, hs]
    simp [hq]
  · rcases List.mem_append.1 hp with hp | hp
    · exact (h4 p hp).keptRow r2
    · simp at hp; subst hp; exact ho.keptRow r2

set_option maxRecDepth 100000 in
set_option maxHeartbeats 1000000 in
theorem toConfigs_c (a : Option Addr) (cap : Nat) (ps : List Sl) (w : World) (hl : ps.length ≤ 1048576) (hs : PsAt w a ps) (hn : a = none → ps = []) :
    Calls Try.prog 23 #[.slice a ps.length cap] w fun e w' => ∃ v, e = .returned v ∧ ∃ qs : List Sl, w'.ownsRow w.heap.size 29 1 v qs.length (qs.map Sl.val) ∧ qs.map (·.ms) = ps.map (·.ms) ∧ (∀ q ∈ qs, Own w.heap.size 57 w' q.val q.ms) ∧ w.grownBy w' none := by
  cases a with
  | none =>
    have e := hn rfl
    subst e
    have heq := eql48 w none 0 cap
    go_enter Try.func23, Try.ntmps23
    go_wp2
    go_ret
    exact ⟨_, rfl, [], World.ownsRow_nil _ _ _ _, rfl, fun q h => by simp at h, grown_refl w⟩
  | some ad =>
    obtain ⟨i0, hi, hz, hsz, hby⟩ := info29
    obtain ⟨w0, hmk, hown, hg0⟩ := run_make_full (P := Try.prog) w w.heap.size 52 29 i0 _ 1 Try.underlying52 hi hz hsz .i64 .i64 ps.length (by rw [hby]; omega) (by have : maxLen = 9223372036854775807 := rfl; omega) (Nat.le_refl _)
    have HS : Hid (PsAt w (some ad) ps) := hs
    have H0 : Hid (Laid w0 w.heap.size ps.length ps 0 ∧ w.grownBy w0 none ∧ w.heap.size < w0.heap.size) := ⟨⟨[], _, hown, by simp, by simp, fun q h => by simp at h⟩, hg0, (World.ownsRow.lt hown _ rfl).2⟩
    have hl2 : (ps.length : Int) ≤ 1048576 := by omega
    clear hs hn hi hz hsz hby hown hg0 hl
    have heq := eql48 w (some ad) ps.length cap
    go_enter Try.func23, Try.ntmps23
    go_wp2_with fail
    obtain ⟨g, hgeq⟩ : ∃ g, w.heap.size = g := ⟨_, rfl⟩
    have HG : Hid (w.heap.size = g) := hgeq
    rw [hgeq] at H0 ⊢
    clear hgeq hmk heq
    go_loopg [4] ps.length (fun gg i wr => ∃ k : Nat, k ≤ ps.length ∧ gg = ps.length - k ∧ i = .int .i64 k ∧ Laid wr g ps.length ps k ∧ w.grownBy wr none ∧ g < wr.heap.size)
    case atStart => exact ⟨0, Nat.zero_le _, rfl, rfl, H0.out.1, H0.out.2.1, H0.out.2.2⟩
    case round =>
      obtain ⟨k, hk, hgg, rfl, hp, hgr, hgl⟩ := hrel
      have MD : Hid (Laid wr g ps.length ps k ∧ w.grownBy wr none ∧ g < wr.heap.size ∧ gk = ps.length - k) := ⟨hp, hgr, hgl, hgg⟩
      clear hp hgr hgg hgl
      by_cases hlt : k < ps.length
      · obtain ⟨s, hsk⟩ : ∃ s, ps[k]? = some s := ⟨ps[k], List.getElem?_eq_getElem hlt⟩
        have HM : Hid (ps[k]? = some s) := hsk
        obtain ⟨b, off, ea, c0⟩ := (HS.out k s hsk).1.kept MD.out.2.1
        cases ea
        have c0 : wr.cell? ⟨b, off + k, none⟩ = some (.slice s.a s.ms.length s.cap) := c0
        have HO : Hid (s.Ok wr) := (HS.out k s hsk).2.kept MD.out.2.1
        clear hsk
        go_wp2_with fail
        refine (toConfig_c s.a s.cap s.ms wr HO.out.2.2 HO.out.1 HO.out.2.1).mono ?_
        rintro e1 w1 ⟨v, rfl, hv, -, hg1⟩
        obtain ⟨va, vc, rfl, -⟩ := hv.slice
        have hv2 : Own (g + 1) 57 w1 (.slice va s.ms.length vc) s.ms := hv.base MD.out.2.2.1
        have L1 : Hid (Laid w1 g ps.length ps k ∧ Own (g + 1) 57 w1 (.slice va s.ms.length vc) s.ms ∧ w.grownBy w1 none ∧ g < w1.heap.size) := ⟨MD.out.1.kept hg1, hv2, grown_trans MD.out.2.1 hg1, Nat.lt_of_lt_of_le MD.out.2.2.1 hg1.size⟩
        obtain ⟨u0, d0⟩ : ∃ u0, w1.cell? ⟨g, k, none⟩ = some u0 := by
          obtain ⟨qs, xs, h1, _⟩ := L1.out.1
          have hl : xs.length = ps.length := by have := h1.1; omega
          exact ⟨xs[k], by rw [h1.cellAt k (by omega), List.getElem?_eq_getElem]⟩
        have f0 : ∀ j, w1.frozen? ⟨g, j, none⟩ = false := fun j => by
          obtain ⟨qs, xs, h1, _⟩ := L1.out.1
          exact h1.frozenAt j
        clear hv hg1 hv2
        go_wp2_with fail
        go_roundg (ps.length - (k + 1))
        case measure => have := MD.out.2.2.2; omega
        case rel =>
          have hge : w.heap.size ≤ g := by rw [HG.out]; omega
          exact ⟨k + 1, by omega, rfl, by go_num, L1.out.1.step (q := ⟨va, vc, s.ms⟩) HM.out rfl L1.out.2.1 hlt, grown_set L1.out.2.2.1 hge _, by simp [World.setCell]; exact L1.out.2.2.2⟩
      · have hkl : k = ps.length := by omega
        go_wp2
        go_ret
        obtain ⟨qs, xs, h1, h2, h3, h4⟩ := MD.out.1
        have hl : xs.length = ps.length := by have := h1.1; omega
        rw [List.take_of_length_le (by omega)] at h2 h3
        have hq : qs.length = ps.length := by have := congrArg List.length h3; simpa using this
        subst h2
        refine ⟨_, rfl, qs, ?_, h3, fun q hq => (h4 q hq).base (by rw [HG.out]; omega), MD.out.2.1⟩
        rw [HG.out, hq]
        exact h1
end Go.Proofs.Qxb6615757a
