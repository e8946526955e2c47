/-
  The walk of FnTakeScriptMatchesModel.
-/
import Derived.Test.Qxb6615757aInv
import Derived.Deep.RegionHeld3
import Derived.Deep.CutRange
import Derived.Deep.CutBlock
namespace Go.Proofs.Qxb6615757a
open Go.RowKit

theorem neq22 (w : World) (a : Option Addr) (n c : Nat) : (binOp .neq 22 (.slice a n c) (.slice none 0 0)).run Try.prog w = .ok (.bool a.isSome) w := by
  simp only [binOp]
  cases a <;> simp [Op.equal, Op.maxDepth, Lib.run_equalIn_slice_nil w 9999 22 _ _ n c 0 0 Try.underlying22]
theorem neq29s (w : World) (a : Option Addr) (n c : Nat) : (binOp .neq 29 (.slice a n c) (.slice none 0 0)).run Try.prog w = .ok (.bool a.isSome) w := by
  rw [neq29]
  cases a <;> rfl
theorem look_hit {ms : List Mem} {id : Int} {k : Nat} {m : Mem} (hm : ms[k]? = some m) (he : m.1 = id) (hno : ∀ j x, j < k → ms[j]? = some x → ¬ x.1 = id) : look ms id = some m.2 := by
  obtain ⟨hlt, e⟩ := List.getElem?_eq_some_iff.1 hm
  have hf : findAt ms id = some k := by
    unfold findAt
    rw [List.findIdx?_eq_some_iff_getElem]
    refine ⟨hlt, by rw [e]; simpa using he, fun j hj => ?_⟩
    have := hno j ms[j] hj (List.getElem?_eq_getElem _)
    simpa using this
  unfold look
  rw [hf]
  show ms[k]?.map (·.2) = _
  rw [hm]
  rfl
theorem look_miss {ms : List Mem} {id : Int} (hno : ∀ j x, j < ms.length → ms[j]? = some x → ¬ x.1 = id) : look ms id = none := by
  have hf : findAt ms id = none := by
    unfold findAt
    rw [List.findIdx?_eq_none_iff]
    intro m hm
    obtain ⟨j, hj⟩ := List.mem_iff_getElem?.1 hm
    have := hno j m (List.getElem?_eq_some_iff.1 hj).1 hj
    simpa using this
  unfold look
  rw [hf]
  rfl
theorem nil_iff {base : Nat} {e : TypeId} {w : World} {a b : Option Addr} {c : Nat} {ms : List Mem} (h : Own base e w (.slice a ms.length c) ms) (hn : Value.slice a ms.length c = .slice none 0 0 ↔ b = none) : a.isSome = b.isSome := by
  have key : a = none ↔ b = none := by
    constructor
    · intro e1
      subst e1
      have h0 : w.ownsRow base e 2 (.slice none ms.length c) ms.length (flat ms) := h
      obtain ⟨_, ⟨e2, _⟩ | ⟨g, c', cur, e2, _⟩⟩ := h0
      · exact hn.1 e2
      · cases e2
    · intro e1
      have h1 := hn.2 e1
      injection h1 with h1 _ _
  cases a <;> cases b <;> simp_all

theorem grown_b_trans2 {a b c : World} {g : Nat} (h : a.grownBy b (some g)) (k : b.grownBy c (some g)) : a.grownBy c (some g) :=
  ⟨k.os.trans h.os, k.tape.trans h.tape, k.output.trans h.output, Nat.le_trans h.size k.size, fun i hi hn => (k.block i (Nat.lt_of_lt_of_le hi h.size) hn).trans (h.block i hi hn)⟩
theorem opt_cases {α : Type} (a : Option α) : (∃ x, a = some x) ∨ a = none := by cases a <;> simp
/-- what a step leaves of the log, plainly -/
def Stp (s : St) (L : List Cl) (now mf : Int) (cfg : List Mem) (xa : Option Addr) (xc : Nat) (res : Int) (L' : List Cl) (now' mf' : Int) (cl' : List Mem) (xa' : Option Addr) (xc' : Nat) : Prop :=
  ((∃ ad, s.cfg.a = some ad) ∧ 0 = res ∧ L = L' ∧ now = now' ∧ mf = mf' ∧ reach s.cfg.ms cfg = cl' ∧ ∃ x, xa' = some x) ∨
  (s.cfg.a = none ∧ 0 < s.drop ∧ 0 = res ∧ L = L' ∧ now = now' ∧ (if s.drop ≤ s.last then max mf (s.drop + 1) else mf) = mf' ∧ cfg = cl' ∧ xa = xa' ∧ xc = xc') ∨
  (s.cfg.a = none ∧ s.drop = 0 ∧ (if (tookL L s.cl s.seq s.ent (s.last + 1) (max now s.tm)).1 then s.ent else 0) = res ∧ (tookL L s.cl s.seq s.ent (s.last + 1) (max now s.tm)).2.dropWhile (oldL (max now s.tm)) = L' ∧ max now s.tm = now' ∧ mf = mf' ∧ cfg = cl' ∧ xa = xa' ∧ xc = xc')
/-- the step's own variable -/
def S7' (p : Nat) (x : ByteArray) (q t n : Int) (v : Value) (d l : Int) (w : World) : Prop :=
  w.cell? ⟨p, 0, none⟩ = some (.string x) ∧ w.cell? ⟨p, 1, none⟩ = some (.int .u64 q) ∧ w.cell? ⟨p, 2, none⟩ = some (.int .i64 t) ∧ w.cell? ⟨p, 3, none⟩ = some (.int .i64 n) ∧ w.cell? ⟨p, 4, none⟩ = some v ∧ w.cell? ⟨p, 5, none⟩ = some (.int .u64 d) ∧ w.cell? ⟨p, 6, none⟩ = some (.int .u64 l)
theorem S7'.block {p : Nat} {x : ByteArray} {q t n : Int} {v : Value} {d l : Int} {w w' : World} (h : S7' p x q t n v d l w) (hb : w'.heap[p]? = w.heap[p]?) : S7' p x q t n v d l w' := by
  have hc : ∀ o, w'.cell? ⟨p, o, none⟩ = w.cell? ⟨p, o, none⟩ := fun o => World.cell?_of_block hb
  obtain ⟨h0, h1, h2, h3, h4, h5, h6⟩ := h
  exact ⟨(hc 0).trans h0, (hc 1).trans h1, (hc 2).trans h2, (hc 3).trans h3, (hc 4).trans h4, (hc 5).trans h5, (hc 6).trans h6⟩
theorem S7'.kept {p : Nat} {x : ByteArray} {q t n : Int} {v : Value} {d l : Int} {w w' : World} (h : S7' p x q t n v d l w) (g : w.grownBy w' none) : S7' p x q t n v d l w' := h.block (g.block p (lt_of_cell h.1) (by simp))
theorem S7'.turn {p : Nat} {x : ByteArray} {q t n : Int} {v : Value} {d l : Int} {w w' : World} {F : List Nat} (h : S7' p x q t n v d l w) (t' : Turn F w w') (hp : p ∉ F) : S7' p x q t n v d l w' := h.block (t'.block p (lt_of_cell h.1) hp)

set_option maxRecDepth 100000 in
set_option maxHeartbeats 8000000 in
theorem script_walk (ca : Option Addr) (cc : Nat) (cms : List Mem) (fi : Int) (pa : Option Addr) (pc : Nat) (ss : List St) (w : World) (hc : MsAt w ca cms) (hcn : ca = none → cms = []) (hcl : cms.length ≤ maxLen) (hcs : ∀ m ∈ cms, m.2.size ≤ maxLen) (hp : SsR w pa ss) (hpl : ss.length ≤ maxLen) :
    Calls Try.prog 3 #[.slice ca cms.length cc, .int .u64 fi, .slice pa ss.length pc] w fun e w' => e = .returned (.bool true) ∧ w.grownBy w' none := by
  have HC : Hid (MsAt w ca cms ∧ (ca = none → cms = [])) := ⟨hc, hcn⟩
  have HP : Hid (SsR w pa ss) := hp
  have hb := bytes7_c ca cc cms fi pa pc ss w hc hcl hcs hp hpl
  have HB : Hid (Calls Try.prog 7 #[.slice ca cms.length cc, .int .u64 fi, .slice pa ss.length pc] w (Ans (Fit7 cms ss) w)) := hb
  clear hc hcn hcl hcs hp hpl hb
  go_enter Try.func3, Try.ntmps3
  go_wp2_with fail
  refine Calls.mono HB.out ?_
  rintro e1 w1 ⟨bb, rfl, rfl, hfit⟩
  cases bb with
  | false =>
    clear hfit
    go_wp2
    go_ret
    exact ⟨rfl, grown_refl _⟩
  | true =>
    have HF : Hid (Fit7 cms ss) := hfit rfl
    have hcl2 : (cms.length : Int) ≤ 1048576 := by have := HF.out.1; omega
    have hpl2 : (ss.length : Int) ≤ 1048576 := by have := HF.out.2.2.1; omega
    clear hfit
    by_cases hb1 : (4096 : Int) < cms.length
    · go_wp2
      go_ret
      exact ⟨rfl, grown_refl _⟩
    by_cases hb2 : (4096 : Int) < ss.length
    · go_wp2
      go_ret
      exact ⟨rfl, grown_refl _⟩
    go_wp2_with fail
    refine (fits8_c ca cc cms fi pa pc ss w1 HC.out.1 HP.out HF.out).mono ?_
    rintro e2 w2 ⟨bb, rfl, hw2, hfit⟩
    subst hw2
    cases bb with
    | false =>
      clear hfit
      go_wp2
      go_ret
      exact ⟨rfl, grown_refl _⟩
    | true =>
      have HF8 : Hid (Fit8 ss) := hfit rfl
      clear hfit
      go_wp2_with fail
      refine (toConfig_c ca cc cms w2 (by omega) HC.out.1 HC.out.2).mono ?_
      rintro e3 w3 ⟨v3, rfl, hown3, hnil3, hg3⟩
      obtain ⟨xa, xc, rfl, -⟩ := hown3.slice
      have O3 : Hid (Own w2.heap.size 57 w3 (.slice xa cms.length xc) cms ∧ xa.isSome = ca.isSome ∧ w2.grownBy w3 none) := ⟨hown3, nil_iff hown3 hnil3, hg3⟩
      clear hown3 hnil3 hg3
      go_wp2_with fail
      refine (newRule_c w3 xa cms.length xc fi).mono ?_
      rintro e4 w4 ⟨rfl, hw4⟩
      obtain ⟨sb, hsb⟩ : ∃ sb, w3.heap.size = sb := ⟨_, rfl⟩
      have O4 : Hid (w4 = w3.alloc (rule (.slice xa cms.length xc) fi) ∧ w3.heap.size = sb ∧ w3.grownBy w4 none) := ⟨hw4, hsb, by rw [hw4]; exact World.grownBy_alloc _ _ _⟩
      rw [hsb]
      clear hw4 hsb
      go_wp2_with fail
      have g24 : Hid (w2.grownBy w4 none) := grown_trans O3.out.2.2 O4.out.2.2
      refine (cloneMembers_c ca cc cms w4 (by omega) (HC.out.1.kept g24.out) HC.out.2).mono ?_
      rintro e5 w5 ⟨v5, rfl, hown5, -, hg5⟩
      obtain ⟨ma, mc, rfl, -⟩ := hown5.slice
      have hneq := neq22 w5 ca cms.length cc
      have I5 : Hid (InvA w2 sb 0 w5 (.slice ma cms.length mc) (.bool ca.isSome) (.int .u64 fi) (.int .i64 0) (.slice none 0 0)) := by
        have hr := rs_new w3 (.slice xa cms.length xc) fi 1048576 (by omega)
        rw [← O4.out.1, O4.out.2.1] at hr
        have hlt : sb < w4.heap.size := hr.lt
        have hsz := O3.out.2.2.size
        have c5 : w4.cell? ⟨sb, 5, none⟩ = some (.slice xa cms.length xc) := by rw [O4.out.1, ← O4.out.2.1]; exact World.cell?_alloc_at _ _ _ _ rfl
        have c6 : w4.cell? ⟨sb, 6, none⟩ = some (.int .u64 fi) := by rw [O4.out.1, ← O4.out.2.1]; exact World.cell?_alloc_at _ _ _ _ rfl
        have hbs := O4.out.2.1
        refine ⟨[sb], [], [], cms, 0, fi, ma, mc, xa, xc, none, 0, rfl, by rw [O3.out.2.1], rfl, rfl, rfl, ⟨hr.grow (turn_of_grown hg5), fun k hk => by simp at hk; omega, fun k hk => by simp at hk; have := hg5.size; omega, hown5.base g24.out.size, ?_, hg5.cell c5 (by simp), (O3.out.1.kept (grown_trans O4.out.2.2 hg5)), ?_, World.ownsRow_nil _ _ _ _, fun ad e => (by cases e), hg5.cell c6 (by simp), ⟨by omega, by omega⟩, by omega, by omega, grown_trans g24.out hg5, ?_⟩, sim_nil, Nat.le_refl _, Nat.le_refl _⟩
        · intro ad e hm
          subst e
          have h1 := (ownsRow_lt hown5).1
          simp at hm
          omega
        · intro ad e hm
          subst e
          have h1 := (ownsRow_lt O3.out.1).2
          simp at hm
          omega
        · intro k hk x e
          simp at hk
          subst hk
          have h0 : w4.cell? ⟨k, 0, none⟩ = some (.map none) := by rw [O4.out.1, ← O4.out.2.1]; exact World.cell?_alloc_at _ _ _ _ rfl
          rw [hg5.cell h0 (by simp)] at e
          cases e
      clear hown5 hg5
      go_wp2_with fail
      clear hneq
      go_loopg [8, 9, 10, 11, 12, 13] ss.length (fun gg a8 a9 a10 a11 a12 i wr => ∃ k : Nat, k ≤ ss.length ∧ gg = ss.length - k ∧ i = .int .i64 k ∧ InvA w2 sb k wr a8 a9 a10 a11 a12)
      case atStart => exact ⟨0, Nat.zero_le _, rfl, rfl, I5.out⟩
      case round =>
        obtain ⟨k, hk, hgg, rfl, hinv⟩ := hrel
        obtain ⟨F, L, cs, cfg, now, mf, ma, mc, xa, xc, ka, kc, rfl, rfl, rfl, rfl, rfl, hinv, hsim, hlL, hlC⟩ := hinv
        have MD : Hid (InvR w2 sb wr F L now mf cfg ma mc cfg xa xc cs ka kc ∧ Sim L cs now ∧ L.length ≤ k ∧ cs.length ≤ k ∧ gk = ss.length - k) := ⟨hinv, hsim, hlL, hlC, hgg⟩
        have hcfl : (cfg.length : Int) ≤ 1048576 := by have := hinv.lM; omega
        have hcsl : (cs.length : Int) ≤ 1048576 := by omega
        have hnow := hinv.nowb
        clear hinv hsim hlL hlC hgg
        by_cases hlt : k < ss.length
        · obtain ⟨s, hs⟩ : ∃ s, ss[k]? = some s := ⟨ss[k], List.getElem?_eq_getElem hlt⟩
          have HS : Hid (ss[k]? = some s ∧ StR w2 s ∧ s.cl.size ≤ 1048576 ∧ s.cfg.ms.length ≤ 1048576 ∧ MsFit s.cfg.ms ∧ ¬ s.last = 18446744073709551615) := ⟨hs, (HP.out k s hs).2, HF.out.2.2.2 s (List.mem_of_getElem? hs) |>.1, HF.out.2.2.2 s (List.mem_of_getElem? hs) |>.2.1, HF.out.2.2.2 s (List.mem_of_getElem? hs) |>.2.2, HF8.out s (List.mem_of_getElem? hs)⟩
          obtain ⟨b, offs, ea, c0, c1, c2, c3, c4, c5, c6⟩ := ((HP.out k s hs).1).kept MD.out.1.gr
          have hsl : (s.cfg.ms.length : Int) ≤ 1048576 := by have := HS.out.2.2.2.1; omega
          cases ea
          clear hs
          have hgu := World.grownBy_alloc wr (Obj.cells #[.string s.cl, .int .u64 s.seq, .int .i64 s.tm, .int .i64 s.ent, .slice s.cfg.a s.cfg.ms.length s.cfg.cap, .int .u64 s.drop, .int .u64 s.last] 34) none
          go_wp2_with fail
          have N7 : Hid (S7' wr.heap.size s.cl s.seq s.tm s.ent (.slice s.cfg.a s.cfg.ms.length s.cfg.cap) s.drop s.last (wr.alloc (Obj.cells #[.string s.cl, .int .u64 s.seq, .int .i64 s.tm, .int .i64 s.ent, .slice s.cfg.a s.cfg.ms.length s.cfg.cap, .int .u64 s.drop, .int .u64 s.last] 34))) := ⟨World.cell?_alloc_at _ _ _ _ rfl, World.cell?_alloc_at _ _ _ _ rfl, World.cell?_alloc_at _ _ _ _ rfl, World.cell?_alloc_at _ _ _ _ rfl, World.cell?_alloc_at _ _ _ _ rfl, World.cell?_alloc_at _ _ _ _ rfl, World.cell?_alloc_at _ _ _ _ rfl⟩
          generalize wr.alloc (Obj.cells #[.string s.cl, .int .u64 s.seq, .int .i64 s.tm, .int .i64 s.ent, .slice s.cfg.a s.cfg.ms.length s.cfg.cap, .int .u64 s.drop, .int .u64 s.last] 34) = u at *
          have hpn : wr.heap.size ∉ F := fun e => by have := MD.out.1.fl _ e; omega
          have hpk : ∀ ad, ka = some ad → ad.block ≠ wr.heap.size := fun ad e => by
            have h := MD.out.1.ownC
            unfold OwnC at h
            rw [e] at h
            have := (ownsRow_lt h).2
            omega
          obtain ⟨pp, hpp⟩ : ∃ pp, wr.heap.size = pp := ⟨_, rfl⟩
          rw [hpp] at N7 hpn hpk ⊢
          clear hpp
          obtain ⟨n0, n1, n2, n3, -, n5, n6⟩ := N7.out
          have HPK : Hid (∀ ad, ka = some ad → ad.block ≠ pp) := hpk
          have g1 : wr.grownBy u.drew none := ⟨hgu.os, hgu.tape, hgu.output, hgu.size, hgu.block⟩
          clear c0 c1 c2 c3 c4 c5 c6
          go_cut [15] from 70 to 86 (fun a15 wx => ∃ res F' L' now' mf' cl' xa' xc', a15 = .int .i64 res ∧ S7' pp s.cl s.seq s.tm s.ent (.slice s.cfg.a s.cfg.ms.length s.cfg.cap) s.drop s.last wx ∧ InvR w2 sb wx F' L' now' mf' cfg ma mc cl' xa' xc' cs ka kc ∧ Stp s L now mf cfg xa xc res L' now' mf' cl' xa' xc')
          case first =>
            rcases opt_cases s.cfg.a with ⟨ad, hsa⟩ | hsa
            · have HSA : Hid (s.cfg.a = some ad) := hsa
              have n4 := N7.out.2.2.2.2.1
              rw [hsa] at n4 N7
              clear hsa
              have HT : Hid (Calls Try.prog 10 #[.slice (some ad) s.cfg.ms.length s.cfg.cap] u.drew fun e w' => ∃ yd yc, e = .returned (.slice (some yd) s.cfg.ms.length yc) ∧ S7' pp s.cl s.seq s.tm s.ent (.slice (some ad) s.cfg.ms.length s.cfg.cap) s.drop s.last w' ∧
                  Hid (Calls Try.prog 12 #[.pointer (some ⟨sb, 0, none⟩), .string s.cl, .int .u64 s.seq, .int .i64 s.tm, .int .i64 s.ent, .slice (some yd) s.cfg.ms.length yc, .int .u64 s.drop, .int .u64 s.last] w' fun e w'' => e = .returned (.int .i64 0) ∧ S7' pp s.cl s.seq s.tm s.ent (.slice (some ad) s.cfg.ms.length s.cfg.cap) s.drop s.last w'' ∧
                    Hid (∃ F' xa' xc', xa' ≠ none ∧ InvR w2 sb w'' F' L now mf cfg ma mc (reach s.cfg.ms cfg) xa' xc' cs ka kc))) := by
                have gw : w2.grownBy u.drew none := grown_trans MD.out.1.gr g1
                have hms : MsAt w2 (some ad) s.cfg.ms := by have h := HS.out.2.1.1.1; rw [HSA.out] at h; exact h
                refine (toConfig_c (some ad) s.cfg.cap s.cfg.ms u.drew HS.out.2.2.2.1 (hms.kept gw) (fun e => by cases e)).mono ?_
                rintro e w' ⟨v, rfl, ho, hn, hg⟩
                obtain ⟨ya, yc, rfl, hya⟩ := ho.slice
                have hsome := nil_iff ho hn
                cases ya with
                | none => simp at hsome
                | some yd =>
                  have I1 := (MD.out.1.grow g1).grow hg
                  have s7 : S7' pp s.cl s.seq s.tm s.ent (.slice (some ad) s.cfg.ms.length s.cfg.cap) s.drop s.last w' := S7'.kept (w := u.drew) N7.out hg
                  refine ⟨yd, yc, rfl, s7, ?_⟩
                  refine (zztake_cfg I1.rs s.seq s.tm s.ent s.last s.drop yd yc s.cfg.ms xa xc cfg HS.out.2.2.2.1 hya I1.lX (by obtain ⟨a, c, e, h⟩ := I1.ownX.slice; cases e; exact h) I1.c5 I1.c6).mono ?_
                  rintro e w'' ⟨he, hcu⟩
                  have hT : Turn F w' w'' := by obtain ⟨_, _, _, _, _, ht, _⟩ := hcu.out; exact ht
                  exact ⟨he, s7.turn hT hpn, I1.cfgd hcu.out (by rw [reach_length]; exact HS.out.2.2.2.1)⟩
              go_region_held3 (fun w' => w'.cell? ⟨pp, 0, none⟩ = some (.string s.cl) ∧ w'.cell? ⟨pp, 1, none⟩ = some (.int .u64 s.seq) ∧ w'.cell? ⟨pp, 2, none⟩ = some (.int .i64 s.tm) ∧ w'.cell? ⟨pp, 3, none⟩ = some (.int .i64 s.ent) ∧ w'.cell? ⟨pp, 4, none⟩ = some (.slice (some ad) s.cfg.ms.length s.cfg.cap) ∧ w'.cell? ⟨pp, 5, none⟩ = some (.int .u64 s.drop) ∧ w'.cell? ⟨pp, 6, none⟩ = some (.int .u64 s.last)) (go_keep) (first | (go_at_call 10; refine Calls.mono HT.out ?_; rintro e3 w3 ⟨yd, yc, rfl, ⟨q0, q1, q2, q3, q4, q5, q6⟩, HT12⟩) | (go_at_call 12; refine Calls.mono HT12.out ?_; rintro e4 w4 ⟨rfl, ⟨r0, r1, r2, r3, r4, r5, r6⟩, HPOST⟩))
              clear HT HT12 q0 q1 q2 q3 q4 q5 q6 n0 n1 n2 n3 n4 n5 n6
              obtain ⟨F', xa', xc', hxn, hI4⟩ := HPOST.out
              have R7 : Hid (S7' pp s.cl s.seq s.tm s.ent (.slice s.cfg.a s.cfg.ms.length s.cfg.cap) s.drop s.last w4) := by
                rw [HSA.out]
                exact ⟨r0, r1, r2, r3, r4, r5, r6⟩
              have hx : ∃ x, xa' = some x := by cases xa' with | none => exact absurd rfl hxn | some x => exact ⟨x, rfl⟩
              have RX : Hid (∃ res F' L' now' mf' cl' xa' xc', Value.int .i64 0 = .int .i64 res ∧ S7' pp s.cl s.seq s.tm s.ent (.slice s.cfg.a s.cfg.ms.length s.cfg.cap) s.drop s.last w4 ∧ InvR w2 sb w4 F' L' now' mf' cfg ma mc cl' xa' xc' cs ka kc ∧ Stp s L now mf cfg xa xc res L' now' mf' cl' xa' xc') := ⟨0, F', L, now, mf, _, xa', xc', rfl, R7.out, hI4, .inl ⟨⟨ad, HSA.out⟩, rfl, rfl, rfl, rfl, rfl, hx⟩⟩
              clear r0 r1 r2 r3 r4 r5 r6 hI4 hxn hx HPOST
              go_wp2_with fail
              go_meet
              case rel => exact RX.out
            · have hl0 : s.cfg.ms.length = 0 := by rw [HS.out.2.1.1.2.1 hsa]; rfl
              have HSA : Hid (s.cfg.a = none ∧ s.cfg.ms.length = 0) := ⟨hsa, hl0⟩
              have n4 := N7.out.2.2.2.2.1
              rw [hsa, hl0] at n4 N7
              clear hsa hl0
              by_cases hd : 0 < s.drop
              · have HD : Hid (0 < s.drop) := hd
                have HT : Hid (Calls Try.prog 10 #[.slice none 0 s.cfg.cap] u.drew fun e w' => e = .returned (.slice none 0 0) ∧ S7' pp s.cl s.seq s.tm s.ent (.slice none 0 s.cfg.cap) s.drop s.last w' ∧
                    Hid (Calls Try.prog 12 #[.pointer (some ⟨sb, 0, none⟩), .string s.cl, .int .u64 s.seq, .int .i64 s.tm, .int .i64 s.ent, .slice none 0 0, .int .u64 s.drop, .int .u64 s.last] w' fun e w'' => e = .returned (.int .i64 0) ∧ S7' pp s.cl s.seq s.tm s.ent (.slice none 0 s.cfg.cap) s.drop s.last w'' ∧
                      Hid (∃ F', InvR w2 sb w'' F' L now (if s.drop ≤ s.last then max mf (s.drop + 1) else mf) cfg ma mc cfg xa xc cs ka kc))) := by
                  refine (toConfig_c none s.cfg.cap [] u.drew (by simp) (fun i m hi => by simp at hi) (fun _ => rfl)).mono ?_
                  rintro e w' ⟨v, rfl, ho, hn, hg⟩
                  have I1 := (MD.out.1.grow g1).grow hg
                  have s7 : S7' pp s.cl s.seq s.tm s.ent (.slice none 0 s.cfg.cap) s.drop s.last w' := S7'.kept (w := u.drew) N7.out hg
                  refine ⟨by rw [hn.2 rfl], s7, ?_⟩
                  refine (zztake_drop I1.rs s.seq s.tm s.ent s.last s.drop mf I1.c5 I1.c6 hd (by have h1 := HS.out.2.1.2.2.2.2.2; have h2 := HS.out.2.2.2.2.2; omega)).mono ?_
                  rintro e w'' ⟨he, hcu⟩
                  have hT : Turn F w' w'' := by obtain ⟨_, _, ht, _⟩ := hcu.out; exact ht
                  exact ⟨he, s7.turn hT hpn, I1.taken hcu.out I1.nowb⟩
                go_region_held3 (fun w' => w'.cell? ⟨pp, 0, none⟩ = some (.string s.cl) ∧ w'.cell? ⟨pp, 1, none⟩ = some (.int .u64 s.seq) ∧ w'.cell? ⟨pp, 2, none⟩ = some (.int .i64 s.tm) ∧ w'.cell? ⟨pp, 3, none⟩ = some (.int .i64 s.ent) ∧ w'.cell? ⟨pp, 4, none⟩ = some (.slice none 0 s.cfg.cap) ∧ w'.cell? ⟨pp, 5, none⟩ = some (.int .u64 s.drop) ∧ w'.cell? ⟨pp, 6, none⟩ = some (.int .u64 s.last)) (go_keep) (first | (go_at_call 10; refine Calls.mono HT.out ?_; rintro e3 w3 ⟨rfl, ⟨q0, q1, q2, q3, q4, q5, q6⟩, HT12⟩) | (go_at_call 12; refine Calls.mono HT12.out ?_; rintro e4 w4 ⟨rfl, ⟨r0, r1, r2, r3, r4, r5, r6⟩, HPOST⟩))
                clear HT HT12 q0 q1 q2 q3 q4 q5 q6 n0 n1 n2 n3 n4 n5 n6
                obtain ⟨F', hI4⟩ := HPOST.out
                have R7 : Hid (S7' pp s.cl s.seq s.tm s.ent (.slice s.cfg.a s.cfg.ms.length s.cfg.cap) s.drop s.last w4) := by
                  rw [HSA.out.1, HSA.out.2]
                  exact ⟨r0, r1, r2, r3, r4, r5, r6⟩
                have RX : Hid (∃ res F' L' now' mf' cl' xa' xc', Value.int .i64 0 = .int .i64 res ∧ S7' pp s.cl s.seq s.tm s.ent (.slice s.cfg.a s.cfg.ms.length s.cfg.cap) s.drop s.last w4 ∧ InvR w2 sb w4 F' L' now' mf' cfg ma mc cl' xa' xc' cs ka kc ∧ Stp s L now mf cfg xa xc res L' now' mf' cl' xa' xc') := ⟨0, F', L, now, _, cfg, xa, xc, rfl, R7.out, hI4, .inr (.inl ⟨HSA.out.1, HD.out, rfl, rfl, rfl, rfl, rfl, rfl, rfl⟩)⟩
                clear r0 r1 r2 r3 r4 r5 r6 hI4 HPOST hd
                go_wp2_with fail
                go_meet
                case rel => exact RX.out
              · have hd0 : s.drop = 0 := by have := HS.out.2.1.2.2.2.1; omega
                have HD : Hid (s.drop = 0) := hd0
                have hl1 : 0 ≤ s.last ∧ s.last < 18446744073709551615 := by have h0 := HS.out.2.1.2.2.2.2.1; have h1 := HS.out.2.1.2.2.2.2.2; have h2 := HS.out.2.2.2.2.2; omega
                have htm : s.tm ≤ 9223372036854775807 := HS.out.2.1.2.2.1
                rw [hd0] at n5 N7
                clear hd0 hd
                have HT : Hid (Calls Try.prog 10 #[.slice none 0 s.cfg.cap] u.drew fun e w' => e = .returned (.slice none 0 0) ∧ S7' pp s.cl s.seq s.tm s.ent (.slice none 0 s.cfg.cap) 0 s.last w' ∧
                    Hid (Calls Try.prog 12 #[.pointer (some ⟨sb, 0, none⟩), .string s.cl, .int .u64 s.seq, .int .i64 s.tm, .int .i64 s.ent, .slice none 0 0, .int .u64 0, .int .u64 s.last] w' fun e w'' => e = .returned (.int .i64 (if (tookL L s.cl s.seq s.ent (s.last + 1) (max now s.tm)).1 then s.ent else 0)) ∧ S7' pp s.cl s.seq s.tm s.ent (.slice none 0 s.cfg.cap) 0 s.last w'' ∧
                      Hid (∃ F', InvR w2 sb w'' F' ((tookL L s.cl s.seq s.ent (s.last + 1) (max now s.tm)).2.dropWhile (oldL (max now s.tm))) (max now s.tm) mf cfg ma mc cfg xa xc cs ka kc))) := by
                  refine (toConfig_c none s.cfg.cap [] u.drew (by simp) (fun i m hi => by simp at hi) (fun _ => rfl)).mono ?_
                  rintro e w' ⟨v, rfl, ho, hn, hg⟩
                  have I1 := (MD.out.1.grow g1).grow hg
                  have s7 : S7' pp s.cl s.seq s.tm s.ent (.slice none 0 s.cfg.cap) 0 s.last w' := S7'.kept (w := u.drew) N7.out hg
                  refine ⟨by rw [hn.2 rfl], s7, ?_⟩
                  have hL := MD.out.2.2.1
                  refine (zztake_req I1.rs s.seq s.tm s.ent s.last HS.out.2.1.2.1 htm (by have : maxLen = 9223372036854775807 := rfl; omega) (by omega) (by omega) hl1.1 hl1.2).mono ?_
                  rintro e w'' ⟨he, hcu⟩
                  have hT : Turn F w' w'' := by obtain ⟨_, _, ht, _⟩ := hcu.out; exact ht
                  exact ⟨he, s7.turn hT hpn, I1.taken (hcu.out.toC I1.c5 I1.c6) ⟨by omega, by omega⟩⟩
                obtain ⟨res, hres⟩ : ∃ res : Int, (if (tookL L s.cl s.seq s.ent (s.last + 1) (max now s.tm)).1 then s.ent else 0) = res := ⟨_, rfl⟩
                have HRES : Hid ((if (tookL L s.cl s.seq s.ent (s.last + 1) (max now s.tm)).1 then s.ent else 0) = res) := hres
                rw [hres] at HT
                clear hres hl1 htm
                go_region_held3 (fun w' => w'.cell? ⟨pp, 0, none⟩ = some (.string s.cl) ∧ w'.cell? ⟨pp, 1, none⟩ = some (.int .u64 s.seq) ∧ w'.cell? ⟨pp, 2, none⟩ = some (.int .i64 s.tm) ∧ w'.cell? ⟨pp, 3, none⟩ = some (.int .i64 s.ent) ∧ w'.cell? ⟨pp, 4, none⟩ = some (.slice none 0 s.cfg.cap) ∧ w'.cell? ⟨pp, 5, none⟩ = some (.int .u64 0) ∧ w'.cell? ⟨pp, 6, none⟩ = some (.int .u64 s.last)) (go_keep) (first | (go_at_call 10; refine Calls.mono HT.out ?_; rintro e3 w3 ⟨rfl, ⟨q0, q1, q2, q3, q4, q5, q6⟩, HT12⟩) | (go_at_call 12; refine Calls.mono HT12.out ?_; rintro e4 w4 ⟨rfl, ⟨r0, r1, r2, r3, r4, r5, r6⟩, HPOST⟩))
                clear HT HT12 q0 q1 q2 q3 q4 q5 q6 n0 n1 n2 n3 n4 n5 n6
                obtain ⟨F', hI4⟩ := HPOST.out
                have R7 : Hid (S7' pp s.cl s.seq s.tm s.ent (.slice s.cfg.a s.cfg.ms.length s.cfg.cap) s.drop s.last w4) := by
                  rw [HSA.out.1, HSA.out.2, HD.out]
                  exact ⟨r0, r1, r2, r3, r4, r5, r6⟩
                have RX : Hid (∃ res' F' L' now' mf' cl' xa' xc', Value.int .i64 res = .int .i64 res' ∧ S7' pp s.cl s.seq s.tm s.ent (.slice s.cfg.a s.cfg.ms.length s.cfg.cap) s.drop s.last w4 ∧ InvR w2 sb w4 F' L' now' mf' cfg ma mc cl' xa' xc' cs ka kc ∧ Stp s L now mf cfg xa xc res' L' now' mf' cl' xa' xc') := ⟨res, F', _, _, mf, cfg, xa, xc, rfl, R7.out, hI4, .inr (.inr ⟨HSA.out.1, HD.out, HRES.out, rfl, rfl, rfl, rfl, rfl, rfl⟩)⟩
                clear r0 r1 r2 r3 r4 r5 r6 hI4 HPOST
                go_wp2_with fail
                go_meet
                case rel => exact RX.out
          case rest =>
            obtain ⟨res, F', L', now', mf', cl', xa', xc', rfl, h7, hI4, hstp⟩ := hcut
            have R7 : Hid (S7' pp s.cl s.seq s.tm s.ent (.slice s.cfg.a s.cfg.ms.length s.cfg.cap) s.drop s.last wc) := h7
            have I4 : Hid (InvR w2 sb wc F' L' now' mf' cfg ma mc cl' xa' xc' cs ka kc) := hI4
            have HST : Hid (Stp s L now mf cfg xa xc res L' now' mf' cl' xa' xc') := hstp
            clear h7 hI4 hstp
            have r4 := R7.out.2.2.2.2.1
            have hneq := neq22 wc s.cfg.a s.cfg.ms.length s.cfg.cap
            go_upto_if 89 with fail
            go_cut [8, 9, 10, 11, 12, 16, 17, 18, 19, 20, 21, 22, 23, 24, 25] from 87 to 206 (fun a8 a9 a10 a11 a12 a16 _ _ _ _ _ _ _ _ _ wx => a16 = .int .i64 res ∧ InvA w2 sb (k + 1) wx a8 a9 a10 a11 a12)
            case first =>
              obtain ⟨w4, hw4⟩ : ∃ w4, w4 = wc := ⟨_, rfl⟩
              subst hw4
              clear hneq
              rcases HST.out with ⟨⟨ad, hsa⟩, rfl, rfl, rfl, rfl, rfl, xad, rfl⟩ | ⟨hsa, hd, rfl, rfl, rfl, hmf, rfl, rfl, rfl⟩ | ⟨hsa, hd0, hres, hL, hnow, rfl, rfl, rfl, rfl⟩
              · as_aux_lemma =>
                  have HSA : Hid (s.cfg.a = some ad) := hsa
                  have hbs : s.cfg.a.isSome = true := by rw [hsa]; rfl
                  rw [hbs]
                  rw [hsa] at r4
                  clear hsa hbs
                  obtain ⟨i0, hi, hz, hsz, hby⟩ := info37
                  obtain ⟨w5, hmk, hown5, hg5⟩ := run_make_full (P := Try.prog) w4 w4.heap.size 22 37 i0 _ 2 Try.underlying22 hi hz hsz .i64 .i64 s.cfg.ms.length (by rw [hby]; omega) (by have : maxLen = 9223372036854775807 := rfl; omega) (Nat.le_refl _)
                  have P5 : Hid (Part w4.heap.size 37 w5 w4.heap.size s.cfg.ms.length (reach s.cfg.ms cfg) 0 ∧ w4.grownBy w5 none) := ⟨⟨_, hown5, fun i m h => by omega⟩, hg5⟩
                  have R4 : Hid (w4.cell? ⟨pp, 4, none⟩ = some (.slice (some ad) s.cfg.ms.length s.cfg.cap)) := r4
                  clear hi hz hsz hby hown5 hg5
                  go_wp2_with fail
                  clear hmk r4
                  obtain ⟨g, hgeq⟩ : ∃ g, w4.heap.size = g := ⟨_, rfl⟩
                  have HG : Hid (w4.heap.size = g) := hgeq
                  rw [hgeq] at P5 ⊢
                  clear hgeq
                  go_loopg [18] s.cfg.ms.length (fun gg i wi => ∃ j : Nat, j ≤ s.cfg.ms.length ∧ gg = s.cfg.ms.length - j ∧ i = .int .i64 j ∧ Part g 37 wi g s.cfg.ms.length (reach s.cfg.ms cfg) j ∧ w4.grownBy wi none)
                  case atStart => exact ⟨0, Nat.zero_le _, rfl, rfl, P5.out.1, P5.out.2⟩
                  case round =>
                    obtain ⟨j, hj, hjg, rfl, hpart, hgi⟩ := hrel
                    have MJ : Hid (Part g 37 wr g s.cfg.ms.length (reach s.cfg.ms cfg) j ∧ w4.grownBy wr none ∧ gk = s.cfg.ms.length - j) := ⟨hpart, hgi, hjg⟩
                    have e4 : wr.cell? ⟨pp, 4, none⟩ = some (.slice (some ad) s.cfg.ms.length s.cfg.cap) := hgi.cell R4.out (by simp)
                    clear hpart hgi hjg
                    by_cases hjl : j < s.cfg.ms.length
                    · obtain ⟨m, hm⟩ : ∃ m, s.cfg.ms[j]? = some m := ⟨s.cfg.ms[j], List.getElem?_eq_getElem hjl⟩
                      have HM : Hid (s.cfg.ms[j]? = some m) := hm
                      have hms : MsAt w2 (some ad) s.cfg.ms := by have h := HS.out.2.1.1.1; rw [HSA.out] at h; exact h
                      obtain ⟨bb, ob, ea, d0, d1⟩ := (hms j m hm).kept (grown_trans I4.out.gr MJ.out.2.1)
                      cases ea
                      clear hm hms
                      have hgb := World.grownBy_alloc wr (Obj.cells #[.int .i64 m.1, .string m.2] 37) none
                      go_wp2_with fail
                      have b0 : (wr.alloc (Obj.cells #[.int .i64 m.1, .string m.2] 37)).cell? ⟨wr.heap.size, 0, none⟩ = some (.int .i64 m.1) := World.cell?_alloc_at _ _ _ _ rfl
                      generalize wr.alloc (Obj.cells #[.int .i64 m.1, .string m.2] 37) = wb at *
                      obtain ⟨bx0, hbx0⟩ : ∃ bx0, wr.heap.size = bx0 := ⟨_, rfl⟩
                      rw [hbx0] at b0 ⊢
                      clear hbx0
                      have GB : Hid (wr.grownBy wb none ∧ w2.grownBy wb none) := ⟨hgb, grown_trans (grown_trans I4.out.gr MJ.out.2.1) hgb⟩
                      clear hgb e4 d0 d1
                      have MM : Hid (MsAt wb ma cfg) := by
                        obtain ⟨a, c, e, h⟩ := I4.out.own.slice
                        cases e
                        exact (h.kept MJ.out.2.1).kept GB.out.1
                      have PB : Hid (Part g 37 wb g s.cfg.ms.length (reach s.cfg.ms cfg) j ∧ w4.grownBy wb none) := by
                        refine ⟨?_, grown_trans MJ.out.2.1 GB.out.1⟩
                        obtain ⟨xs, h1, h2⟩ := MJ.out.1
                        exact ⟨xs, World.ownsRow.kept h1 GB.out.1 (.inr (by simp [Value.ownBlock])), h2⟩
                      go_loopg [20, 21] cfg.length (fun gg av i wj => ∃ z : Nat, z ≤ cfg.length ∧ gg = cfg.length - z ∧ i = .int .i64 z ∧ av = .string m.2 ∧ (∀ jj x, jj < z → cfg[jj]? = some x → ¬ x.1 = m.1) ∧ ∃ n, wj = wb.drewN n)
                      case atStart => exact ⟨0, Nat.zero_le _, rfl, rfl, rfl, fun jj x h => by omega, 0, rfl⟩
                      case round =>
                        obtain ⟨z, hzl, hzg, rfl, rfl, hno, n9, hwr⟩ := hrel
                        have MZ : Hid ((∀ jj x, jj < z → cfg[jj]? = some x → ¬ x.1 = m.1) ∧ gk = cfg.length - z ∧ wr = wb.drewN n9) := ⟨hno, hzg, hwr⟩
                        have PZ : Hid (Part g 37 wr g s.cfg.ms.length (reach s.cfg.ms cfg) j ∧ w4.grownBy wr none ∧ MsAt wr ma cfg) := by
                          rw [hwr]
                          exact ⟨PB.out.1, grown_drewN PB.out.2 n9, MM.out⟩
                        have y0 : wr.cell? ⟨bx0, 0, none⟩ = some (.int .i64 m.1) := by rw [hwr]; exact b0
                        obtain ⟨uu0, x0⟩ := PZ.out.1.cells (j * 2) (by omega)
                        obtain ⟨uu1, x1⟩ := PZ.out.1.cells (j * 2 + 1) (by omega)
                        have f0 := PZ.out.1.frozen
                        clear hno hzg hwr
                        by_cases hlz : z < cfg.length
                        · obtain ⟨x, hx⟩ : ∃ x, cfg[z]? = some x := ⟨cfg[z], List.getElem?_eq_getElem hlz⟩
                          have HX : Hid (cfg[z]? = some x) := hx
                          obtain ⟨bx, ox, ea, d0, d1⟩ := PZ.out.2.2 z x hx
                          have EA : Hid (ma = some ⟨bx, ox, none⟩) := ea
                          cases ea
                          clear hx
                          by_cases he : x.1 = m.1
                          · have HLK : Hid (look cfg m.1 = some x.2) := look_hit HX.out he MZ.out.1
                            have he1 : (x.1 == m.1) = true := by simpa using he
                            clear he
                            go_wp2_with fail
                            go_quiet (fail)
                            go_wp2_with fail
                            go_roundg (s.cfg.ms.length - (j + 1))
                            case measure => have := MJ.out.2.2; omega
                            case rel =>
                              have hge : w4.heap.size ≤ g := by rw [HG.out]; omega
                              have hr : (reach s.cfg.ms cfg)[j]? = some (m.1, x.2) := by
                                unfold reach
                                rw [List.getElem?_map, HM.out]
                                show some (rch cfg m) = _
                                unfold rch
                                rw [HLK.out]
                                rfl
                              exact ⟨j + 1, by omega, rfl, by go_num, (PZ.out.1).lay hr (reach_length _ _).symm, grown_set (grown_set (grown_drewN PZ.out.2.1 _) hge _) hge _⟩
                          · have HNX : Hid (¬ x.1 = m.1) := he
                            have he1 : (x.1 == m.1) = false := by simpa using he
                            clear he
                            go_wp2_with fail
                            go_quiet (fail)
                            go_wp2_with fail
                            go_roundg (cfg.length - (z + 1))
                            case measure => have := MZ.out.2.1; omega
                            case rel =>
                              refine ⟨z + 1, by omega, rfl, by go_num, rfl, fun jj y hjj hy => ?_, n9 + nq, ?_⟩
                              · by_cases e : jj = z
                                · subst e
                                  rw [HX.out] at hy
                                  cases hy
                                  exact HNX.out
                                · exact MZ.out.1 jj y (by omega) hy
                              · rw [MZ.out.2.2]
                                show ({ wb with drawn := wb.drawn + n9 + nq } : World) = { wb with drawn := wb.drawn + (n9 + nq) }
                                rw [Nat.add_assoc]
                        · have HLK : Hid (look cfg m.1 = none) := look_miss (fun jj y hjj hy => MZ.out.1 jj y (by omega) hy)
                          go_wp2_with fail
                          go_roundg (s.cfg.ms.length - (j + 1))
                          case measure => have := MJ.out.2.2; omega
                          case rel =>
                            have hge : w4.heap.size ≤ g := by rw [HG.out]; omega
                            have hr : (reach s.cfg.ms cfg)[j]? = some (m.1, m.2) := by
                              unfold reach
                              rw [List.getElem?_map, HM.out]
                              show some (rch cfg m) = _
                              unfold rch
                              rw [HLK.out]
                              rfl
                            exact ⟨j + 1, by omega, rfl, by go_num, PZ.out.1.lay hr (reach_length _ _).symm, grown_set (grown_set PZ.out.2.1 hge _) hge _⟩
                    · have hjl2 : j = s.cfg.ms.length := by omega
                      have hrl : (reach s.cfg.ms cfg).length = s.cfg.ms.length := reach_length _ _
                      have hP : Own g 37 wr (.slice (some ⟨g, 0, none⟩) (reach s.cfg.ms cfg).length (reach s.cfg.ms cfg).length) (reach s.cfg.ms cfg) := by
                        have h := MJ.out.1
                        rw [hjl2, ← hrl] at h
                        exact h.all
                      have RX : Hid (InvA w2 sb (k + 1) wr (.slice (some ⟨g, 0, none⟩) s.cfg.ms.length s.cfg.ms.length) (.bool true) (.int .u64 mf) (.int .i64 now) (.slice ka cs.length kc)) := by
                        have hge : w2.heap.size ≤ g := by rw [← HG.out]; exact I4.out.gr.size
                        refine ⟨F', L, cs, reach s.cfg.ms cfg, now, mf, some ⟨g, 0, none⟩, (reach s.cfg.ms cfg).length, some xad, xc', ka, kc, by rw [hrl], rfl, rfl, rfl, rfl, (I4.out.grow MJ.out.2.1).members (hP.base hge) (I4.out.fresh (w' := wr) (by rw [HG.out]; exact hP)) (by rw [hrl]; exact HS.out.2.2.2.1), MD.out.2.1, by have := MD.out.2.2.1; omega, by have := MD.out.2.2.2.1; omega⟩
                      clear hP hrl
                      subst hjl2
                      go_wp2_with fail
                      go_meet
                      case rel => exact ⟨rfl, RX.out⟩
              · as_aux_lemma =>
                  subst hmf
                  have hbs : s.cfg.a.isSome = false := by rw [hsa]; rfl
                  rw [hbs]
                  clear hbs
                  have hl1 : s.last < 18446744073709551615 := by have h1 := HS.out.2.1.2.2.2.2.2; have h2 := HS.out.2.2.2.2.2; omega
                  have r5 := R7.out.2.2.2.2.2.1
                  have r6 := R7.out.2.2.2.2.2.2
                  clear hsa
                  by_cases hdl : s.drop ≤ s.last
                  · have hwd : IntKind.u64.wrap (s.drop + 1) = s.drop + 1 := IntWalk.u64_in _ ⟨by omega, by omega⟩
                    have hd1 : decide (s.drop ≤ s.last) = true := decide_eq_true hdl
                    by_cases hgt : mf < s.drop + 1
                    · have hd2 : decide (mf < s.drop + 1) = true := decide_eq_true hgt
                      have INV : Hid (InvR w2 sb w4 F' L now (s.drop + 1) cfg ma mc cfg xa xc cs ka kc ∧ Sim L cs now ∧ L.length ≤ k + 1 ∧ cs.length ≤ k + 1) := by
                        have h := I4.out
                        rw [show (if s.drop ≤ s.last then max mf (s.drop + 1) else mf) = (s.drop + 1) from by rw [if_pos hdl]; omega] at h
                        exact ⟨h, MD.out.2.1, by have := MD.out.2.2.1; omega, by have := MD.out.2.2.2.1; omega⟩
                      have RX : Hid (InvA w2 sb (k + 1) w4 (.slice ma cfg.length mc) (.bool xa.isSome) (.int .u64 (s.drop + 1)) (.int .i64 now) (.slice ka cs.length kc)) := ⟨_, _, _, _, _, _, _, _, _, _, _, _, rfl, rfl, rfl, rfl, rfl, INV.out.1, INV.out.2⟩
                      go_wp2_with fail
                      go_meet
                      case rel => exact ⟨rfl, RX.out⟩
                    · have hd2 : decide (mf < s.drop + 1) = false := decide_eq_false hgt
                      have INV : Hid (InvR w2 sb w4 F' L now mf cfg ma mc cfg xa xc cs ka kc ∧ Sim L cs now ∧ L.length ≤ k + 1 ∧ cs.length ≤ k + 1) := by
                        have h := I4.out
                        rw [show (if s.drop ≤ s.last then max mf (s.drop + 1) else mf) = mf from by rw [if_pos hdl]; omega] at h
                        exact ⟨h, MD.out.2.1, by have := MD.out.2.2.1; omega, by have := MD.out.2.2.2.1; omega⟩
                      have RX : Hid (InvA w2 sb (k + 1) w4 (.slice ma cfg.length mc) (.bool xa.isSome) (.int .u64 mf) (.int .i64 now) (.slice ka cs.length kc)) := ⟨_, _, _, _, _, _, _, _, _, _, _, _, rfl, rfl, rfl, rfl, rfl, INV.out.1, INV.out.2⟩
                      go_wp2_with fail
                      go_meet
                      case rel => exact ⟨rfl, RX.out⟩
                  · have hd1 : decide (s.drop ≤ s.last) = false := decide_eq_false hdl
                    have INV : Hid (InvR w2 sb w4 F' L now mf cfg ma mc cfg xa xc cs ka kc ∧ Sim L cs now ∧ L.length ≤ k + 1 ∧ cs.length ≤ k + 1) := by
                      have h := I4.out
                      rw [show (if s.drop ≤ s.last then max mf (s.drop + 1) else mf) = mf from by rw [if_neg hdl]] at h
                      exact ⟨h, MD.out.2.1, by have := MD.out.2.2.1; omega, by have := MD.out.2.2.2.1; omega⟩
                    have RX : Hid (InvA w2 sb (k + 1) w4 (.slice ma cfg.length mc) (.bool xa.isSome) (.int .u64 mf) (.int .i64 now) (.slice ka cs.length kc)) := ⟨_, _, _, _, _, _, _, _, _, _, _, _, rfl, rfl, rfl, rfl, rfl, INV.out.1, INV.out.2⟩
                    go_wp2_with fail
                    go_meet
                    case rel => exact ⟨rfl, RX.out⟩
              · obtain ⟨nn, hnn0⟩ : ∃ nn, nn = now' := ⟨_, rfl⟩
                subst hnn0
                have hbs : s.cfg.a.isSome = false := by rw [hsa]; rfl
                rw [hbs]
                clear hbs
                have hl0 : s.cfg.ms.length = 0 := by rw [HS.out.2.1.1.2.1 hsa]; rfl
                have R7 : Hid (S7' pp s.cl s.seq s.tm s.ent (.slice none 0 s.cfg.cap) 0 s.last w4) := by
                  have h := R7.out
                  rw [hsa, hl0, hd0] at h
                  exact h
                obtain ⟨r0, r1, r2, r3, r4, r5, r6⟩ := R7.out
                have hl1 : 0 ≤ s.last ∧ s.last < 18446744073709551615 := by have h0 := HS.out.2.1.2.2.2.2.1; have h1 := HS.out.2.1.2.2.2.2.2; have h2 := HS.out.2.2.2.2.2; omega
                have htm : s.tm ≤ 9223372036854775807 := HS.out.2.1.2.2.1
                have HNN : Hid (max now s.tm = nn ∧ now ≤ nn ∧ 0 ≤ nn ∧ nn ≤ 9223372036854775807) := ⟨hnow, by omega, by omega, by omega⟩
                rw [hnow] at hres hL
                obtain ⟨tb, TL, htk⟩ : ∃ tb TL, tookL L s.cl s.seq s.ent (s.last + 1) nn = (tb, TL) := ⟨_, _, rfl⟩
                obtain ⟨mb', CL, hmk0⟩ : ∃ mb' CL, modC cs s.cl s.seq s.ent (s.last + 1) nn = (mb', CL) := ⟨_, _, rfl⟩
                have HSM : Hid (tb = mb' ∧ Sim TL CL nn ∧ TL.length ≤ k + 1 ∧ CL.length ≤ k + 1 ∧ modC cs s.cl s.seq s.ent (s.last + 1) nn = (mb', CL)) := by
                  have h := sim_took (MD.out.2.1.later HNN.out.2.1) HNN.out.2.2.1 s.cl s.seq s.ent (s.last + 1)
                  have l1 := took_length L s.cl s.seq s.ent (s.last + 1) nn
                  have l2 := modC_length cs s.cl s.seq s.ent (s.last + 1) nn
                  rw [htk, hmk0] at h
                  rw [htk] at l1
                  rw [hmk0] at l2
                  simp only at h l1 l2
                  exact ⟨h.1, h.2, by have := MD.out.2.2.1; omega, by have := MD.out.2.2.2.1; omega, hmk0⟩
                have HTK : Hid (tookL L s.cl s.seq s.ent (s.last + 1) nn = (tb, TL)) := htk
                rw [htk] at hres hL
                simp only at hres hL
                subst hL
                have HRES : Hid ((if tb then s.ent else 0) = res) := hres
                clear hres htk hmk0 hsa hl0 hd0 hnow
                go_upto_if 157 with fail
                go_cut [22] from 157 to 159 (fun a22 wx => a22 = .int .i64 nn ∧ w4 = wx)
                case first =>
                  by_cases hat : now < s.tm
                  · have HE22 : Hid (s.tm = nn) := by have := HNN.out.1; show s.tm = nn; omega
                    go_wp2_with fail
                    go_meet
                    case rel => exact ⟨by rw [HE22.out], rfl⟩
                  · have HE22 : Hid (now = nn) := by have := HNN.out.1; show now = nn; omega
                    go_wp2_with fail
                    go_meet
                    case rel => exact ⟨by rw [HE22.out], rfl⟩
                case rest =>
                  obtain ⟨e22, hwc⟩ := hcut
                  subst e22
                  subst hwc
                  by_cases hcl : s.cl = ByteArray.empty
                  · as_aux_lemma =>
                      have hm := HSM.out.2.2.2.2
                      unfold modC at hm
                      rw [if_pos hcl] at hm
                      injection hm with hm1 hm2
                      subst hm1 hm2
                      have hte := empty_toList
                      rw [hcl] at r0
                      clear hcl
                      have Y4 := R7.out.2.2.2.1
                      have I4' := I4.out
                      go_wp2_with fail
                      clear hte r0 r1 r2 r3 r4 r5 r6
                      have HQ : Hid (InvR w2 sb w4 F' (TL.dropWhile (oldL nn)) nn mf cfg ma mc cfg xa xc cs ka kc) := I4'
                      have E3 : Hid (w4.cell? ⟨pp, 3, none⟩ = some (.int .i64 s.ent)) := Y4
                      clear Y4 I4'
                      refine (prune_c ka kc cs nn w4 (by have := HSM.out.2.2.2.1; omega) (by obtain ⟨a, c, e, h⟩ := HQ.out.ownC.slice; cases e; exact h) HNN.out.2.2.1 HNN.out.2.2.2 (fun c hc => HSM.out.2.1.tms c ((HSM.out.2.1.mem c).2 hc))).mono ?_
                      rintro e9 w9 ⟨v9, rfl, ho9, hg9⟩
                      obtain ⟨pa9, pc9, rfl, -⟩ := ho9.slice
                      have INV : Hid (InvR w2 sb w9 F' (TL.dropWhile (oldL nn)) nn mf cfg ma mc cfg xa xc (prn cs nn) pa9 pc9 ∧ Sim (TL.dropWhile (oldL nn)) (prn cs nn) nn ∧ (TL.dropWhile (oldL nn)).length ≤ k + 1 ∧ (prn cs nn).length ≤ k + 1) := by
                        have ho : w9.ownsRow w4.heap.size 40 5 (.slice pa9 (prn cs nn).length pc9) (prn cs nn).length (flatC (prn cs nn)) := ho9
                        have ho2 : OwnC w2.heap.size w9 (.slice pa9 (prn cs nn).length pc9) (prn cs nn) := by
                          obtain ⟨h1, h2 | ⟨g, cap, cur, r1, r2, r⟩⟩ := ho
                          · exact ⟨h1, .inl h2⟩
                          · exact ⟨h1, .inr ⟨g, cap, cur, r1, Nat.le_trans HQ.out.gr.size r2, r⟩⟩
                        refine ⟨(HQ.out.grow hg9).clients ho2 (HQ.out.fresh ho), HSM.out.2.1.prune _ rfl, Nat.le_trans (drop_length _ _) HSM.out.2.2.1, Nat.le_trans (prn_length _ _) HSM.out.2.2.2.1⟩
                      have y3 : w9.cell? ⟨pp, 3, none⟩ = some (.int .i64 s.ent) := hg9.cell E3.out (by simp)
                      have hres : res = s.ent := by
                        have h := HRES.out
                        rw [HSM.out.1] at h
                        simpa using h.symm
                      subst hres
                      clear ho9 hg9
                      have RX : Hid (InvA w2 sb (k + 1) w9 (.slice ma cfg.length mc) (.bool xa.isSome) (.int .u64 mf) (.int .i64 nn) (.slice pa9 (prn cs nn).length pc9)) := ⟨_, _, _, _, _, _, _, _, _, _, _, _, rfl, rfl, rfl, rfl, rfl, INV.out.1, INV.out.2⟩
                      go_wp2_with fail
                      go_meet
                      case rel => exact ⟨rfl, RX.out⟩
                  · have hte := str_empty hcl
                    have hte2 : s.cl.toList.isEmpty = false := by simpa using hte
                    have HCL : Hid (¬ s.cl = ByteArray.empty) := hcl
                    clear hcl
                    go_wp2_with fail
                    refine (findClient_c ka kc cs s.cl w4 (by omega) (by obtain ⟨a, c, e, h⟩ := I4.out.ownC.slice; cases e; exact h)).mono ?_
                    rintro e5 w5 ⟨rfl, hw5⟩
                    subst hw5
                    clear hte hte2
                    have hwl : IntKind.u64.wrap (s.last + 1) = s.last + 1 := IntWalk.u64_in _ ⟨by omega, by omega⟩
                    cases hf : fnd cs s.cl with
                    | none =>
                      have hm := HSM.out.2.2.2.2
                      unfold modC at hm
                      rw [if_neg HCL.out, hf] at hm
                      simp only at hm
                      injection hm with hm1 hm2
                      subst hm1
                      have HC2 : Hid (cs ++ [(⟨s.cl, s.seq, s.last + 1, s.ent, nn⟩ : Cl)] = CL) := hm2
                      clear hm2
                      simp only [idxVal]
                      clear hf
                      go_wp2_with fail
                      go_quiet (fail)
                      have ID : Hid (InvR w2 sb (w5.drewN nq) F' (TL.dropWhile (oldL nn)) nn mf cfg ma mc cfg xa xc cs ka kc ∧ S7' pp s.cl s.seq s.tm s.ent (.slice none 0 s.cfg.cap) 0 s.last (w5.drewN nq)) := ⟨I4.out.grow (grown_drewN (grown_refl _) nq), R7.out⟩
                      clear r0 r1 r2 r3 r4 r5 r6
                      generalize w5.drewN nq = wd at *
                      obtain ⟨r0, r1, r2, r3, r4, r5, r6⟩ := ID.out.2
                      have hgA := World.grownBy_alloc wd (Obj.cells #[.string s.cl, .int .u64 s.seq, .int .u64 (s.last + 1), .int .i64 s.ent, .int .i64 nn] 40) none
                      go_upto_region 48 with fail
                      have z0 : (wd.alloc (Obj.cells #[.string s.cl, .int .u64 s.seq, .int .u64 (s.last + 1), .int .i64 s.ent, .int .i64 nn] 40)).cell? ⟨wd.heap.size, 0, none⟩ = some (.string s.cl) := World.cell?_alloc_at _ _ _ _ rfl
                      have z1 : (wd.alloc (Obj.cells #[.string s.cl, .int .u64 s.seq, .int .u64 (s.last + 1), .int .i64 s.ent, .int .i64 nn] 40)).cell? ⟨wd.heap.size, 1, none⟩ = some (.int .u64 s.seq) := World.cell?_alloc_at _ _ _ _ rfl
                      have z2 : (wd.alloc (Obj.cells #[.string s.cl, .int .u64 s.seq, .int .u64 (s.last + 1), .int .i64 s.ent, .int .i64 nn] 40)).cell? ⟨wd.heap.size, 2, none⟩ = some (.int .u64 (s.last + 1)) := World.cell?_alloc_at _ _ _ _ rfl
                      have z3 : (wd.alloc (Obj.cells #[.string s.cl, .int .u64 s.seq, .int .u64 (s.last + 1), .int .i64 s.ent, .int .i64 nn] 40)).cell? ⟨wd.heap.size, 3, none⟩ = some (.int .i64 s.ent) := World.cell?_alloc_at _ _ _ _ rfl
                      have z4 : (wd.alloc (Obj.cells #[.string s.cl, .int .u64 s.seq, .int .u64 (s.last + 1), .int .i64 s.ent, .int .i64 nn] 40)).cell? ⟨wd.heap.size, 4, none⟩ = some (.int .i64 nn) := World.cell?_alloc_at _ _ _ _ rfl
                      clear r0 r1 r2 r3 r4 r5 r6
                      generalize wd.alloc (Obj.cells #[.string s.cl, .int .u64 s.seq, .int .u64 (s.last + 1), .int .i64 s.ent, .int .i64 nn] 40) = wA at *
                      have IA : Hid (InvR w2 sb wA F' (TL.dropWhile (oldL nn)) nn mf cfg ma mc cfg xa xc cs ka kc ∧ S7' pp s.cl s.seq s.tm s.ent (.slice none 0 s.cfg.cap) 0 s.last wA) := ⟨ID.out.1.grow hgA, ID.out.2.kept hgA⟩
                      clear hgA
                      obtain ⟨i0, hi, hz, hsz, hby⟩ := info40
                      have HI : Hid (Try.prog.info? 40 = some i0 ∧ i0.zero = some (.agg #[.string ⟨#[]⟩, .int .u64 0, .int .u64 0, .int .i64 0, .int .i64 0]) ∧ i0.size = 5 ∧ i0.bytes = 48) := ⟨hi, hz, hsz, hby⟩
                      clear hi hz hsz hby
                      have hws : Hid (w2.heap.size ≤ wA.heap.size) := IA.out.1.gr.size
                      go_wp2_with (at_builtin; refine wpList_append_own _ rfl _ _ 32 rfl w2.heap.size 40 i0 _ 5 48 Try.underlying32 HI.out.1 HI.out.2.1 HI.out.2.2.1 HI.out.2.2.2 rfl (by omega) _ _ _ rfl (World.ownsRow.alloc IA.out.1.ownC _) ⟨wA.heap.size, 0, none⟩ 1 1 (cells5 (⟨s.cl, s.seq, s.last + 1, s.ent, nn⟩ : Cl)) rfl ?qc1 ?qc2 ?qc3 ?qc4 ?qc5 ?qc6 ?_)
                      case qc1 => rfl
                      case qc2 =>
                        intro jj u hjj
                        rw [Addr.add_lit, Nat.zero_add, World.cell?_alloc_at _ _ _ _ rfl, ← hjj]
                        simp [cells5]
                      case qc3 => exact cells5_one _
                      case qc4 => have : maxLen = 9223372036854775807 := rfl; omega
                      case qc5 => omega
                      case qc6 => have := hws.out; simp; omega
                      intro v' wq hown hgrow hnil
                      have hgB := World.grownBy_alloc wA (Obj.cells #[.string s.cl, .int .u64 s.seq, .int .u64 (s.last + 1), .int .i64 s.ent, .int .i64 nn] 40) none
                      have LQ : Hid (∃ ka' kc', v' = .slice ka' CL.length kc' ∧ InvR w2 sb wq F' (TL.dropWhile (oldL nn)) nn mf cfg ma mc cfg xa xc CL ka' kc' ∧ wq.cell? ⟨pp, 3, none⟩ = some (.int .i64 s.ent)) := by
                        have ho : OwnC w2.heap.size wq v' CL := by
                          rw [← HC2.out]
                          unfold OwnC
                          rw [List.length_append, flatC_append]
                          simpa [flatC] using hown
                        obtain ⟨ka', kc', rfl, -⟩ := ho.slice
                        have IB := IA.out.1.grow hgB
                        obtain ⟨c1, hc1⟩ : ∃ c1, CL[0]? = some c1 := by
                          rw [← HC2.out]
                          cases cs with
                          | nil => exact ⟨_, rfl⟩
                          | cons x y => exact ⟨_, rfl⟩
                        refine ⟨ka', kc', rfl, IB.turnC hgrow ho (IB.offC hgrow ho hc1), hgrow.cell (hgB.cell IA.out.2.2.2.2.1 (by simp)) ?_⟩
                        cases ka with
                        | none => simp [Value.ownBlock]
                        | some ak => exact fun e => HPK.out ak rfl (Option.some.inj e).symm
                      clear hgB hown hgrow hnil z0 z1 z2 z3 z4
                      obtain ⟨kaq, kcq, hvq, IQ0, YQ0⟩ := LQ.out
                      subst hvq
                      clear LQ
                      go_wp2_with fail
                      have HQ : Hid (InvR w2 sb wq F' (TL.dropWhile (oldL nn)) nn mf cfg ma mc cfg xa xc CL kaq kcq) := IQ0
                      have E3 : Hid (wq.cell? ⟨pp, 3, none⟩ = some (.int .i64 s.ent)) := YQ0
                      clear YQ0 IQ0
                      refine (prune_c kaq kcq CL nn wq (by have := HSM.out.2.2.2.1; omega) (by obtain ⟨a, c, e, h⟩ := HQ.out.ownC.slice; cases e; exact h) HNN.out.2.2.1 HNN.out.2.2.2 (fun c hc => HSM.out.2.1.tms c ((HSM.out.2.1.mem c).2 hc))).mono ?_
                      rintro e9 w9 ⟨v9, rfl, ho9, hg9⟩
                      obtain ⟨pa9, pc9, rfl, -⟩ := ho9.slice
                      have INV : Hid (InvR w2 sb w9 F' (TL.dropWhile (oldL nn)) nn mf cfg ma mc cfg xa xc (prn CL nn) pa9 pc9 ∧ Sim (TL.dropWhile (oldL nn)) (prn CL nn) nn ∧ (TL.dropWhile (oldL nn)).length ≤ k + 1 ∧ (prn CL nn).length ≤ k + 1) := by
                        have ho : w9.ownsRow wq.heap.size 40 5 (.slice pa9 (prn CL nn).length pc9) (prn CL nn).length (flatC (prn CL nn)) := ho9
                        have ho2 : OwnC w2.heap.size w9 (.slice pa9 (prn CL nn).length pc9) (prn CL nn) := by
                          obtain ⟨h1, h2 | ⟨g, cap, cur, r1, r2, r⟩⟩ := ho
                          · exact ⟨h1, .inl h2⟩
                          · exact ⟨h1, .inr ⟨g, cap, cur, r1, Nat.le_trans HQ.out.gr.size r2, r⟩⟩
                        refine ⟨(HQ.out.grow hg9).clients ho2 (HQ.out.fresh ho), HSM.out.2.1.prune _ rfl, Nat.le_trans (drop_length _ _) HSM.out.2.2.1, Nat.le_trans (prn_length _ _) HSM.out.2.2.2.1⟩
                      have y3 : w9.cell? ⟨pp, 3, none⟩ = some (.int .i64 s.ent) := hg9.cell E3.out (by simp)
                      have hres : res = s.ent := by
                        have h := HRES.out
                        rw [HSM.out.1] at h
                        simpa using h.symm
                      subst hres
                      clear ho9 hg9
                      have RX : Hid (InvA w2 sb (k + 1) w9 (.slice ma cfg.length mc) (.bool xa.isSome) (.int .u64 mf) (.int .i64 nn) (.slice pa9 (prn CL nn).length pc9)) := ⟨_, _, _, _, _, _, _, _, _, _, _, _, rfl, rfl, rfl, rfl, rfl, INV.out.1, INV.out.2⟩
                      go_wp2_with fail
                      go_meet
                      case rel => exact ⟨rfl, RX.out⟩
                    | some kk =>
                      obtain ⟨c, hck, hcid⟩ := fnd_some hf
                      have hkl := (List.getElem?_eq_some_iff.1 hck).1
                      have HC5 : Hid (cs[kk]? = some c) := hck
                      simp only [idxVal]
                      obtain ⟨gq, hka, q0, q1, q2, q3, q4, hfz, hrow⟩ : ∃ gq, ka = some ⟨gq, 0, none⟩ ∧ w5.cell? ⟨gq, kk * 5, none⟩ = some (.string c.id) ∧ w5.cell? ⟨gq, kk * 5 + 1, none⟩ = some (.int .u64 c.seq) ∧ w5.cell? ⟨gq, kk * 5 + 2, none⟩ = some (.int .u64 c.fst) ∧ w5.cell? ⟨gq, kk * 5 + 3, none⟩ = some (.int .i64 c.ent) ∧ w5.cell? ⟨gq, kk * 5 + 4, none⟩ = some (.int .i64 c.tm) ∧ (∀ o, w5.frozen? ⟨gq, o, none⟩ = false) ∧ True := by
                        have h0 : w5.ownsRow w2.heap.size 40 5 (.slice ka cs.length kc) cs.length (flatC cs) := I4.out.ownC
                        have h1 := h0
                        have hfl := flatC_get cs kk c hck
                        obtain ⟨_, ⟨e, hn⟩ | ⟨gq, cap, cur, e, _⟩⟩ := h0
                        · omega
                        · cases e
                          refine ⟨gq, rfl, ?_, ?_, ?_, ?_, ?_, fun o => h1.frozenAt o, trivial⟩
                          · rw [h1.cellAt _ (by omega)]; exact hfl 0 (by omega)
                          · rw [h1.cellAt _ (by omega)]; exact hfl 1 (by omega)
                          · rw [h1.cellAt _ (by omega)]; exact hfl 2 (by omega)
                          · rw [h1.cellAt _ (by omega)]; exact hfl 3 (by omega)
                          · rw [h1.cellAt _ (by omega)]; exact hfl 4 (by omega)
                      clear hrow
                      subst hka
                      have hk0 : decide ((0 : Int) ≤ (kk : Int)) = true := decide_eq_true (by omega)
                      have hkc : (kk : Int) < (cs.length : Int) := by omega
                      have hm := HSM.out.2.2.2.2
                      unfold modC at hm
                      rw [if_neg HCL.out, hf] at hm
                      simp only [hck, Option.map_some, Option.getD_some] at hm
                      clear hf hck hcid
                      by_cases hq : s.seq ≤ c.seq
                      · as_aux_lemma =>
                          rw [if_pos hq] at hm
                          injection hm with hm1 hm2
                          subst hm1 hm2
                          have hq1 : decide (s.seq ≤ c.seq) = true := decide_eq_true hq
                          go_wp2_with fail
                          go_quiet (fail)
                          have ID : Hid (InvR w2 sb (w5.drewN nq) F' (TL.dropWhile (oldL nn)) nn mf cfg ma mc cfg xa xc cs (some ⟨gq, 0, none⟩) kc ∧ S7' pp s.cl s.seq s.tm s.ent (.slice none 0 s.cfg.cap) 0 s.last (w5.drewN nq)) := ⟨I4.out.grow (grown_drewN (grown_refl _) nq), R7.out⟩
                          clear r0 r1 r2 r3 r4 r5 r6 q0 q1 q2 q3 q4 hfz
                          generalize w5.drewN nq = wd at *
                          have IQ0 := ID.out.1
                          have YQ0 := ID.out.2.2.2.2.1
                          go_wp2_with fail
                          have HQ : Hid (InvR w2 sb wd F' (TL.dropWhile (oldL nn)) nn mf cfg ma mc cfg xa xc cs (some ⟨gq, 0, none⟩) kc) := IQ0
                          have E3 : Hid (wd.cell? ⟨pp, 3, none⟩ = some (.int .i64 s.ent)) := YQ0
                          clear YQ0 IQ0
                          refine (prune_c (some ⟨gq, 0, none⟩) kc cs nn wd (by have := HSM.out.2.2.2.1; omega) (by obtain ⟨a, c, e, h⟩ := HQ.out.ownC.slice; cases e; exact h) HNN.out.2.2.1 HNN.out.2.2.2 (fun c hc => HSM.out.2.1.tms c ((HSM.out.2.1.mem c).2 hc))).mono ?_
                          rintro e9 w9 ⟨v9, rfl, ho9, hg9⟩
                          obtain ⟨pa9, pc9, rfl, -⟩ := ho9.slice
                          have INV : Hid (InvR w2 sb w9 F' (TL.dropWhile (oldL nn)) nn mf cfg ma mc cfg xa xc (prn cs nn) pa9 pc9 ∧ Sim (TL.dropWhile (oldL nn)) (prn cs nn) nn ∧ (TL.dropWhile (oldL nn)).length ≤ k + 1 ∧ (prn cs nn).length ≤ k + 1) := by
                            have ho : w9.ownsRow wd.heap.size 40 5 (.slice pa9 (prn cs nn).length pc9) (prn cs nn).length (flatC (prn cs nn)) := ho9
                            have ho2 : OwnC w2.heap.size w9 (.slice pa9 (prn cs nn).length pc9) (prn cs nn) := by
                              obtain ⟨h1, h2 | ⟨g, cap, cur, r1, r2, r⟩⟩ := ho
                              · exact ⟨h1, .inl h2⟩
                              · exact ⟨h1, .inr ⟨g, cap, cur, r1, Nat.le_trans HQ.out.gr.size r2, r⟩⟩
                            refine ⟨(HQ.out.grow hg9).clients ho2 (HQ.out.fresh ho), HSM.out.2.1.prune _ rfl, Nat.le_trans (drop_length _ _) HSM.out.2.2.1, Nat.le_trans (prn_length _ _) HSM.out.2.2.2.1⟩
                          have y3 : w9.cell? ⟨pp, 3, none⟩ = some (.int .i64 s.ent) := hg9.cell E3.out (by simp)
                          have hres : res = 0 := by
                            have h := HRES.out
                            rw [HSM.out.1] at h
                            simpa using h.symm
                          subst hres
                          clear ho9 hg9
                          have RX : Hid (InvA w2 sb (k + 1) w9 (.slice ma cfg.length mc) (.bool xa.isSome) (.int .u64 mf) (.int .i64 nn) (.slice pa9 (prn cs nn).length pc9)) := ⟨_, _, _, _, _, _, _, _, _, _, _, _, rfl, rfl, rfl, rfl, rfl, INV.out.1, INV.out.2⟩
                          go_wp2_with fail
                          go_meet
                          case rel => exact ⟨rfl, RX.out⟩
                      · as_aux_lemma =>
                          rw [if_neg hq] at hm
                          injection hm with hm1 hm2
                          subst hm1 hm2
                          have hq1 : decide (s.seq ≤ c.seq) = false := decide_eq_false hq
                          go_wp2_with fail
                          go_quiet (fail)
                          have ID : Hid (InvR w2 sb (w5.drewN nq) F' (TL.dropWhile (oldL nn)) nn mf cfg ma mc cfg xa xc cs (some ⟨gq, 0, none⟩) kc ∧ S7' pp s.cl s.seq s.tm s.ent (.slice none 0 s.cfg.cap) 0 s.last (w5.drewN nq)) := ⟨I4.out.grow (grown_drewN (grown_refl _) nq), R7.out⟩
                          clear r0 r1 r2 r3 r4 r5 r6 q0 q1 q2 q3 q4 hfz
                          generalize w5.drewN nq = wd at *
                          obtain ⟨r0, r1, r2, r3, r4, r5, r6⟩ := ID.out.2
                          have hgA := World.grownBy_alloc wd (Obj.cells #[.string s.cl, .int .u64 s.seq, .int .u64 (s.last + 1), .int .i64 s.ent, .int .i64 nn] 40) none
                          go_upto_region 47 with fail
                          have z0 : (wd.alloc (Obj.cells #[.string s.cl, .int .u64 s.seq, .int .u64 (s.last + 1), .int .i64 s.ent, .int .i64 nn] 40)).cell? ⟨wd.heap.size, 0, none⟩ = some (.string s.cl) := World.cell?_alloc_at _ _ _ _ rfl
                          have z1 : (wd.alloc (Obj.cells #[.string s.cl, .int .u64 s.seq, .int .u64 (s.last + 1), .int .i64 s.ent, .int .i64 nn] 40)).cell? ⟨wd.heap.size, 1, none⟩ = some (.int .u64 s.seq) := World.cell?_alloc_at _ _ _ _ rfl
                          have z2 : (wd.alloc (Obj.cells #[.string s.cl, .int .u64 s.seq, .int .u64 (s.last + 1), .int .i64 s.ent, .int .i64 nn] 40)).cell? ⟨wd.heap.size, 2, none⟩ = some (.int .u64 (s.last + 1)) := World.cell?_alloc_at _ _ _ _ rfl
                          have z3 : (wd.alloc (Obj.cells #[.string s.cl, .int .u64 s.seq, .int .u64 (s.last + 1), .int .i64 s.ent, .int .i64 nn] 40)).cell? ⟨wd.heap.size, 3, none⟩ = some (.int .i64 s.ent) := World.cell?_alloc_at _ _ _ _ rfl
                          have z4 : (wd.alloc (Obj.cells #[.string s.cl, .int .u64 s.seq, .int .u64 (s.last + 1), .int .i64 s.ent, .int .i64 nn] 40)).cell? ⟨wd.heap.size, 4, none⟩ = some (.int .i64 nn) := World.cell?_alloc_at _ _ _ _ rfl
                          clear r0 r1 r2 r3 r4 r5 r6
                          generalize wd.alloc (Obj.cells #[.string s.cl, .int .u64 s.seq, .int .u64 (s.last + 1), .int .i64 s.ent, .int .i64 nn] 40) = wA at *
                          have IA : Hid (InvR w2 sb wA F' (TL.dropWhile (oldL nn)) nn mf cfg ma mc cfg xa xc cs (some ⟨gq, 0, none⟩) kc ∧ S7' pp s.cl s.seq s.tm s.ent (.slice none 0 s.cfg.cap) 0 s.last wA) := ⟨ID.out.1.grow hgA, ID.out.2.kept hgA⟩
                          clear hgA
                          have hrow : wA.ownsRow w2.heap.size 40 5 (.slice (some ⟨gq, 0, none⟩) cs.length kc) cs.length (flatC cs) := IA.out.1.ownC
                          have hfl := flatC_get cs kk c HC5.out
                          have q0 : wA.cell? ⟨gq, kk * 5, none⟩ = some (.string c.id) := by rw [hrow.cellAt _ (by omega)]; exact hfl 0 (by omega)
                          have q1 : wA.cell? ⟨gq, kk * 5 + 1, none⟩ = some (.int .u64 c.seq) := by rw [hrow.cellAt _ (by omega)]; exact hfl 1 (by omega)
                          have q2 : wA.cell? ⟨gq, kk * 5 + 2, none⟩ = some (.int .u64 c.fst) := by rw [hrow.cellAt _ (by omega)]; exact hfl 2 (by omega)
                          have q3 : wA.cell? ⟨gq, kk * 5 + 3, none⟩ = some (.int .i64 c.ent) := by rw [hrow.cellAt _ (by omega)]; exact hfl 3 (by omega)
                          have q4 : wA.cell? ⟨gq, kk * 5 + 4, none⟩ = some (.int .i64 c.tm) := by rw [hrow.cellAt _ (by omega)]; exact hfl 4 (by omega)
                          have hfz : ∀ o, wA.frozen? ⟨gq, o, none⟩ = false := fun o => hrow.frozenAt o
                          have LQ : Hid (InvR w2 sb (((((wA.setCell ⟨gq, kk * 5, none⟩ (.string s.cl)).setCell ⟨gq, kk * 5 + 1, none⟩ (.int .u64 s.seq)).setCell ⟨gq, kk * 5 + 2, none⟩ (.int .u64 (s.last + 1))).setCell ⟨gq, kk * 5 + 3, none⟩ (.int .i64 s.ent)).setCell ⟨gq, kk * 5 + 4, none⟩ (.int .i64 nn)) F' (TL.dropWhile (oldL nn)) nn mf cfg ma mc cfg xa xc (cs.set kk (⟨s.cl, s.seq, s.last + 1, s.ent, nn⟩ : Cl)) (some ⟨gq, 0, none⟩) kc ∧ (((((wA.setCell ⟨gq, kk * 5, none⟩ (.string s.cl)).setCell ⟨gq, kk * 5 + 1, none⟩ (.int .u64 s.seq)).setCell ⟨gq, kk * 5 + 2, none⟩ (.int .u64 (s.last + 1))).setCell ⟨gq, kk * 5 + 3, none⟩ (.int .i64 s.ent)).setCell ⟨gq, kk * 5 + 4, none⟩ (.int .i64 nn)).cell? ⟨pp, 3, none⟩ = some (.int .i64 s.ent)) := by
                            obtain ⟨a0, g0⟩ := hrow.stored (kk * 5) (.string s.cl)
                            obtain ⟨a1, g1⟩ := a0.stored (kk * 5 + 1) (.int .u64 s.seq)
                            obtain ⟨a2, g2⟩ := a1.stored (kk * 5 + 2) (.int .u64 (s.last + 1))
                            obtain ⟨a3, g3⟩ := a2.stored (kk * 5 + 3) (.int .i64 s.ent)
                            obtain ⟨a4, g4⟩ := a3.stored (kk * 5 + 4) (.int .i64 nn)
                            have gg := grown_b_trans2 (grown_b_trans2 (grown_b_trans2 (grown_b_trans2 g0 g1) g2) g3) g4
                            have hsl : (cs.set kk (⟨s.cl, s.seq, s.last + 1, s.ent, nn⟩ : Cl)).length = cs.length := List.length_set
                            have ho : OwnC w2.heap.size (((((wA.setCell ⟨gq, kk * 5, none⟩ (.string s.cl)).setCell ⟨gq, kk * 5 + 1, none⟩ (.int .u64 s.seq)).setCell ⟨gq, kk * 5 + 2, none⟩ (.int .u64 (s.last + 1))).setCell ⟨gq, kk * 5 + 3, none⟩ (.int .i64 s.ent)).setCell ⟨gq, kk * 5 + 4, none⟩ (.int .i64 nn)) (.slice (some ⟨gq, 0, none⟩) (cs.set kk (⟨s.cl, s.seq, s.last + 1, s.ent, nn⟩ : Cl)).length kc) (cs.set kk (⟨s.cl, s.seq, s.last + 1, s.ent, nn⟩ : Cl)) := by
                              unfold OwnC
                              rw [hsl, flatC_set cs kk (⟨s.cl, s.seq, s.last + 1, s.ent, nn⟩ : Cl) hkl]
                              exact a4
                            refine ⟨IA.out.1.turnC gg ho IA.out.1.offK, gg.cell IA.out.2.2.2.2.1 (fun e => HPK.out _ rfl (Option.some.inj e).symm)⟩
                          clear hrow hfl
                          go_wp2_with fail
                          clear z0 z1 z2 z3 z4 q0 q1 q2 q3 q4 hfz
                          generalize ((((wA.setCell ⟨gq, kk * 5, none⟩ (.string s.cl)).setCell ⟨gq, kk * 5 + 1, none⟩ (.int .u64 s.seq)).setCell ⟨gq, kk * 5 + 2, none⟩ (.int .u64 (s.last + 1))).setCell ⟨gq, kk * 5 + 3, none⟩ (.int .i64 s.ent)).setCell ⟨gq, kk * 5 + 4, none⟩ (.int .i64 nn) = wq at *
                          have IQ0 := LQ.out.1
                          have YQ0 := LQ.out.2
                          have HLS : Hid ((cs.set kk (⟨s.cl, s.seq, s.last + 1, s.ent, nn⟩ : Cl)).length = cs.length) := List.length_set
                          rw [← HLS.out]
                          have HQ : Hid (InvR w2 sb wq F' (TL.dropWhile (oldL nn)) nn mf cfg ma mc cfg xa xc (cs.set kk (⟨s.cl, s.seq, s.last + 1, s.ent, nn⟩ : Cl)) (some ⟨gq, 0, none⟩) kc) := IQ0
                          have E3 : Hid (wq.cell? ⟨pp, 3, none⟩ = some (.int .i64 s.ent)) := YQ0
                          clear YQ0 IQ0
                          refine (prune_c (some ⟨gq, 0, none⟩) kc (cs.set kk (⟨s.cl, s.seq, s.last + 1, s.ent, nn⟩ : Cl)) nn wq (by have := HSM.out.2.2.2.1; omega) (by obtain ⟨a, c, e, h⟩ := HQ.out.ownC.slice; cases e; exact h) HNN.out.2.2.1 HNN.out.2.2.2 (fun c hc => HSM.out.2.1.tms c ((HSM.out.2.1.mem c).2 hc))).mono ?_
                          rintro e9 w9 ⟨v9, rfl, ho9, hg9⟩
                          obtain ⟨pa9, pc9, rfl, -⟩ := ho9.slice
                          have INV : Hid (InvR w2 sb w9 F' (TL.dropWhile (oldL nn)) nn mf cfg ma mc cfg xa xc (prn (cs.set kk (⟨s.cl, s.seq, s.last + 1, s.ent, nn⟩ : Cl)) nn) pa9 pc9 ∧ Sim (TL.dropWhile (oldL nn)) (prn (cs.set kk (⟨s.cl, s.seq, s.last + 1, s.ent, nn⟩ : Cl)) nn) nn ∧ (TL.dropWhile (oldL nn)).length ≤ k + 1 ∧ (prn (cs.set kk (⟨s.cl, s.seq, s.last + 1, s.ent, nn⟩ : Cl)) nn).length ≤ k + 1) := by
                            have ho : w9.ownsRow wq.heap.size 40 5 (.slice pa9 (prn (cs.set kk (⟨s.cl, s.seq, s.last + 1, s.ent, nn⟩ : Cl)) nn).length pc9) (prn (cs.set kk (⟨s.cl, s.seq, s.last + 1, s.ent, nn⟩ : Cl)) nn).length (flatC (prn (cs.set kk (⟨s.cl, s.seq, s.last + 1, s.ent, nn⟩ : Cl)) nn)) := ho9
                            have ho2 : OwnC w2.heap.size w9 (.slice pa9 (prn (cs.set kk (⟨s.cl, s.seq, s.last + 1, s.ent, nn⟩ : Cl)) nn).length pc9) (prn (cs.set kk (⟨s.cl, s.seq, s.last + 1, s.ent, nn⟩ : Cl)) nn) := by
                              obtain ⟨h1, h2 | ⟨g, cap, cur, r1, r2, r⟩⟩ := ho
                              · exact ⟨h1, .inl h2⟩
                              · exact ⟨h1, .inr ⟨g, cap, cur, r1, Nat.le_trans HQ.out.gr.size r2, r⟩⟩
                            refine ⟨(HQ.out.grow hg9).clients ho2 (HQ.out.fresh ho), HSM.out.2.1.prune _ rfl, Nat.le_trans (drop_length _ _) HSM.out.2.2.1, Nat.le_trans (prn_length _ _) HSM.out.2.2.2.1⟩
                          have y3 : w9.cell? ⟨pp, 3, none⟩ = some (.int .i64 s.ent) := hg9.cell E3.out (by simp)
                          have hres : res = s.ent := by
                            have h := HRES.out
                            rw [HSM.out.1] at h
                            simpa using h.symm
                          subst hres
                          clear ho9 hg9
                          have RX : Hid (InvA w2 sb (k + 1) w9 (.slice ma cfg.length mc) (.bool xa.isSome) (.int .u64 mf) (.int .i64 nn) (.slice pa9 (prn (cs.set kk (⟨s.cl, s.seq, s.last + 1, s.ent, nn⟩ : Cl)) nn).length pc9)) := ⟨_, _, _, _, _, _, _, _, _, _, _, _, rfl, rfl, rfl, rfl, rfl, INV.out.1, INV.out.2⟩
                          go_wp2_with fail
                          go_meet
                          case rel => exact ⟨rfl, RX.out⟩
            case rest =>
              obtain ⟨h16, hIA⟩ := hcut
              obtain ⟨F2, L2, cs2, cfg2, now2, mf2, ma2, mc2, xa2, xc2, ka2, kc2, e8, e9, e10, e11, e12, hI2, hS2, hl2, hc2⟩ := hIA
              subst h16 e8 e9 e10 e11 e12
              have INV : Hid (InvR w2 sb wc F2 L2 now2 mf2 cfg2 ma2 mc2 cfg2 xa2 xc2 cs2 ka2 kc2 ∧ Sim L2 cs2 now2 ∧ L2.length ≤ k + 1 ∧ cs2.length ≤ k + 1) := ⟨hI2, hS2, hl2, hc2⟩
              have hcf2 : (cfg2.length : Int) ≤ 1048576 := by have := hI2.lM; omega
              clear hI2 hS2 hl2 hc2 r4 hneq
              have t6 := INV.out.1.c6
              have t5 := INV.out.1.c5
              have tneq := neq29s wc xa2 cfg2.length xc2
              go_wp2_with fail
              refine (ruleFirst_c INV.out.1.c6).mono ?_
              rintro e6 w6 ⟨rfl, hw6⟩
              subst hw6
              go_wp2_with fail
              refine (ruleConfig_c INV.out.1.c5).mono ?_
              rintro e7 w7 ⟨rfl, hw7⟩
              subst hw7
              go_wp2_with fail
              refine (sameConfig_c xa2 ma2 xc2 mc2 cfg2 _ INV.out.1.lX (by obtain ⟨a, c, e, h⟩ := INV.out.1.ownX.slice; cases e; exact h) (by obtain ⟨a, c, e, h⟩ := INV.out.1.own.slice; cases e; exact h)).mono ?_
              rintro e8 w8 ⟨rfl, hg8⟩
              have G8 : Hid (InvA w2 sb (k + 1) w8 (.slice ma2 cfg2.length mc2) (.bool xa2.isSome) (.int .u64 mf2) (.int .i64 now2) (.slice ka2 cs2.length kc2)) := ⟨_, _, _, _, _, _, _, _, _, _, _, _, rfl, rfl, rfl, rfl, rfl, INV.out.1.grow hg8, INV.out.2⟩
              clear hg8 t5 t6 tneq
              go_wp2_with fail
              go_roundg (ss.length - (k + 1))
              case measure => have := MD.out.2.2.2.2; omega
              case rel => exact ⟨k + 1, by omega, rfl, by go_num, G8.out⟩
        · as_aux_lemma =>
            have HE : Hid (InvR w2 sb wr F L now mf cfg ma mc cfg xa xc cs ka kc ∧ Sim L cs now) := ⟨MD.out.1, MD.out.2.1⟩
            go_wp2_with fail
            go_loopg [27] ss.length (fun gg i wx => ∃ j : Nat, j ≤ ss.length ∧ gg = ss.length - j ∧ i = .int .i64 j ∧ wr.grownBy wx none)
            case atStart => exact ⟨0, Nat.zero_le _, rfl, rfl, grown_refl _⟩
            case round =>
              obtain ⟨j, hj, hjg, rfl, hgj⟩ := hrel
              have MJ : Hid (World.grownBy _ wr none ∧ gk = ss.length - j ∧ InvR w2 sb wr F L now mf cfg ma mc cfg xa xc cs ka kc) := ⟨hgj, hjg, HE.out.1.grow hgj⟩
              clear hgj hjg
              by_cases hjl : j < ss.length
              · obtain ⟨s, hs⟩ : ∃ s, ss[j]? = some s := ⟨ss[j], List.getElem?_eq_getElem hjl⟩
                have HS : Hid (s.cl.size ≤ maxLen) := (HP.out j s hs).2.2.1
                obtain ⟨b, offs, ea, c0, -⟩ := ((HP.out j s hs).1).kept MJ.out.2.2.gr
                cases ea
                clear hs
                by_cases hcl : s.cl = ByteArray.empty
                · have hte := empty_toList
                  rw [hcl] at c0
                  go_wp2_with fail
                  go_roundg (ss.length - (j + 1))
                  case measure => have := MJ.out.2.1; omega
                  case rel => exact ⟨j + 1, by omega, rfl, by go_num, MJ.out.1⟩
                · have hte := str_empty hcl
                  have hte2 : s.cl.toList.isEmpty = false := by simpa using hte
                  clear hcl
                  go_wp2_with fail
                  refine (ruleLatest_c MJ.out.2.2.rs (x := s.cl) HS.out).mono ?_
                  rintro e6 w6 ⟨rfl, ht6, -⟩
                  have g6 : wr.grownBy w6 none := ⟨ht6.os, ht6.tape, ht6.output, ht6.size, fun i hi _ => ht6.block i hi (by simp)⟩
                  have M6 : Hid (World.grownBy _ w6 none ∧ InvR w2 sb w6 F L now mf cfg ma mc cfg xa xc cs ka kc) := ⟨grown_trans MJ.out.1 g6, MJ.out.2.2.grow g6⟩
                  have d0 : w6.cell? _ = some (.string s.cl) := g6.cell c0 (by simp)
                  rw [sim_look HE.out.2]
                  clear ht6 g6 hte hte2 c0
                  cases hf : fnd cs s.cl with
                  | none =>
                    simp only [Option.bind_none, lat4]
                    have HFC : Hid (Calls Try.prog 13 #[.slice ka cs.length kc, .string s.cl] w6 fun e w' => e = .returned (.int .i64 (-1)) ∧ w' = w6) := by
                      have h := findClient_c ka kc cs s.cl w6 (by omega) (by obtain ⟨a, c, e, h⟩ := M6.out.2.ownC.slice; cases e; exact h)
                      rw [hf] at h
                      exact h
                    clear hf
                    go_wp2_with fail
                    refine Calls.mono HFC.out ?_
                    rintro e7 w7 ⟨rfl, hw7⟩
                    subst hw7
                    go_wp2_with fail
                    go_roundg (ss.length - (j + 1))
                    case measure => have := MJ.out.2.1; omega
                    case rel => exact ⟨j + 1, by omega, rfl, by go_num, M6.out.1⟩
                  | some kk =>
                    obtain ⟨c, hck, hcid⟩ := fnd_some hf
                    have hkl2 := (List.getElem?_eq_some_iff.1 hck).1
                    have HFC : Hid (Calls Try.prog 13 #[.slice ka cs.length kc, .string s.cl] w6 fun e w' => e = .returned (.int .i64 kk) ∧ w' = w6) := by
                      have h := findClient_c ka kc cs s.cl w6 (by omega) (by obtain ⟨a, c, e, h⟩ := M6.out.2.ownC.slice; cases e; exact h)
                      rw [hf] at h
                      exact h
                    have hcsA : CsAt w6 ka cs := by obtain ⟨a, c, e, h⟩ := M6.out.2.ownC.slice; cases e; exact h
                    obtain ⟨bq, oq, eq, q0, q1, q2, q3, q4⟩ := hcsA kk c hck
                    simp only [Option.bind_some, hck, lat4]
                    clear hf hcsA hck hcid
                    cases eq
                    have hk0 : decide ((0 : Int) ≤ (kk : Int)) = true := decide_eq_true (by omega)
                    have hkc : (kk : Int) < (cs.length : Int) := by omega
                    go_wp2_with fail
                    refine Calls.mono HFC.out ?_
                    rintro e7 w7 ⟨rfl, hw7⟩
                    subst hw7
                    go_wp2_with fail
                    go_roundg (ss.length - (j + 1))
                    case measure => have := MJ.out.2.1; omega
                    case rel => exact ⟨j + 1, by omega, rfl, by go_num, M6.out.1⟩
              · go_wp2
                go_ret
                exact ⟨rfl, MJ.out.2.2.gr⟩
end Go.Proofs.Qxb6615757a
