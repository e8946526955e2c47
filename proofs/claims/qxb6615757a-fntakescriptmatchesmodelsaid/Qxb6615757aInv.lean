/-
  WHAT STANDS BETWEEN TWO STEPS OF A SCRIPT.
-/
import Derived.Test.Qxb6615757aSim
import Derived.Test.Qxb6615757aSteps
namespace Go.Proofs.Qxb6615757a
open Go.RowKit

/-- what lies at a lies in no block of F -/
def off (F : List Nat) (a : Option Addr) : Prop := ∀ ad, a = some ad → ad.block ∉ F
theorem ownsRow_block {w w' : World} {base : Nat} {e : TypeId} {k n : Nat} {xs : List Value} {a : Option Addr} {l c : Nat} (h : w.ownsRow base e k (.slice a l c) n xs) (hb : ∀ ad, a = some ad → w'.heap[ad.block]? = w.heap[ad.block]?) : w'.ownsRow base e k (.slice a l c) n xs := by
  obtain ⟨h1, h2 | ⟨g, cap, cur, e1, r1, r2, r3⟩⟩ := h
  · exact ⟨h1, .inl h2⟩
  · cases e1
    exact ⟨h1, .inr ⟨g, _, cur, rfl, r1, (hb _ rfl).trans r2, r3⟩⟩
theorem ownsRow_lt {w : World} {base : Nat} {e : TypeId} {k n : Nat} {xs : List Value} {ad : Addr} {l c : Nat} (h : w.ownsRow base e k (.slice (some ad) l c) n xs) : base ≤ ad.block ∧ ad.block < w.heap.size := World.ownsRow.lt h ad.block rfl
theorem ownsRow_apart {w : World} {base base' : Nat} {e e' : TypeId} {k n k' n' : Nat} {xs xs' : List Value} {ad ad' : Addr} {l c l' c' : Nat} (h : w.ownsRow base e k (.slice (some ad) l c) n xs) (h' : w.ownsRow base' e' k' (.slice (some ad') l' c') n' xs') (he : e ≠ e') : ad.block ≠ ad'.block := by
  obtain ⟨_, ⟨e1, _⟩ | ⟨g, cap, cur, e1, _, r2, _⟩⟩ := h
  · cases e1
  · cases e1
    obtain ⟨_, ⟨e2, _⟩ | ⟨g', cap', cur', e2, _, r2', _⟩⟩ := h'
    · cases e2
    · cases e2
      intro e
      simp only at e
      subst e
      rw [r2] at r2'
      cases r2'
      exact he rfl
/-- no block of F begins with a string -/
def NoStr (F : List Nat) (w : World) : Prop := ∀ k ∈ F, ∀ x, w.cell? ⟨k, 0, none⟩ ≠ some (.string x)
theorem RS.norm {F : List Nat} {w : World} {sb : Nat} {L : List Cl} {now K : Int} (h : RS F w sb L now K) : ∃ F', RS F' w sb L now K ∧ (∀ k ∈ F', k ∈ F) ∧ (∀ k ∈ F', k < w.heap.size) ∧ NoStr F' w := by
  obtain ⟨N, m, tbl, peak, hL, hr, h1, h2, h3⟩ := h
  refine ⟨foot sb N m, ⟨N, m, tbl, peak, hL, hr, h1, h2, fun _ hk => hk⟩, h3, hr.lt, fun k hk x e => ?_⟩
  unfold foot at hk
  rcases List.mem_cons.1 hk with rfl | hk
  · rw [hr.c0] at e; cases e
  · rcases List.mem_append.1 hk with hk | hk
    · cases m with
      | none => simp at hk
      | some M =>
        simp at hk
        subst hk
        have hm : PMap w k tbl := hr.mp
        rw [hm.no_cell] at e
        cases e
    · obtain ⟨q, hq, rfl⟩ := List.mem_map.1 hk
      rw [(hr.nodes q hq).1] at e
      cases e
theorem RS.block {F : List Nat} {w w' : World} {sb : Nat} {L : List Cl} {now K : Int} (h : RS F w sb L now K) (hb : ∀ k ∈ F, w'.heap[k]? = w.heap[k]?) : RS F w' sb L now K := by
  obtain ⟨N, m, tbl, peak, hL, hr, h1, h2, h3⟩ := h
  exact ⟨N, m, tbl, peak, hL, hr.carry (fun k hk => hb k (h3 k hk)), h1, h2, h3⟩

/-- the log (told by L, now, mf and the members cl), and the model's two lists (cm, cs): each in blocks of its own -/
structure InvR (w0 : World) (sb : Nat) (wx : World) (F : List Nat) (L : List Cl) (now mf : Int) (cm : List Mem) (ma : Option Addr) (mc : Nat) (cl : List Mem) (xa : Option Addr) (xc : Nat) (cs : List Cl) (ka : Option Addr) (kc : Nat) : Prop where
  rs : RS F wx sb L now 1048576
  fb : ∀ k ∈ F, w0.heap.size ≤ k
  fl : ∀ k ∈ F, k < wx.heap.size
  own : Own w0.heap.size 37 wx (.slice ma cm.length mc) cm
  offM : off F ma
  c5 : wx.cell? ⟨sb, 5, none⟩ = some (.slice xa cl.length xc)
  ownX : Own w0.heap.size 57 wx (.slice xa cl.length xc) cl
  offX : off F xa
  ownC : OwnC w0.heap.size wx (.slice ka cs.length kc) cs
  offK : off F ka
  c6 : wx.cell? ⟨sb, 6, none⟩ = some (.int .u64 mf)
  nowb : 0 ≤ now ∧ now ≤ 9223372036854775807
  lX : cl.length ≤ 1048576
  lM : cm.length ≤ 1048576
  gr : w0.grownBy wx none
  fs : NoStr F wx

section
variable {w0 : World} {sb : Nat} {wx : World} {F : List Nat} {L : List Cl} {now mf : Int} {cm : List Mem} {ma : Option Addr} {mc : Nat} {cl : List Mem} {xa : Option Addr} {xc : Nat} {cs : List Cl} {ka : Option Addr} {kc : Nat}

theorem InvR.grow (h : InvR w0 sb wx F L now mf cm ma mc cl xa xc cs ka kc) {w' : World} (g : wx.grownBy w' none) : InvR w0 sb w' F L now mf cm ma mc cl xa xc cs ka kc :=
  ⟨h.rs.grow (turn_of_grown g), h.fb, fun k hk => Nat.lt_of_lt_of_le (h.fl k hk) g.size, h.own.kept g, h.offM, g.cell h.c5 (by simp), h.ownX.kept g, h.offX, h.ownC.kept g, h.offK, g.cell h.c6 (by simp), h.nowb, h.lX, h.lM, grown_trans h.gr g, fun k hk x e => h.fs k hk x ((World.cell?_of_block (g.block k (h.fl k hk) (by simp))).symm.trans e)⟩
theorem InvR.turned (h : InvR w0 sb wx F L now mf cm ma mc cl xa xc cs ka kc) {w' : World} (t : Turn F wx w') : w0.grownBy w' none :=
  ⟨t.os.trans h.gr.os, t.tape.trans h.gr.tape, t.output.trans h.gr.output, Nat.le_trans h.gr.size t.size, fun i hi hn => (t.block i (Nat.lt_of_lt_of_le hi h.gr.size) (fun e => by have := h.fb i e; omega)).trans (h.gr.block i hi hn)⟩
theorem off_more {F F' : List Nat} {w : World} {base : Nat} {e : TypeId} {k n : Nat} {xs : List Value} {a : Option Addr} {l c : Nat} (h : w.ownsRow base e k (.slice a l c) n xs) (ho : off F a) (hF : ∀ k ∈ F', k ∈ F ∨ w.heap.size ≤ k) : off F' a := by
  intro ad e hm
  subst e
  rcases hF _ hm with h1 | h1
  · exact ho ad rfl h1
  · have := (ownsRow_lt h).2
    omega
theorem turn_row {F : List Nat} {w w' : World} {base : Nat} {e : TypeId} {k n : Nat} {xs : List Value} {a : Option Addr} {l c : Nat} (h : w.ownsRow base e k (.slice a l c) n xs) (ho : off F a) (t : Turn F w w') : w'.ownsRow base e k (.slice a l c) n xs :=
  ownsRow_block h (fun ad e => by subst e; exact t.block _ (ownsRow_lt h).2 (ho ad rfl))
/-- a step of the log's -/
theorem InvR.taken (h : InvR w0 sb wx F L now mf cm ma mc cl xa xc cs ka kc) {w' : World} {L' : List Cl} {now' mf' : Int} (ha : AftC F wx w' sb L' now' 1048576 (.slice xa cl.length xc) (.int .u64 mf')) (hn : 0 ≤ now' ∧ now' ≤ 9223372036854775807) :
    ∃ F', InvR w0 sb w' F' L' now' mf' cm ma mc cl xa xc cs ka kc := by
  obtain ⟨F1, hr, ht, hF, h5, h6⟩ := ha
  obtain ⟨F2, hr2, hs2, hl2, hn2⟩ := hr.norm
  have hF2 : ∀ k ∈ F2, k ∈ F ∨ wx.heap.size ≤ k := fun k hk => hF k (hs2 k hk)
  exact ⟨F2, hr2, fun k hk => (hF2 k hk).elim (h.fb k) (fun e => Nat.le_trans h.gr.size e), hl2, turn_row h.own h.offM ht, off_more h.own h.offM hF2, h5, turn_row h.ownX h.offX ht, off_more h.ownX h.offX hF2, turn_row h.ownC h.offK ht, off_more h.ownC h.offK hF2, h6, hn, h.lX, h.lM, h.turned ht, hn2⟩
/-- a step of the log's: a configuration -/
theorem InvR.cfgd (h : InvR w0 sb wx F L now mf cm ma mc cl xa xc cs ka kc) {w' : World} {cl' : List Mem} (ha : CfgUp F wx w' sb L now 1048576 cl' (.int .u64 mf)) (hl : cl'.length ≤ 1048576) :
    ∃ F' xa' xc', xa' ≠ none ∧ InvR w0 sb w' F' L now mf cm ma mc cl' xa' xc' cs ka kc := by
  obtain ⟨va, vc, hown, hne, hr, ht, h5, h6⟩ := ha
  have ho' : Own w0.heap.size 57 w' (.slice va cl'.length vc) cl' := hown.base h.gr.size
  obtain ⟨F2, hr2, hs2, hl2, hn2⟩ := hr.norm
  refine ⟨F2, va, vc, hne, hr2, fun k hk => h.fb k (hs2 k hk), hl2, turn_row h.own h.offM ht, fun a e hm => h.offM a e (hs2 _ hm), h5, ho', ?_, turn_row h.ownC h.offK ht, fun a e hm => h.offK a e (hs2 _ hm), h6, h.nowb, hl, h.lM, h.turned ht, hn2⟩
  intro ad e hm
  subst e
  have h1 : wx.heap.size ≤ ad.block := (ownsRow_lt hown).1
  have h2 := h.fl _ (hs2 _ hm)
  omega
/-- the model's members laid anew -/
theorem InvR.members (h : InvR w0 sb wx F L now mf cm ma mc cl xa xc cs ka kc) {cm' : List Mem} {ma' : Option Addr} {mc' : Nat} (ho : Own w0.heap.size 37 wx (.slice ma' cm'.length mc') cm') (hf : off F ma') (hl : cm'.length ≤ 1048576) :
    InvR w0 sb wx F L now mf cm' ma' mc' cl xa xc cs ka kc :=
  ⟨h.rs, h.fb, h.fl, ho, hf, h.c5, h.ownX, h.offX, h.ownC, h.offK, h.c6, h.nowb, h.lX, hl, h.gr, h.fs⟩
/-- the model's clients laid anew -/
theorem InvR.clients (h : InvR w0 sb wx F L now mf cm ma mc cl xa xc cs ka kc) {cs' : List Cl} {ka' : Option Addr} {kc' : Nat} (ho : OwnC w0.heap.size wx (.slice ka' cs'.length kc') cs') (hf : off F ka') :
    InvR w0 sb wx F L now mf cm ma mc cl xa xc cs' ka' kc' :=
  ⟨h.rs, h.fb, h.fl, h.own, h.offM, h.c5, h.ownX, h.offX, ho, hf, h.c6, h.nowb, h.lX, h.lM, h.gr, h.fs⟩
/-- a turn in the row of the model's clients -/
theorem InvR.turnC (h : InvR w0 sb wx F L now mf cm ma mc cl xa xc cs ka kc) {w' : World} (g : wx.grownBy w' (Value.slice ka cs.length kc).ownBlock) {cs' : List Cl} {ka' : Option Addr} {kc' : Nat} (ho : OwnC w0.heap.size w' (.slice ka' cs'.length kc') cs') (hf : off F ka') :
    InvR w0 sb w' F L now mf cm ma mc cl xa xc cs' ka' kc' := by
  have hb : ∀ i, i < wx.heap.size → (∀ ad, ka = some ad → ad.block ≠ i) → w'.heap[i]? = wx.heap[i]? := fun i hi hn => g.block i hi (fun e => by
    cases ka with
    | none => cases e
    | some ad => exact hn ad rfl (Option.some.inj e).symm)
  have hcell : ∀ o, w'.cell? ⟨sb, o, none⟩ = wx.cell? ⟨sb, o, none⟩ := fun o => World.cell?_of_block (hb sb h.rs.lt (fun ad e e2 => h.offK ad e (e2 ▸ h.rs.sb)))
  refine ⟨h.rs.block (fun k hk => hb k (h.fl k hk) (fun ad e e2 => h.offK ad e (e2 ▸ hk))), h.fb, fun k hk => Nat.lt_of_lt_of_le (h.fl k hk) g.size, ?_, h.offM, (hcell 5).trans h.c5, ?_, h.offX, ho, hf, (hcell 6).trans h.c6, h.nowb, h.lX, h.lM, ?_, fun k hk x e => h.fs k hk x ((World.cell?_of_block (hb k (h.fl k hk) (fun ad e e2 => h.offK ad e (e2 ▸ hk)))).symm.trans e)⟩
  · refine ownsRow_block h.own (fun ad e => ?_)
    subst e
    refine hb _ (ownsRow_lt h.own).2 (fun ad' e' => ?_)
    subst e'
    exact ownsRow_apart h.ownC h.own (by decide)
  · refine ownsRow_block h.ownX (fun ad e => ?_)
    subst e
    refine hb _ (ownsRow_lt h.ownX).2 (fun ad' e' => ?_)
    subst e'
    exact ownsRow_apart h.ownC h.ownX (by decide)
  · refine grown_row h.gr g (fun k e => ?_)
    cases ka with
    | none => cases e
    | some ad =>
      have := (ownsRow_lt h.ownC).1
      have e := Option.some.inj e
      omega
/-- a row of clients is no block of the log's -/
theorem InvR.offC (h : InvR w0 sb wx F L now mf cm ma mc cl xa xc cs ka kc) {w' : World} (g : wx.grownBy w' (Value.slice ka cs.length kc).ownBlock) {base : Nat} {cs' : List Cl} {ka' : Option Addr} {kc' : Nat} (ho : OwnC base w' (.slice ka' cs'.length kc') cs') {c : Cl} (hc : cs'[0]? = some c) : off F ka' := by
  intro ad e hm
  subst e
  have hcell : w'.cell? ⟨ad.block, 0, none⟩ = some (.string c.id) := by
    obtain ⟨a, cap, e, hcs⟩ := ho.slice
    cases e
    obtain ⟨b, o, e2, c0, _⟩ := hcs 0 c hc
    have h0 : w'.ownsRow base 40 5 (.slice (some ad) cs'.length kc') cs'.length (flatC cs') := ho
    obtain ⟨_, ⟨e3, _⟩ | ⟨g', cap', cur, e3, _⟩⟩ := h0
    · cases e3
    · cases e3
      cases e2
      simpa using c0
  have hb : w'.heap[ad.block]? = wx.heap[ad.block]? := g.block _ (h.fl _ hm) (fun e => by
    cases ka with
    | none => cases e
    | some ak => exact h.offK ak rfl (by have e := Option.some.inj e; rw [← e]; exact hm))
  exact h.fs _ hm c.id ((World.cell?_of_block (a := ⟨ad.block, 0, none⟩) hb).symm.trans hcell)
/-- what is laid behind the log's blocks is none of them -/
theorem InvR.fresh (h : InvR w0 sb wx F L now mf cm ma mc cl xa xc cs ka kc) {w' : World} {e : TypeId} {k n : Nat} {xs : List Value} {a : Option Addr} {l c : Nat} (ho : w'.ownsRow wx.heap.size e k (.slice a l c) n xs) : off F a := by
  intro ad e hm
  subst e
  have h1 := (ownsRow_lt ho).1
  have h2 := h.fl _ hm
  omega
end
/-- between two steps: the slots 8 to 12, and the world -/
def InvA (w0 : World) (sb n : Nat) (wx : World) (v8 v9 v10 v11 v12 : Value) : Prop :=
  ∃ (F : List Nat) (L cs : List Cl) (cfg : List Mem) (now mf : Int) (ma : Option Addr) (mc : Nat) (xa : Option Addr) (xc : Nat) (ka : Option Addr) (kc : Nat),
    v8 = .slice ma cfg.length mc ∧ v9 = .bool xa.isSome ∧ v10 = .int .u64 mf ∧ v11 = .int .i64 now ∧ v12 = .slice ka cs.length kc ∧
    InvR w0 sb wx F L now mf cfg ma mc cfg xa xc cs ka kc ∧ Sim L cs now ∧ L.length ≤ n ∧ cs.length ≤ n
theorem InvA.grow {w0 : World} {sb n : Nat} {wx w' : World} {v8 v9 v10 v11 v12 : Value} (h : InvA w0 sb n wx v8 v9 v10 v11 v12) (g : wx.grownBy w' none) : InvA w0 sb n w' v8 v9 v10 v11 v12 := by
  obtain ⟨F, L, cs, cfg, now, mf, ma, mc, xa, xc, ka, kc, h1, h2, h3, h4, h5, h6, h7⟩ := h
  exact ⟨F, L, cs, cfg, now, mf, ma, mc, xa, xc, ka, kc, h1, h2, h3, h4, h5, h6.grow g, h7⟩
end Go.Proofs.Qxb6615757a
