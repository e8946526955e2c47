/-
  THE WALKS of take and ZZtake of a configuration, and of a drop.
-/
import Derived.Test.Qxb6615757aZz
import Derived.Test.Qxb6615757aReach
namespace Go.Proofs.Qxb6615757a
open Go.RowKit

theorem neq29 (w : World) (a : Option Addr) (n c : Nat) : (binOp .neq 29 (.slice a n c) (.slice none 0 0)).run Try.prog w = .ok (.bool (!a.isNone)) w := by
  simp only [binOp]
  simp [Op.equal, Op.maxDepth, Lib.run_equalIn_slice_nil w 9999 29 _ a n c 0 0 Try.underlying29]
/-- what a call left: the log, and its cells 5 and 6 -/
def AftC (F : List Nat) (w w' : World) (sb : Nat) (L : List Cl) (now K : Int) (v5 v6 : Value) : Prop :=
  ∃ F', RS F' w' sb L now K ∧ Turn F w w' ∧ (∀ k ∈ F', k ∈ F ∨ w.heap.size ≤ k) ∧ w'.cell? ⟨sb, 5, none⟩ = some v5 ∧ w'.cell? ⟨sb, 6, none⟩ = some v6
theorem turn_of_grown {w w' : World} (h : w.grownBy w' none) : Turn [] w w' := ⟨h.os, h.tape, h.output, h.size, fun i hi _ => h.block i hi (by simp)⟩
theorem RS.lt {F : List Nat} {w : World} {sb : Nat} {L : List Cl} {now K : Int} (h : RS F w sb L now K) : sb < w.heap.size := by obtain ⟨N, m, tbl, peak, rfl, h, _⟩ := h; exact lt_of_cell h.c0
theorem RS.sb {F : List Nat} {w : World} {sb : Nat} {L : List Cl} {now K : Int} (h : RS F w sb L now K) : sb ∈ F := by obtain ⟨N, m, tbl, peak, rfl, h, _, _, hF⟩ := h; exact hF sb (by simp [foot])
theorem RS.frozen {F : List Nat} {w : World} {sb : Nat} {L : List Cl} {now K : Int} (h : RS F w sb L now K) (o : Nat) : w.frozen? ⟨sb, o, none⟩ = false := by obtain ⟨N, m, tbl, peak, rfl, h, _⟩ := h; exact h.fz sb (.inl rfl) o
theorem RS.grow {F : List Nat} {w w' : World} {sb : Nat} {L : List Cl} {now K : Int} (h : RS F w sb L now K) (g : Turn [] w w') : RS F w' sb L now K := by
  obtain ⟨N, m, tbl, peak, hL, hr, h1, h2, h3⟩ := h
  exact ⟨N, m, tbl, peak, hL, hr.grow g, h1, h2, h3⟩
theorem RS.high {F : List Nat} {w : World} {sb : Nat} {L : List Cl} {now K : Int} (h : RS F w sb L now K) {o : Nat} (ho : 5 ≤ o) {u : Value} (hu : w.cell? ⟨sb, o, none⟩ = some u) (v : Value) : RS F (w.setCell ⟨sb, o, none⟩ v) sb L now K := by
  obtain ⟨N, m, tbl, peak, rfl, h, hp0, hpK, hF⟩ := h
  have cl := cells_set hu v
  have hc : ∀ a o', a ≠ sb ∨ o' ≠ o → (w.setCell ⟨sb, o, none⟩ v).cell? ⟨a, o', none⟩ = w.cell? ⟨a, o', none⟩ := fun a o' ha => (congrFun (congrFun cl a) o').trans (ha.elim (upd_blk _ _) (upd_off _ _))
  refine ⟨N, m, tbl, peak, rfl, ⟨h.nd, ?_, h.ns, (hc sb 0 (.inr (by omega))).trans h.c0, (hc sb 3 (.inr (by omega))).trans h.c3, (hc sb 4 (.inr (by omega))).trans h.c4,
    fun p hp => (h.nodes p hp).congr (fun o' _ => hc p.1 o' (.inl (fun e => h.ns (e ▸ List.mem_map_of_mem hp)))), fun a ha o' => by rw [World.frozen?_setCell]; exact h.fz a ha o', ?_, h.tb, h.tl, h.idl, h.tms, h.nowb⟩, hp0, hpK, hF⟩
  · exact ⟨(hc sb 1 (.inr (by omega))).trans h.lk.old, (hc sb 2 (.inr (by omega))).trans h.lk.new, fun i x hx => (hc x 5 (.inl (fun e => h.ns (e ▸ List.mem_of_getElem? hx)))).trans (h.lk.prv i x hx), fun i x hx => (hc x 6 (.inl (fun e => h.ns (e ▸ List.mem_of_getElem? hx)))).trans (h.lk.nxt i x hx)⟩
  · refine h.mp.congr (fun M e => Below.heap_setCell _ _ _ _ (h.map_off e).1)
theorem Aft.toC {F : List Nat} {w w' : World} {sb : Nat} {L : List Cl} {now K : Int} {v5 v6 : Value} (h : Aft F w w' sb L now K) (h5 : w.cell? ⟨sb, 5, none⟩ = some v5) (h6 : w.cell? ⟨sb, 6, none⟩ = some v6) : AftC F w w' sb L now K v5 v6 := by
  obtain ⟨F', hr, ht, hF, _, hc⟩ := h
  exact ⟨F', hr, ht, hF, (hc 5 (by omega)).trans h5, (hc 6 (by omega)).trans h6⟩

set_option maxRecDepth 100000 in
set_option maxHeartbeats 2000000 in
/-- take of a drop -/
theorem take_drop {F : List Nat} {w : World} {sb : Nat} {L : List Cl} {now K : Int} (h : RS F w sb L now K) {x : ByteArray} (q t n l d f : Int) {v5 : Value} (c5 : w.cell? ⟨sb, 5, none⟩ = some v5) (c6 : w.cell? ⟨sb, 6, none⟩ = some (.int .u64 f)) (hd : 0 < d) (hl : l < 18446744073709551615) :
    Calls Try.prog 29 #[.pointer (some ⟨sb, 0, none⟩), .agg #[.string x, .int .u64 q, .int .i64 t, .int .i64 n, .slice none 0 0, .int .u64 d], .int .u64 l] w fun e w' => e = .returned (.int .i64 0) ∧
      AftC F w w' sb L now K v5 (.int .u64 (if d ≤ l then max f (d + 1) else f)) := by
  have H : Hid (RS F w sb L now K ∧ w.cell? ⟨sb, 5, none⟩ = some v5) := ⟨h, c5⟩
  have hs : sb < w.heap.size := h.lt
  have f6 := h.frozen 6
  have hwd : d ≤ l → IntKind.u64.wrap (d + 1) = d + 1 := fun e => IntWalk.u64_in _ ⟨by omega, by omega⟩
  clear h c5
  have hgb := World.grownBy_alloc w (Obj.cells #[.string x, .int .u64 q, .int .i64 t, .int .i64 n, .slice none 0 0, .int .u64 d] 70) none
  obtain ⟨res, hres⟩ : ∃ res, (if d ≤ l then max f (d + 1) else f) = res := ⟨_, rfl⟩
  have HRES : Hid ((if d ≤ l then max f (d + 1) else f) = res) := hres
  rw [hres]
  clear hres
  by_cases hdl : d ≤ l
  · have hwd := hwd hdl
    have HI : Hid (res = max f (d + 1)) := by rw [← HRES.out, if_pos hdl]; trivial
    go_enter Try.func29, Try.ntmps29
    go_wp2_with fail
    have T := turn_of_grown hgb
    have z6 : (w.alloc (Obj.cells #[.string x, .int .u64 q, .int .i64 t, .int .i64 n, .slice none 0 0, .int .u64 d] 70)).cell? ⟨sb, 6, none⟩ = some (.int .u64 f) := (World.cell?_of_block (T.block sb hs (by simp))).trans c6
    have zf : (w.alloc (Obj.cells #[.string x, .int .u64 q, .int .i64 t, .int .i64 n, .slice none 0 0, .int .u64 d] 70)).frozen? ⟨sb, 6, none⟩ = false := (World.frozen?_of_block (T.block sb hs (by simp))).trans f6
    have b5 : (w.alloc (Obj.cells #[.string x, .int .u64 q, .int .i64 t, .int .i64 n, .slice none 0 0, .int .u64 d] 70)).cell? ⟨w.heap.size, 5, none⟩ = some (.int .u64 d) := World.cell?_alloc_at _ _ _ _ rfl
    generalize w.alloc (Obj.cells #[.string x, .int .u64 q, .int .i64 t, .int .i64 n, .slice none 0 0, .int .u64 d] 70) = u at *
    have HF : Hid (∀ X, AftC F w (u.drew.setCell ⟨sb, 6, none⟩ (.int .u64 X)) sb L now K v5 (.int .u64 X)) := by
      intro X
      have T : Turn [] w u.drew := T.drew
      have z6 : u.drew.cell? ⟨sb, 6, none⟩ = some (.int .u64 f) := z6
      have z5 : u.drew.cell? ⟨sb, 5, none⟩ = some v5 := (World.cell?_of_block (T.block sb hs (by simp))).trans H.out.2
      refine ⟨F, (H.out.1.grow T).high (by omega) z6 _, (T.mono (fun a e => by simp at e)).setCell (fun _ => H.out.1.sb) _, fun k hk => .inl hk, ?_, World.cell?_setCell_same _ _ _ z6⟩
      rw [World.cell?_setCell_other _ _ _ _ (fun e => by injection e with _ e2 _; omega)]
      exact z5
    clear hgb T
    go_region
    all_goals go_wp2
    all_goals go_ret
    all_goals (refine ⟨rfl, ?_⟩; first | (rw [show res = d + 1 from by have := HI.out; omega]; exact HF.out _) | (rw [show res = f from by have := HI.out; omega]; exact HF.out _))
  · have HI : Hid (res = f) := by rw [← HRES.out, if_neg hdl]; trivial
    have HF : Hid (AftC F w (w.alloc (Obj.cells #[.string x, .int .u64 q, .int .i64 t, .int .i64 n, .slice none 0 0, .int .u64 d] 70)) sb L now K v5 (.int .u64 f)) := by
      have T := turn_of_grown hgb
      exact ⟨F, H.out.1.grow T, T.mono (fun a e => by simp at e), fun k hk => .inl hk, (World.cell?_of_block (T.block sb hs (by simp))).trans H.out.2, (World.cell?_of_block (T.block sb hs (by simp))).trans c6⟩
    clear hgb
    go_enter Try.func29, Try.ntmps29
    go_wp2
    go_ret
    rw [HI.out]
    exact ⟨rfl, HF.out⟩

/-- what a configuration leaves -/
def CfgUp (F : List Nat) (w w' : World) (sb : Nat) (L : List Cl) (now K : Int) (ms : List Mem) (v6 : Value) : Prop :=
  ∃ va vc, Own w.heap.size 57 w' (.slice va ms.length vc) ms ∧ va ≠ none ∧ RS F w' sb L now K ∧ Turn F w w' ∧ w'.cell? ⟨sb, 5, none⟩ = some (.slice va ms.length vc) ∧ w'.cell? ⟨sb, 6, none⟩ = some v6
theorem reach_length (ms mine : List Mem) : (reach ms mine).length = ms.length := by unfold reach; simp

set_option maxRecDepth 100000 in
set_option maxHeartbeats 2000000 in
/-- take of a configuration -/
theorem take_cfg {F : List Nat} {w : World} {sb : Nat} {L : List Cl} {now K : Int} (h : RS F w sb L now K) {x : ByteArray} (q t n l d : Int) (ad : Addr) (cap : Nat) (ms : List Mem) (ma : Option Addr) (mc : Nat) (mine : List Mem) {v6 : Value}
    (hl : ms.length ≤ 1048576) (hs : MsAt w (some ad) ms) (hl2 : mine.length ≤ 1048576) (hs2 : MsAt w ma mine) (c5 : w.cell? ⟨sb, 5, none⟩ = some (.slice ma mine.length mc)) (c6 : w.cell? ⟨sb, 6, none⟩ = some v6) :
    Calls Try.prog 29 #[.pointer (some ⟨sb, 0, none⟩), .agg #[.string x, .int .u64 q, .int .i64 t, .int .i64 n, .slice (some ad) ms.length cap, .int .u64 d], .int .u64 l] w fun e w' => e = .returned (.int .i64 0) ∧ Hid (CfgUp F w w' sb L now K (reach ms mine) v6) := by
  have H : Hid (RS F w sb L now K ∧ MsAt w (some ad) ms ∧ MsAt w ma mine ∧ w.cell? ⟨sb, 6, none⟩ = some v6 ∧ ms.length ≤ 1048576 ∧ mine.length ≤ 1048576) := ⟨h, hs, hs2, c6, hl, hl2⟩
  have hsb : sb < w.heap.size := h.lt
  have f5 := h.frozen 5
  have hneq := fun u => neq29 u (some ad) ms.length cap
  have hgb := World.grownBy_alloc w (Obj.cells #[.string x, .int .u64 q, .int .i64 t, .int .i64 n, .slice (some ad) ms.length cap, .int .u64 d] 70) none
  clear h hs hs2 c6 hl hl2
  go_enter Try.func29, Try.ntmps29
  go_wp2_with fail
  have z5 : (w.alloc (Obj.cells #[.string x, .int .u64 q, .int .i64 t, .int .i64 n, .slice (some ad) ms.length cap, .int .u64 d] 70)).cell? ⟨sb, 5, none⟩ = some (.slice ma mine.length mc) := hgb.cell c5 (by simp)
  have b4 : (w.alloc (Obj.cells #[.string x, .int .u64 q, .int .i64 t, .int .i64 n, .slice (some ad) ms.length cap, .int .u64 d] 70)).cell? ⟨w.heap.size, 4, none⟩ = some (.slice (some ad) ms.length cap) := World.cell?_alloc_at _ _ _ _ rfl
  generalize w.alloc (Obj.cells #[.string x, .int .u64 q, .int .i64 t, .int .i64 n, .slice (some ad) ms.length cap, .int .u64 d] 70) = u at *
  have g1 : w.grownBy u.drew none := ⟨hgb.os, hgb.tape, hgb.output, hgb.size, hgb.block⟩
  have HT : Hid (Calls Try.prog 37 #[.slice (some ad) ms.length cap, .slice ma mine.length mc] u.drew fun e w' => ∃ va vc, e = .returned (.slice va ms.length vc) ∧ w'.cell? ⟨sb, 5, none⟩ = some (.slice ma mine.length mc) ∧ w'.frozen? ⟨sb, 5, none⟩ = false ∧ Hid (CfgUp F w (w'.setCell ⟨sb, 5, none⟩ (.slice va ms.length vc)) sb L now K (reach ms mine) v6)) := by
    refine (reachedAs_c (some ad) ma cap mc ms mine u.drew H.out.2.2.2.2.1 (H.out.2.1.kept g1) (fun e => by cases e) H.out.2.2.2.2.2 (H.out.2.2.1.kept g1)).mono ?_
    rintro e w' ⟨va, vc, he, hown, hn, hg⟩
    have g2 := grown_trans g1 hg
    have y5 := g2.cell c5 (by simp)
    have y6 := g2.cell H.out.2.2.2.1 (by simp)
    have T := turn_of_grown g2
    have hrl := reach_length ms mine
    refine ⟨va, vc, he, y5, (World.frozen?_of_block (g2.block sb hsb (by simp))).trans f5, va, vc, ?_, (fun e => nomatch hn.1 e), (H.out.1.grow T).high (by omega) y5 _, (T.mono (fun a e => by simp at e)).setCell (fun _ => H.out.1.sb) _, ?_, ?_⟩
    · rw [hrl]
      have ho : Own w.heap.size 57 w' (.slice va ms.length vc) (reach ms mine) := hown.base g1.size
      refine World.ownsRow.kept ho (⟨rfl, rfl, rfl, by simp [World.setCell], fun i hi hn => Below.heap_setCell _ _ _ _ (fun e => hn (by rw [e]))⟩ : w'.grownBy (w'.setCell ⟨sb, 5, none⟩ (.slice va ms.length vc)) (some sb)) ?_
      cases hv : (Value.slice va ms.length vc).ownBlock with
      | none => exact .inl rfl
      | some k =>
        refine .inr (fun e => ?_)
        cases e
        have := (World.ownsRow.lt ho sb hv).1
        omega
    · rw [hrl]
      exact World.cell?_setCell_same _ _ _ y5
    · rw [World.cell?_setCell_other _ _ _ _ (fun e => by injection e with _ e2 _; omega)]
      exact y6
  clear hgb g1
  go_region_with (go_at_call 37; refine HT.out.mono ?_; rintro e3 w3 ⟨va, vc, rfl, y5, yf, hA⟩)
  all_goals go_wp2
  all_goals go_ret
  all_goals exact ⟨rfl, hA⟩

set_option maxRecDepth 100000 in
set_option maxHeartbeats 2000000 in
theorem zztake_cfg {F : List Nat} {w : World} {sb : Nat} {L : List Cl} {now K : Int} (h : RS F w sb L now K) {x : ByteArray} (q t n l d : Int) (ad : Addr) (cap : Nat) (ms : List Mem) (ma : Option Addr) (mc : Nat) (mine : List Mem) {v6 : Value}
    (hl : ms.length ≤ 1048576) (hs : MsAt w (some ad) ms) (hl2 : mine.length ≤ 1048576) (hs2 : MsAt w ma mine) (c5 : w.cell? ⟨sb, 5, none⟩ = some (.slice ma mine.length mc)) (c6 : w.cell? ⟨sb, 6, none⟩ = some v6) :
    Calls Try.prog 12 #[.pointer (some ⟨sb, 0, none⟩), .string x, .int .u64 q, .int .i64 t, .int .i64 n, .slice (some ad) ms.length cap, .int .u64 d, .int .u64 l] w fun e w' => e = .returned (.int .i64 0) ∧ Hid (CfgUp F w w' sb L now K (reach ms mine) v6) := by
  have HT : Hid (Calls Try.prog 29 #[.pointer (some ⟨sb, 0, none⟩), .agg #[.string x, .int .u64 q, .int .i64 t, .int .i64 n, .slice (some ad) ms.length cap, .int .u64 d], .int .u64 l] w fun e w' => e = .returned (.int .i64 0) ∧ Hid (CfgUp F w w' sb L now K (reach ms mine) v6)) := take_cfg h q t n l d ad cap ms ma mc mine hl hs hl2 hs2 c5 c6
  clear h hl hs hl2 hs2 c5 c6
  go_enter Try.func12, Try.ntmps12
  go_wp2_with fail
  refine HT.out.mono ?_
  rintro e1 w1 ⟨rfl, hA⟩
  go_wp2
  go_ret
  exact ⟨rfl, hA⟩
set_option maxRecDepth 100000 in
set_option maxHeartbeats 2000000 in
theorem zztake_drop {F : List Nat} {w : World} {sb : Nat} {L : List Cl} {now K : Int} (h : RS F w sb L now K) {x : ByteArray} (q t n l d f : Int) {v5 : Value} (c5 : w.cell? ⟨sb, 5, none⟩ = some v5) (c6 : w.cell? ⟨sb, 6, none⟩ = some (.int .u64 f)) (hd : 0 < d) (hl : l < 18446744073709551615) :
    Calls Try.prog 12 #[.pointer (some ⟨sb, 0, none⟩), .string x, .int .u64 q, .int .i64 t, .int .i64 n, .slice none 0 0, .int .u64 d, .int .u64 l] w fun e w' => e = .returned (.int .i64 0) ∧
      Hid (AftC F w w' sb L now K v5 (.int .u64 (if d ≤ l then max f (d + 1) else f))) := by
  have HT : Hid (Calls Try.prog 29 #[.pointer (some ⟨sb, 0, none⟩), .agg #[.string x, .int .u64 q, .int .i64 t, .int .i64 n, .slice none 0 0, .int .u64 d], .int .u64 l] w fun e w' => e = .returned (.int .i64 0) ∧ AftC F w w' sb L now K v5 (.int .u64 (if d ≤ l then max f (d + 1) else f))) := take_drop h q t n l d f c5 c6 hd hl
  clear h hl c5 c6 hd
  generalize (if d ≤ l then max f (d + 1) else f) = res at *
  go_enter Try.func12, Try.ntmps12
  go_wp2_with fail
  refine HT.out.mono ?_
  rintro e1 w1 ⟨rfl, hA⟩
  have HA : Hid (AftC F w w1 sb L now K v5 (.int .u64 res)) := hA
  clear hA
  go_wp2
  go_ret
  exact ⟨rfl, HA⟩
end Go.Proofs.Qxb6615757a
