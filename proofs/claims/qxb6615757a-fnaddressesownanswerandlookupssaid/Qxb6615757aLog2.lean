/-
  The walk of NewLog.
-/
import Derived.Test.Qxb6615757aLog
import Derived.Deep.CutRange
import Derived.Deep.WholeRow
namespace Go.Proofs.Qxb6615757a
open Go.RowKit

theorem wpList_store_new {P : Program} {ops : Array Oper} {rest : List Oper} {o : Oper} {a : Act} {Q : Exit → Act → World → Prop} {w0 : World} {c : Array Value} (hgd : o.guard = none) (p x : Operand) (t : TypeId) (ho : o.op = .store t p x)
    (c' : Array Value) (hp : a.eval p = .pointer (some ⟨w0.heap.size, 0, none⟩)) (hx : a.eval x = .agg c') (hi : (P.info? t).map (·.size) = some c'.size) (hs : c.size = c'.size) (h1 : c'.all (·.oneCell') = true)
    (h : wpList P ops Q rest (a.put o.dst undef) (w0.alloc (.cells c' t))) : wpList P ops Q (o :: rest) a (w0.alloc (.cells c t)) :=
  wpList_plain hgd fun _ hK => by
    have hr := run_storeAt_new (P := P) w0 t c c' hi hs h1
    unfold Oper.wp execOp
    simp only [ho, hp, hx, hr, Sem.run_bind, Sem.run_pure, Result.andThen_ok]
    exact hK _ _ h
theorem run_load98 (w : World) (c : Array Value) (hc : c.size = 19) : (Instr.loadAt 98 (.pointer (some ⟨w.heap.size, 0, none⟩))).run Try.prog (w.alloc (.cells c 98)) = .ok (.agg c) (w.alloc (.cells c 98)) := by
  have h := run_loadCellsFrom_new (P := Try.prog) w 98 c 19 hc
  simp [Instr.loadAt, Instr.sureAddr, loadVar, loadCells, Try.isAgg98, Try.sizeOf98, h]
theorem wpList_load98 {ops : Array Oper} {rest : List Oper} {o : Oper} {a : Act} {Q : Exit → Act → World → Prop} {w0 : World} (hgd : o.guard = none) (p : Operand) (ho : o.op = .load 98 p)
    (c : Array Value) (hp : a.eval p = .pointer (some ⟨w0.heap.size, 0, none⟩)) (hc : c.size = 19)
    (h : wpList Try.prog ops Q rest (a.put o.dst (.agg c)) (w0.alloc (.cells c 98))) : wpList Try.prog ops Q (o :: rest) a (w0.alloc (.cells c 98)) :=
  wpList_plain hgd fun _ hK => by
    have hr := run_load98 w0 c hc
    unfold Oper.wp execOp
    simp only [ho, hp, hr, Sem.run_bind, Sem.run_pure, Result.andThen_ok]
    exact hK _ _ h
abbrev zero98 : Array Value := #[Value.int IntKind.u64 0, Value.int IntKind.u64 0, Value.int IntKind.u64 0, Value.int IntKind.u64 0, Value.pointer none, Value.pointer none, Value.pointer none, Value.int IntKind.u64 0, Value.int IntKind.u64 0, Value.int IntKind.u64 0, Value.int IntKind.u64 0, Value.slice none 0 0, Value.slice none 0 0, Value.pointer none, Value.int IntKind.i64 0, Value.int IntKind.i64 0, Value.int IntKind.i64 0, Value.int IntKind.i64 0, Value.slice none 0 0]
abbrev tab98 (b1 b2 b3 : Nat) : Array Value := #[Value.int IntKind.u64 0, Value.int IntKind.u64 0, Value.int IntKind.u64 0, Value.int IntKind.u64 0, Value.pointer (some { block := b1, off := 0 }), Value.pointer (some { block := b2, off := 0 }), Value.pointer (some { block := b3, off := 0 }), Value.int IntKind.u64 0, Value.int IntKind.u64 0, Value.int IntKind.u64 0, Value.int IntKind.u64 0, Value.slice none 0 0, Value.slice none 0 0, Value.pointer none, Value.int IntKind.i64 0, Value.int IntKind.i64 0, Value.int IntKind.i64 0, Value.int IntKind.i64 0, Value.slice none 0 0]
theorem all98 (b1 b2 b3 : Nat) : (tab98 b1 b2 b3).all (·.oneCell') = true := by simp [tab98, Value.oneCell']
theorem size98 : (Try.prog.info? 98).map (·.size) = some 19 := by kernel_rfl

set_option maxRecDepth 100000 in
set_option maxHeartbeats 2000000 in
theorem newLog_c (w : World) :
    Calls Try.prog 31 #[.nilIface] w fun e w' => ∃ lb, e = .returned (.pointer (some ⟨lb, 0, none⟩)) ∧ w.heap.size ≤ lb ∧ LogIs w' lb (.slice none 0 0) (.slice none 0 0) ∧ w.grownBy w' none := by
  go_enter Try.func31, Try.ntmps31
  go_wp2_with fail
  refine (memoryRows_c _ 20 (.inl rfl) w).mono ?_
  rintro e1 w1 ⟨b1, rfl, hg1⟩
  have G1 : Hid (w.grownBy w1 none) := hg1
  clear hg1
  go_wp2_with fail
  refine (memoryRows_c _ 16 (.inr rfl) w1).mono ?_
  rintro e2 w2 ⟨b2, rfl, hg2⟩
  have G2 : Hid (w.grownBy w2 none) := grown_trans G1.out hg2
  clear hg2
  go_wp2_with fail
  refine (memoryRows_c _ 16 (.inr rfl) w2).mono ?_
  rintro e3 w3 ⟨b3, rfl, hg3⟩
  have G3 : Hid (w.grownBy w3 none) := grown_trans G2.out hg3
  clear hg3
  rename_i K hK
  refine hK _ _ ?_
  go_step
  go_step
  go_step
  go_step
  go_step
  go_step
  refine wpList_store_new (w0 := w3) (c := zero98) rfl _ _ 98 rfl (tab98 b1 b2 b3) rfl rfl size98 rfl (all98 b1 b2 b3) ?_
  clear hK
  simp only [Act.put]
  repeat (first | (refine wpList_load98 (w0 := w3) rfl _ rfl (tab98 b1 b2 b3) rfl rfl ?_; simp only [Act.put]) | go_step)
  go_ret
  have hge : w.heap.size ≤ w3.heap.size := G3.out.size
  have hsz : (w3.alloc (.cells (tab98 b1 b2 b3) 98)).heap.size = w3.heap.size + 1 := by simp
  refine ⟨_, rfl, by omega, ⟨World.cell?_alloc_at _ _ _ _ hsz.symm, World.cell?_alloc_at _ _ _ _ hsz.symm, World.cell?_alloc_at _ _ _ _ hsz.symm, ⟨0, World.cell?_alloc_at _ _ _ _ hsz.symm⟩, ⟨.slice none 0 0, World.cell?_alloc_at _ _ _ _ hsz.symm⟩, fun o => World.frozen?_alloc_at _ _ _ _ hsz.symm⟩, grown_alloc (grown_alloc G3.out _) _⟩
end Go.Proofs.Qxb6615757a
