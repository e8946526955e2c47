/-
  THE WALK of FnMoveClaimScriptLastTaker at no step (a nil slice too).
-/
import Derived.Test.Qxb6615505aMid
import Derived.WalkKit
import Derived.WalkSpells
import Derived.WalkLawsBesides
import Derived.Deep.LoopGhost
namespace Go.Proofs.Qxb6615505a
open Go.RowKit
open Pl (CRec Key Tab)

theorem info32e : (Try.prog.info? 32).map (fun i => (i.zero, i.size, i.bytes)) = some (some (.pointer none), 1, 8) := by kernel_rfl

set_option maxRecDepth 100000 in
set_option maxHeartbeats 1000000 in
theorem script_empty (a : Option Addr) (cap : Nat) (w : World) :
    Calls Try.prog 3 #[.slice a 0 cap] w fun e w' => e = .returned (.bool true) ∧ w.grownBy w' none := by
  have hmm := @run_makeMap Try.prog
  have hmk : ∀ w : World, (Instr.makeSlice 31 (.int .i64 0) (.int .i64 0)).run Try.prog w = .ok (.slice (some ⟨w.heap.size, 0, none⟩) 0 0) (w.alloc (Obj.cells (madeCells #[Value.pointer none] 0) 32)) := fun w => run_make_row' (P := Try.prog) 31 32 (.pointer none) 8 Try.underlying31 info32e rfl .i64 .i64 0 (by omega) (by omega) w
  go_enter Try.func3, Try.ntmps3
  go_wp2_with fail
  refine (bytes_empty a cap w).mono ?_
  rintro e w0 ⟨⟨fits, rfl⟩, rfl⟩
  cases fits
  · go_wp2
    go_ret
    exact ⟨rfl, grown_refl _ _⟩
  go_wp2_with fail
  go_loopg [3, 4] 0 (fun g t i wr => i = .int .i64 0 ∧ wr = w0)
  case atStart => exact ⟨rfl, rfl⟩
  case round =>
    obtain ⟨rfl, hw0⟩ := hrel
    rw [hw0]
    clear hw0 wr
    go_wp2_with fail
    refine (newRecords_any _ _).mono ?_
    rintro e w1 ⟨rfl, c1, g1⟩
    have A1 : Hid (w0.grownBy w1 none ∧ MapIs w1 w0.heap.size 0 []) := ⟨(below_box w0 _).trans g1, (mapIs_made w0).kept g1 (by simp)⟩
    clear c1 g1
    go_wp2_with fail
    have A2 : Hid (w0.grownBy (w1.alloc (Obj.cells (madeCells #[Value.pointer none] 0) 32)) none ∧ MapIs (w1.alloc (Obj.cells (madeCells #[Value.pointer none] 0) 32)) w0.heap.size 0 []) := ⟨A1.out.1.trans (below_box _ _), A1.out.2.kept (below_box _ _) (by simp)⟩
    clear A1
    generalize w1.alloc (Obj.cells (madeCells #[Value.pointer none] 0) 32) = w2 at *
    go_loopg [8] 0 (fun g i wx => i = .int .i64 0 ∧ wx = w2)
    case atStart => exact ⟨rfl, rfl⟩
    case round =>
      obtain ⟨rfl, hw⟩ := hrel
      rw [hw]
      clear hw
      go_wp2_with fail
      go_loopg [11, 12] 0 (fun g c i wx => c = .int .i64 0 ∧ i = .int .i64 0 ∧ wx = w2)
      case atStart => exact ⟨rfl, rfl, rfl⟩
      case round =>
        obtain ⟨rfl, rfl, hw⟩ := hrel
        rw [hw]
        clear hw
        have hlen : ∀ ty, (Builtin.len_ #[28] ty #[.map (some w0.heap.size)]).run Try.prog w2 = .ok (.int .i64 0) w2 := fun ty => A2.out.2.len ty
        go_wp2
        go_ret
        exact ⟨rfl, A2.out.1⟩
end Go.Proofs.Qxb6615505a
