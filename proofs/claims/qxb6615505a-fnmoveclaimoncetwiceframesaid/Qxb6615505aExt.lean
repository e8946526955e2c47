/-
  A REGION THAT DRAWS ITS ORDER AND WHOSE CALLEES LAY NEW BLOCKS AND TURN NOTHING ELSE: one walk of the lexical order serves every order: the kit's 'wp_region_quiet' at the class 'worlds that are w with new blocks behind it'.
-/
import Derived.WalkKit
import Derived.Deep.QuietTactic
import Derived.BigQuiet
import Derived.Maps.OwnRows
namespace Go.Proofs.Qxb6615505a
/-- w with new blocks behind it; nothing that was there has turned -/
structure Ext (w : World) where
  val : World
  grown : w.grownBy val none
theorem wp_region_ext {P : Program} {id : Nat} {Q : Exit → Act → World → Prop} {a : Act} {w : World} {l : List Oper} (hm : P.follows .mixedOrders = true) (hB : Region.lexB .any l.toArray = true)
    (h : wpQuiet P l.toArray (fun w' => ∃ x : Ext w, w' = x.val) (fun a' => ∀ w', (∃ x : Ext w, w' = x.val) → Q .normal a' w') l a) : (Code.region id l.toArray true).wp P Q a w :=
  wp_region_quiet (C := fun w' => ∃ x : Ext w, w' = x.val) hm hB ⟨⟨{ w with drawn := w.drawn + 1 }, rfl, rfl, rfl, Nat.le_refl _, fun _ _ _ => rfl⟩, rfl⟩ (by simpa using h)
theorem ext_of {P : Program} {f : FuncId} {args : Array Value} {w : World} {x : Ext w} {v : Value} (h : Calls P f args x.val fun e w' => e = .returned v ∧ x.val.grownBy w' none) :
    Calls P f args x.val fun e w' => e = .returned v ∧ ∃ y : Ext w, w' = y.val :=
  h.mono fun _ w' ⟨he, hg⟩ => ⟨he, ⟨w', x.grown.trans hg⟩, rfl⟩
end Go.Proofs.Qxb6615505a
