/-
  A region that draws its order, whose operations only read and whose callees may lay new blocks (a struct handed by value is boxed): one walk of the lexical order, in the class of worlds that are as W was below W's own size.
  On Derived/Deep/Quiet.lean's theorem, whose class of worlds is free.
-/
import Derived.WalkKit
import Derived.Deep.QuietTactic
import Derived.BigQuiet
namespace Go.Proofs.Qxb6604581a
open Go.RowKit

/-- A world that is as W was, new blocks apart. -/
structure Ext (W : World) where
  wd : World
  bel : Below W.heap.size W wd

theorem Ext.some (W : World) : Nonempty (Ext W) := ⟨⟨W, Below.refl _ _⟩⟩

theorem Ext.cell {W : World} {p : Addr} {v : Value} (h : W.cell? p = .some v) (y : Ext W) : y.wd.cell? p = .some v :=
  (y.bel.cell (World.block_lt_of_cell? _ _ h)).trans h

theorem Ext.frozen {W : World} {p : Addr} {v : Value} (h : W.cell? p = .some v) (f : W.frozen? p = false) (y : Ext W) : y.wd.frozen? p = false :=
  (y.bel.frozen (World.block_lt_of_cell? _ _ h)).trans f

/-- The region, its operations written out. -/
theorem wp_region_ext {P : Program} {id : Nat} {Q : Exit → Act → World → Prop} {a : Act} {w : World} {l : List Oper} (hm : P.follows .mixedOrders = true) (hB : Region.lexB .any l.toArray = true)
    (h : wpQuiet P l.toArray (fun w' => ∃ y : Ext w, w' = y.wd) (fun a' => ∀ w', (∃ y : Ext w, w' = y.wd) → Q .normal a' w') l a) : (Code.region id l.toArray true).wp P Q a w :=
  wp_region_quiet (C := fun w' => ∃ y : Ext w, w' = y.wd) hm hB ⟨⟨{ w with drawn := w.drawn + 1 }, ⟨rfl, rfl, rfl, Nat.le_refl _, fun _ _ => rfl⟩⟩, rfl⟩ (by simpa using h)

/-- A callee's contract that tells its value and 'Below', met in such a world. -/
theorem Ext.call {P : Program} {f : FuncId} {args : Array Value} {W : World} {y : Ext W} {v : Value}
    (h : Calls P f args y.wd fun e w' => e = .returned v ∧ Below y.wd.heap.size y.wd w') : Calls P f args y.wd fun e w'' => e = .returned v ∧ ∃ z : Ext W, w'' = z.wd :=
  h.mono fun _ w'' ⟨he, hb⟩ => ⟨he, ⟨w'', y.bel.trans (hb.mono y.bel.size)⟩, rfl⟩

end Go.Proofs.Qxb6604581a
