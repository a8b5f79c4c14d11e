/-
  A region that draws its order, whose operations read and whose callees may lay new blocks: walked once, in the class of the worlds that are as W was below W's size.
-/
import Derived.Below
import Derived.WalkKit
import Derived.WalkSpells
import Derived.Deep.QuietTactic
import Derived.BigQuiet
namespace Go.Proofs.Ybulkbprc
open Go.RowKit

structure Cl (W : World) where
  v : World
  h : Below W.heap.size W v

theorem wp_region_cls {P : Program} {id : Nat} {Q : Exit → Act → World → Prop} {a : Act} {W w : World} {l : List Oper} (hm : P.follows .mixedOrders = true) (hB : Region.lexB .any l.toArray = true) (hw : Below W.heap.size W w)
    (h : wpQuiet P l.toArray (fun w' => ∃ x : Cl W, w' = x.v) (fun a' => ∀ w', (∃ x : Cl W, w' = x.v) → Q .normal a' w') l a) : (Code.region id l.toArray true).wp P Q a w :=
  wp_region_quiet (C := fun w' => ∃ x : Cl W, w' = x.v) hm hB ⟨⟨_, hw.drew⟩, rfl⟩ (by simpa using h)

theorem Cl.cell {W : World} (x : Cl W) {a : Addr} {v : Value} (h : W.cell? a = some v) : x.v.cell? a = some v := (x.h.cell (World.block_lt_of_cell? W a h)).trans h

theorem cl_mk {W : World} (x : Cl W) {w' : World} (h : Below W.heap.size x.v w') : ∃ y : Cl W, w' = y.v := ⟨⟨w', x.h.trans h⟩, rfl⟩

end Go.Proofs.Ybulkbprc
