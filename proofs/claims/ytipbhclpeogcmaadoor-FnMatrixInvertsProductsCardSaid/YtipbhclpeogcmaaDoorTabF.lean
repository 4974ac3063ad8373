/- The facts on the tables of the field that the walks read, as the row's condition lays them. -/
import Derived.Test.YtipbhclpeogcmaaDoorProg
import Derived.Test.YtipbhclpeogcmaaDoorField
import Derived.Below
namespace Go.Proofs.YtipbhclpeogcmaaDoor
open Go.RowKit
structure TabOK (w : World) : Prop where
  lg : ∀ j, j < 256 → w.cell? ⟨2, j, none⟩ = some (.int .u8 (Field.lg j : Nat))
  ex : ∀ j, j < 256 → w.cell? ⟨3, j, none⟩ = some (.int .u8 (Field.ex j : Nat))
theorem TabOK.below {w W : World} (h : TabOK w) (hb : Below w.heap.size w W) : TabOK W :=
  ⟨fun j hj => (hb.cell (World.block_lt_of_cell? w _ (h.lg j hj))).trans (h.lg j hj), fun j hj => (hb.cell (World.block_lt_of_cell? w _ (h.ex j hj))).trans (h.ex j hj)⟩
end Go.Proofs.YtipbhclpeogcmaaDoor
