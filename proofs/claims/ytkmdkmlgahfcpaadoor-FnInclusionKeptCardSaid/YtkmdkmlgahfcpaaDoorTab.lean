/- The package-level table of math/bits that the walks read, as the row's condition lays it. -/
import Derived.Test.YtkmdkmlgahfcpaaDoorProg
import Derived.Test.YtkmdkmlgahfcpaaDoorShelf
import Derived.Shelf.Spec.TrailingZeros
import Derived.Below
namespace Go.Proofs.YtkmdkmlgahfcpaaDoor
open Go.RowKit
structure TabOK (w : World) : Prop where
 tz : ∀ j, j < 64 → w.cell? ⟨0, j, none⟩ = some (.int .u8 (Lib.deBruijn64tab.getD j 0 : Nat))
theorem TabOK.below {w W : World} (h : TabOK w) (hb : Below w.heap.size w W) : TabOK W :=
 ⟨fun j hj => (hb.cell (World.block_lt_of_cell? w _ (h.tz j hj))).trans (h.tz j hj)⟩
end Go.Proofs.YtkmdkmlgahfcpaaDoor
