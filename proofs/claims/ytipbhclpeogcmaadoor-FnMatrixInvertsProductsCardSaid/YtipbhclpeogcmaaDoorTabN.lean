/- The facts on the tables of the field and on the errors that the walks of FnMatrixInvertsProducts read, as the row's condition lays them. -/
import Derived.Test.YtipbhclpeogcmaaDoorProg
import Derived.Test.YtipbhclpeogcmaaDoorField
import Derived.Below
namespace Go.Proofs.YtipbhclpeogcmaaDoor.M
open Go.RowKit
def errs : List Nat := [4, 5, 6, 7, 8, 1]
structure TabOK (w : World) : Prop where
  lg : ∀ j, j < 256 → w.cell? ⟨2, j, none⟩ = some (.int .u8 (Field.lg j : Nat))
  ex : ∀ j, j < 256 → w.cell? ⟨3, j, none⟩ = some (.int .u8 (Field.ex j : Nat))
  er : ∀ g : Nat, g ∈ errs → ∃ (t : TypeId) (x : Value), w.cell? ⟨g, 0, none⟩ = some (.iface t x)
theorem TabOK.below {w W : World} (h : TabOK w) (hb : Below w.heap.size w W) : TabOK W :=
  ⟨fun j hj => (hb.cell (World.block_lt_of_cell? w _ (h.lg j hj))).trans (h.lg j hj), fun j hj => (hb.cell (World.block_lt_of_cell? w _ (h.ex j hj))).trans (h.ex j hj),
   fun g hg => by
    obtain ⟨t, x, hx⟩ := h.er g hg
    exact ⟨t, x, (hb.cell (World.block_lt_of_cell? w _ hx)).trans hx⟩⟩
end Go.Proofs.YtipbhclpeogcmaaDoor.M
