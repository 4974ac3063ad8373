/- The facts on the errors that FnCache's walks read, as the row's condition lays them. -/
import Derived.Test.YtlfmplhleglibaaDoorProg
import Derived.Below
namespace Go.Proofs.YtlfmplhleglibaaDoor.M
open Go.RowKit
def errs : List Nat := [2, 3, 4, 0, 1]
structure TabOK (w : World) : Prop where
  er : ∀ g : Nat, g ∈ errs → ∃ (t : TypeId) (x : Value), w.cell? ⟨g, 0, none⟩ = some (.iface t x)
theorem TabOK.below {w W : World} (h : TabOK w) (hb : Below w.heap.size w W) : TabOK W :=
  ⟨fun g hg => by
    obtain ⟨t, x, hx⟩ := h.er g hg
    exact ⟨t, x, (hb.cell (World.block_lt_of_cell? w _ hx)).trans hx⟩⟩
end Go.Proofs.YtlfmplhleglibaaDoor.M
