/- The fact on the table of math/bits, out of the row's condition. -/
import Derived.Test.YtkmdkmlgahfcpaaDoorTab
import Derived.Test.YtkmdkmlgahfcpaaDoorRows
import Derived.Lib.LaidTab
import Derived.KernelRfl
namespace Go.Proofs.YtkmdkmlgahfcpaaDoor
open Go.RowKit
theorem tabOK_of_laid {W : World} (h : laidMet Tryd.prog [("math/bits.deBruijn64tab", Rows.laid_math_bits_deBruijn64tab)] W) : TabOK W := by
 have hg : Tryd.prog.globalNamed "math/bits.deBruijn64tab" = some 0 := by kernel_rfl
 have hT := Lib.tabIs_of_head (k := .u8) (zs := Lib.deBruijn64tab.map fun n : Nat => (n : Int)) hg (by kernel_rfl) Tryd.underlying181 Tryd.underlying5 (by kernel_rfl) (by kernel_rfl) h
 refine ⟨fun j hj => ?_⟩
 have := hT.cell hg j (by rw [List.length_map]; exact hj)
 rw [this]
 congr 2
 simp [List.getD_eq_getElem?_getD, List.getElem?_map]
 cases Lib.deBruijn64tab[j]? <;> rfl
end Go.Proofs.YtkmdkmlgahfcpaaDoor
