/- The facts on the tables of the field, out of a row's condition. -/
import Derived.Test.YtipbhclpeogcmaaDoorTabF
import Derived.Test.YtipbhclpeogcmaaDoorRows
import Derived.Lib.LaidTab
import Derived.LaidSub
import Derived.LaidOnce
import Derived.KernelRfl
namespace Go.Proofs.YtipbhclpeogcmaaDoor
open Go.RowKit
/-- The reading of the door's world, 'no place twice' by a set of bits. -/
theorem laidMet_bits {P : Program} {w : World} {l : List (String × DataW Unit)} (fuel M : Nat) (h : (DataW.laidRun P w fuel (l.map (·.1))).map (fun x => (x.1, nodupBits M x.2 0 && laidRowsB P w x.2)) = some (l, true)) : laidMet P l w := by
  rw [Option.map_eq_some_iff] at h
  obtain ⟨x, hx, e⟩ := h
  rw [Prod.mk.injEq, Bool.and_eq_true] at e
  obtain ⟨e1, e2, e3⟩ := e
  exact laidMet_of_run (ps := x.2) fuel (by rw [hx, ← e1]) (decide_eq_true (nodupBits_sound e2).1) e3
theorem log_cell : ∀ j : Fin 256, (Field.logTab.map fun n : Nat => (n : Int)).getD j.val 0 = ((Field.lg j.val : Nat) : Int) := by decide +kernel
theorem exp_cell : ∀ j : Fin 256, (Field.expTab.map fun n : Nat => (n : Int)).getD j.val 0 = ((Field.ex j.val : Nat) : Int) := by decide +kernel
set_option maxRecDepth 100000 in
/-- The row's condition lays the tables. -/
theorem tabOK_of_laid {rest : List (String × DataW Unit)} {W : World} (h : laidMet Tryd.prog (("pub-sarsen/pub/reedsolomon.logTable", Rows.laid_pub_sarsen_pub_reedsolomon_logTable) :: ("pub-sarsen/pub/reedsolomon.expTable", Rows.laid_pub_sarsen_pub_reedsolomon_expTable) :: rest) W) : TabOK W := by
  have hg : Tryd.prog.globalNamed "pub-sarsen/pub/reedsolomon.logTable" = some 2 := by kernel_rfl
  have hg2 : Tryd.prog.globalNamed "pub-sarsen/pub/reedsolomon.expTable" = some 3 := by kernel_rfl
  have hT := Lib.tabIs_of_head (k := .u8) (zs := Field.logTab.map fun n : Nat => (n : Int)) hg (by kernel_rfl) Tryd.underlying87 Tryd.underlying5 (by kernel_rfl) (by kernel_rfl) h
  have h2 := laidMet.filter (fun x => x.1 != "pub-sarsen/pub/reedsolomon.logTable") h
  rw [List.filter_cons_of_neg (by decide), List.filter_cons_of_pos (by decide)] at h2
  have hT2 := Lib.tabIs_of_head (k := .u8) (zs := Field.expTab.map fun n : Nat => (n : Int)) hg2 (by kernel_rfl) Tryd.underlying87 Tryd.underlying5 (by kernel_rfl) (by kernel_rfl) h2
  refine ⟨fun j hj => ?_, fun j hj => ?_⟩
  · have := hT.cell hg j (by rw [List.length_map]; exact hj)
    rw [this]
    have e := log_cell ⟨j, hj⟩
    dsimp only at e
    rw [e]
  · have := hT2.cell hg2 j (by rw [List.length_map]; exact hj)
    rw [this]
    have e := exp_cell ⟨j, hj⟩
    dsimp only at e
    rw [e]
end Go.Proofs.YtipbhclpeogcmaaDoor
