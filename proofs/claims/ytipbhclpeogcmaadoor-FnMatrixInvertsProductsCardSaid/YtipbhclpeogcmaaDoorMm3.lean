-- Written by a program of ours (wip/xp) out of the translation; Lean checks it.
import Derived.Test.YtipbhclpeogcmaaDoorSq
import Derived.Test.YtipbhclpeogcmaaDoorMm1
import Derived.Test.YtipbhclpeogcmaaDoorMm2
namespace Go.Proofs.YtipbhclpeogcmaaDoor.M
open Go.RowKit Go.Proofs.YtipbhclpeogcmaaDoorW.PrintWords Go.Proofs.YtipbhclpeogcmaaDoorW.PrintLast Go.Proofs.YtipbhclpeogcmaaDoorW.PrintMore
attribute [local go_sem] max2_int min2_int max_two min_two max_three min_three max_four min_four   -- for this text's walks alone
set_option linter.unusedVariables false
set_option linter.unusedSimpArgs false

/-! ### reedsolomon_matrix_gaussianElimination: function 61 -/
mutual
def reedsolomon_matrix_gaussianElimination.l0 : Nat → List (List Int) → Int → Int → Int → Int → Option (Option Int × (List (List Int)))
 | 0, _, _, _, _, _ => none
 | k + 1, x0, x3, x4, x23, x24 => if x24 < x23 then (if 0 ≤ x24 then (if x24 < (x0.length : Int) then (if x24 < ((rd_L1 x0 x24).length : Int) then (if (rd (rd_L1 x0 x24) x24) = 0 then (reedsolomon_matrix_gaussianElimination.l1 k x0 x3 x4 x24 (wrap64 (x24 + 1)) x23 x24) else (reedsolomon_matrix_gaussianElimination.j2 k x0 x3 x4 x24 x23 x24)) else (none)) else (none)) else (none)) else (reedsolomon_matrix_gaussianElimination.l5 k x0 x4 x3 0)
def reedsolomon_matrix_gaussianElimination.j2 : Nat → List (List Int) → Int → Int → Int → Int → Int → Option (Option Int × (List (List Int)))
 | 0, _, _, _, _, _, _ => none
 | k + 1, x0, x3, x4, x5, x23, x24 => if 0 ≤ x5 then (if x5 < (x0.length : Int) then (if x5 < ((rd_L1 x0 x5).length : Int) then (if (rd (rd_L1 x0 x5) x5) = 0 then (some (some 8, x0)) else (if (rd (rd_L1 x0 x5) x5) = 1 then (reedsolomon_matrix_gaussianElimination.j4 k x0 x3 x4 x5 x23 x24) else ((reedsolomon_galOneOver.f (rd (rd_L1 x0 x5) x5)).bind fun t219 => (reedsolomon_matrix_gaussianElimination.l2 k x0 x3 x4 x5 t219 x23 x24 x4 0)))) else (none)) else (none)) else (none)
def reedsolomon_matrix_gaussianElimination.j4 : Nat → List (List Int) → Int → Int → Int → Int → Int → Option (Option Int × (List (List Int)))
 | 0, _, _, _, _, _, _ => none
 | k + 1, x0, x3, x4, x5, x23, x24 => reedsolomon_matrix_gaussianElimination.l3 k x0 x3 x4 x5 (wrap64 (x5 + 1)) x23 x24
def reedsolomon_matrix_gaussianElimination.l3 : Nat → List (List Int) → Int → Int → Int → Int → Int → Int → Option (Option Int × (List (List Int)))
 | 0, _, _, _, _, _, _, _ => none
 | k + 1, x0, x3, x4, x5, x10, x23, x24 => if x10 < x3 then (if 0 ≤ x10 then (if x10 < (x0.length : Int) then (if 0 ≤ x5 then (if x5 < ((rd_L1 x0 x10).length : Int) then (if (rd (rd_L1 x0 x10) x5) = 0 then (reedsolomon_matrix_gaussianElimination.l3 k x0 x3 x4 x5 (wrap64 (x10 + 1)) x23 x24) else (reedsolomon_matrix_gaussianElimination.l4 k x0 x3 x4 x5 x10 (rd (rd_L1 x0 x10) x5) x23 x24 x4 0)) else (none)) else (none)) else (none)) else (none)) else (reedsolomon_matrix_gaussianElimination.l0 k x0 x3 x4 x23 (wrap64 (x24 + 1)))
def reedsolomon_matrix_gaussianElimination.l4 : Nat → List (List Int) → Int → Int → Int → Int → Int → Int → Int → Int → Int → Option (Option Int × (List (List Int)))
 | 0, _, _, _, _, _, _, _, _, _, _ => none
 | k + 1, x0, x3, x4, x5, x10, x11, x23, x24, x124, x125 => if x125 < x124 then (if 0 ≤ x10 then (if x10 < (x0.length : Int) then (if 0 ≤ x125 then (if x125 < ((rd_L1 x0 x10).length : Int) then (if 0 ≤ x5 then (if x5 < (x0.length : Int) then (if x125 < ((rd_L1 x0 x5).length : Int) then ((reedsolomon_galMultiply.f x11 (rd (rd_L1 x0 x5) x125)).bind fun t235 => (reedsolomon_matrix_gaussianElimination.l4 k (x0.set (x10 : Int).toNat ((rd_L1 x0 x10).set (x125 : Int).toNat (Go.bits .xor .u8 (rd (rd_L1 x0 x10) x125) t235))) x3 x4 x5 x10 x11 x23 x24 x124 (wrap64 (x125 + 1)))) else (none)) else (none)) else (none)) else (none)) else (none)) else (none)) else (none)) else (reedsolomon_matrix_gaussianElimination.l3 k x0 x3 x4 x5 (wrap64 (x10 + 1)) x23 x24)
def reedsolomon_matrix_gaussianElimination.l2 : Nat → List (List Int) → Int → Int → Int → Int → Int → Int → Int → Int → Option (Option Int × (List (List Int)))
 | 0, _, _, _, _, _, _, _, _, _ => none
 | k + 1, x0, x3, x4, x5, x8, x23, x24, x82, x83 => if x83 < x82 then (if 0 ≤ x5 then (if x5 < (x0.length : Int) then (if 0 ≤ x83 then (if x83 < ((rd_L1 x0 x5).length : Int) then ((reedsolomon_galMultiply.f (rd (rd_L1 x0 x5) x83) x8).bind fun t223 => (reedsolomon_matrix_gaussianElimination.l2 k (x0.set (x5 : Int).toNat ((rd_L1 x0 x5).set (x83 : Int).toNat t223)) x3 x4 x5 x8 x23 x24 x82 (wrap64 (x83 + 1)))) else (none)) else (none)) else (none)) else (none)) else (reedsolomon_matrix_gaussianElimination.j4 k x0 x3 x4 x5 x23 x24)
def reedsolomon_matrix_gaussianElimination.l1 : Nat → List (List Int) → Int → Int → Int → Int → Int → Int → Option (Option Int × (List (List Int)))
 | 0, _, _, _, _, _, _, _ => none
 | k + 1, x0, x3, x4, x5, x6, x23, x24 => if x6 < x3 then (if 0 ≤ x6 then (if x6 < (x0.length : Int) then (if 0 ≤ x5 then (if x5 < ((rd_L1 x0 x6).length : Int) then (if (rd (rd_L1 x0 x6) x5) = 0 then (reedsolomon_matrix_gaussianElimination.l1 k x0 x3 x4 x5 (wrap64 (x6 + 1)) x23 x24) else ((reedsolomon_matrix_SwapRows.f x0 x5 x6).bind fun bt210 => (if bt210.1.isNone = true then (reedsolomon_matrix_gaussianElimination.j2 k bt210.2 x3 x4 x5 x23 x24) else (some (some (bt210.1.getD 0), bt210.2))))) else (none)) else (none)) else (none)) else (none)) else (reedsolomon_matrix_gaussianElimination.j2 k x0 x3 x4 x5 x23 x24)
def reedsolomon_matrix_gaussianElimination.l5 : Nat → List (List Int) → Int → Int → Int → Option (Option Int × (List (List Int)))
 | 0, _, _, _, _ => none
 | k + 1, x0, x4, x148, x149 => if x149 < x148 then (reedsolomon_matrix_gaussianElimination.l6 k x0 x4 x149 x148 x149 x149 0) else (some (none, x0))
def reedsolomon_matrix_gaussianElimination.l6 : Nat → List (List Int) → Int → Int → Int → Int → Int → Int → Option (Option Int × (List (List Int)))
 | 0, _, _, _, _, _, _, _ => none
 | k + 1, x0, x4, x13, x148, x149, x152, x153 => if x153 < x152 then (if 0 ≤ x153 then (if x153 < (x0.length : Int) then (if 0 ≤ x13 then (if x13 < ((rd_L1 x0 x153).length : Int) then (if (rd (rd_L1 x0 x153) x13) = 0 then (reedsolomon_matrix_gaussianElimination.l6 k x0 x4 x13 x148 x149 x152 (wrap64 (x153 + 1))) else (reedsolomon_matrix_gaussianElimination.l7 k x0 x4 x13 x153 (rd (rd_L1 x0 x153) x13) x148 x149 x152 x153 x4 0)) else (none)) else (none)) else (none)) else (none)) else (reedsolomon_matrix_gaussianElimination.l5 k x0 x4 x148 (wrap64 (x149 + 1)))
def reedsolomon_matrix_gaussianElimination.l7 : Nat → List (List Int) → Int → Int → Int → Int → Int → Int → Int → Int → Int → Int → Option (Option Int × (List (List Int)))
 | 0, _, _, _, _, _, _, _, _, _, _, _ => none
 | k + 1, x0, x4, x13, x14, x15, x148, x149, x152, x153, x171, x172 => if x172 < x171 then (if 0 ≤ x14 then (if x14 < (x0.length : Int) then (if 0 ≤ x172 then (if x172 < ((rd_L1 x0 x14).length : Int) then (if 0 ≤ x13 then (if x13 < (x0.length : Int) then (if x172 < ((rd_L1 x0 x13).length : Int) then ((reedsolomon_galMultiply.f x15 (rd (rd_L1 x0 x13) x172)).bind fun t247 => (reedsolomon_matrix_gaussianElimination.l7 k (x0.set (x14 : Int).toNat ((rd_L1 x0 x14).set (x172 : Int).toNat (Go.bits .xor .u8 (rd (rd_L1 x0 x14) x172) t247))) x4 x13 x14 x15 x148 x149 x152 x153 x171 (wrap64 (x172 + 1)))) else (none)) else (none)) else (none)) else (none)) else (none)) else (none)) else (none)) else (reedsolomon_matrix_gaussianElimination.l6 k x0 x4 x13 x148 x149 x152 (wrap64 (x153 + 1)))
end
def reedsolomon_matrix_gaussianElimination.f (k : Nat) (l0 : List (List Int)) : Option (Option Int × (List (List Int))) := if 0 < (l0.length : Int) then (reedsolomon_matrix_gaussianElimination.l0 k l0 (l0.length : Int) ((rd_L1 l0 0).length : Int) (l0.length : Int) 0) else (none)
theorem reedsolomon_matrix_gaussianElimination.mono_l : ∀ k, (∀ y0 y1 y2 y3 y4, LeO (reedsolomon_matrix_gaussianElimination.l0 k y0 y1 y2 y3 y4) (reedsolomon_matrix_gaussianElimination.l0 (k + 1) y0 y1 y2 y3 y4)) ∧ (∀ y0 y1 y2 y3 y4 y5, LeO (reedsolomon_matrix_gaussianElimination.j2 k y0 y1 y2 y3 y4 y5) (reedsolomon_matrix_gaussianElimination.j2 (k + 1) y0 y1 y2 y3 y4 y5)) ∧ (∀ y0 y1 y2 y3 y4 y5, LeO (reedsolomon_matrix_gaussianElimination.j4 k y0 y1 y2 y3 y4 y5) (reedsolomon_matrix_gaussianElimination.j4 (k + 1) y0 y1 y2 y3 y4 y5)) ∧ (∀ y0 y1 y2 y3 y4 y5 y6, LeO (reedsolomon_matrix_gaussianElimination.l3 k y0 y1 y2 y3 y4 y5 y6) (reedsolomon_matrix_gaussianElimination.l3 (k + 1) y0 y1 y2 y3 y4 y5 y6)) ∧ (∀ y0 y1 y2 y3 y4 y5 y6 y7 y8 y9, LeO (reedsolomon_matrix_gaussianElimination.l4 k y0 y1 y2 y3 y4 y5 y6 y7 y8 y9) (reedsolomon_matrix_gaussianElimination.l4 (k + 1) y0 y1 y2 y3 y4 y5 y6 y7 y8 y9)) ∧ (∀ y0 y1 y2 y3 y4 y5 y6 y7 y8, LeO (reedsolomon_matrix_gaussianElimination.l2 k y0 y1 y2 y3 y4 y5 y6 y7 y8) (reedsolomon_matrix_gaussianElimination.l2 (k + 1) y0 y1 y2 y3 y4 y5 y6 y7 y8)) ∧ (∀ y0 y1 y2 y3 y4 y5 y6, LeO (reedsolomon_matrix_gaussianElimination.l1 k y0 y1 y2 y3 y4 y5 y6) (reedsolomon_matrix_gaussianElimination.l1 (k + 1) y0 y1 y2 y3 y4 y5 y6)) ∧ (∀ y0 y1 y2 y3, LeO (reedsolomon_matrix_gaussianElimination.l5 k y0 y1 y2 y3) (reedsolomon_matrix_gaussianElimination.l5 (k + 1) y0 y1 y2 y3)) ∧ (∀ y0 y1 y2 y3 y4 y5 y6, LeO (reedsolomon_matrix_gaussianElimination.l6 k y0 y1 y2 y3 y4 y5 y6) (reedsolomon_matrix_gaussianElimination.l6 (k + 1) y0 y1 y2 y3 y4 y5 y6)) ∧ (∀ y0 y1 y2 y3 y4 y5 y6 y7 y8 y9 y10, LeO (reedsolomon_matrix_gaussianElimination.l7 k y0 y1 y2 y3 y4 y5 y6 y7 y8 y9 y10) (reedsolomon_matrix_gaussianElimination.l7 (k + 1) y0 y1 y2 y3 y4 y5 y6 y7 y8 y9 y10))
 | 0 => ⟨fun _ _ _ _ _ r h => by simp [reedsolomon_matrix_gaussianElimination.l0] at h, fun _ _ _ _ _ _ r h => by simp [reedsolomon_matrix_gaussianElimination.j2] at h, fun _ _ _ _ _ _ r h => by simp [reedsolomon_matrix_gaussianElimination.j4] at h, fun _ _ _ _ _ _ _ r h => by simp [reedsolomon_matrix_gaussianElimination.l3] at h, fun _ _ _ _ _ _ _ _ _ _ r h => by simp [reedsolomon_matrix_gaussianElimination.l4] at h, fun _ _ _ _ _ _ _ _ _ r h => by simp [reedsolomon_matrix_gaussianElimination.l2] at h, fun _ _ _ _ _ _ _ r h => by simp [reedsolomon_matrix_gaussianElimination.l1] at h, fun _ _ _ _ r h => by simp [reedsolomon_matrix_gaussianElimination.l5] at h, fun _ _ _ _ _ _ _ r h => by simp [reedsolomon_matrix_gaussianElimination.l6] at h, fun _ _ _ _ _ _ _ _ _ _ _ r h => by simp [reedsolomon_matrix_gaussianElimination.l7] at h⟩
 | k + 1 => by
  obtain ⟨ih0, ih1, ih2, ih3, ih4, ih5, ih6, ih7, ih8, ih9⟩ := reedsolomon_matrix_gaussianElimination.mono_l k
  refine ⟨?_, ?_, ?_, ?_, ?_, ?_, ?_, ?_, ?_, ?_⟩
  ·intro y0 y1 y2 y3 y4
   unfold reedsolomon_matrix_gaussianElimination.l0
   repeat' first
   | (with_reducible exact ih0 _ _ _ _ _)
   | (with_reducible exact ih1 _ _ _ _ _ _)
   | (with_reducible exact ih2 _ _ _ _ _ _)
   | (with_reducible exact ih3 _ _ _ _ _ _ _)
   | (with_reducible exact ih4 _ _ _ _ _ _ _ _ _ _)
   | (with_reducible exact ih5 _ _ _ _ _ _ _ _ _)
   | (with_reducible exact ih6 _ _ _ _ _ _ _)
   | (with_reducible exact ih7 _ _ _ _)
   | (with_reducible exact ih8 _ _ _ _ _ _ _)
   | (with_reducible exact ih9 _ _ _ _ _ _ _ _ _ _ _)
   | (with_reducible exact LeO.refl _)
   | (with_reducible exact LeO.none _)
   | (with_reducible refine LeO.ite ?_ ?_)
   | (with_reducible refine LeO.bind ?_ (fun _ => ?_))
   | exact ih0 _ _ _ _ _
   | exact ih1 _ _ _ _ _ _
   | exact ih2 _ _ _ _ _ _
   | exact ih3 _ _ _ _ _ _ _
   | exact ih4 _ _ _ _ _ _ _ _ _ _
   | exact ih5 _ _ _ _ _ _ _ _ _
   | exact ih6 _ _ _ _ _ _ _
   | exact ih7 _ _ _ _
   | exact ih8 _ _ _ _ _ _ _
   | exact ih9 _ _ _ _ _ _ _ _ _ _ _
   | exact LeO.none _
   | refine LeO.ite ?_ ?_
   | refine LeO.bind ?_ (fun _ => ?_)
  ·intro y0 y1 y2 y3 y4 y5
   unfold reedsolomon_matrix_gaussianElimination.j2
   repeat' first
   | (with_reducible exact ih0 _ _ _ _ _)
   | (with_reducible exact ih1 _ _ _ _ _ _)
   | (with_reducible exact ih2 _ _ _ _ _ _)
   | (with_reducible exact ih3 _ _ _ _ _ _ _)
   | (with_reducible exact ih4 _ _ _ _ _ _ _ _ _ _)
   | (with_reducible exact ih5 _ _ _ _ _ _ _ _ _)
   | (with_reducible exact ih6 _ _ _ _ _ _ _)
   | (with_reducible exact ih7 _ _ _ _)
   | (with_reducible exact ih8 _ _ _ _ _ _ _)
   | (with_reducible exact ih9 _ _ _ _ _ _ _ _ _ _ _)
   | (with_reducible exact LeO.refl _)
   | (with_reducible exact LeO.none _)
   | (with_reducible refine LeO.ite ?_ ?_)
   | (with_reducible refine LeO.bind ?_ (fun _ => ?_))
   | exact ih0 _ _ _ _ _
   | exact ih1 _ _ _ _ _ _
   | exact ih2 _ _ _ _ _ _
   | exact ih3 _ _ _ _ _ _ _
   | exact ih4 _ _ _ _ _ _ _ _ _ _
   | exact ih5 _ _ _ _ _ _ _ _ _
   | exact ih6 _ _ _ _ _ _ _
   | exact ih7 _ _ _ _
   | exact ih8 _ _ _ _ _ _ _
   | exact ih9 _ _ _ _ _ _ _ _ _ _ _
   | exact LeO.none _
   | refine LeO.ite ?_ ?_
   | refine LeO.bind ?_ (fun _ => ?_)
  ·intro y0 y1 y2 y3 y4 y5
   unfold reedsolomon_matrix_gaussianElimination.j4
   repeat' first
   | (with_reducible exact ih0 _ _ _ _ _)
   | (with_reducible exact ih1 _ _ _ _ _ _)
   | (with_reducible exact ih2 _ _ _ _ _ _)
   | (with_reducible exact ih3 _ _ _ _ _ _ _)
   | (with_reducible exact ih4 _ _ _ _ _ _ _ _ _ _)
   | (with_reducible exact ih5 _ _ _ _ _ _ _ _ _)
   | (with_reducible exact ih6 _ _ _ _ _ _ _)
   | (with_reducible exact ih7 _ _ _ _)
   | (with_reducible exact ih8 _ _ _ _ _ _ _)
   | (with_reducible exact ih9 _ _ _ _ _ _ _ _ _ _ _)
   | (with_reducible exact LeO.refl _)
   | (with_reducible exact LeO.none _)
   | (with_reducible refine LeO.ite ?_ ?_)
   | (with_reducible refine LeO.bind ?_ (fun _ => ?_))
   | exact ih0 _ _ _ _ _
   | exact ih1 _ _ _ _ _ _
   | exact ih2 _ _ _ _ _ _
   | exact ih3 _ _ _ _ _ _ _
   | exact ih4 _ _ _ _ _ _ _ _ _ _
   | exact ih5 _ _ _ _ _ _ _ _ _
   | exact ih6 _ _ _ _ _ _ _
   | exact ih7 _ _ _ _
   | exact ih8 _ _ _ _ _ _ _
   | exact ih9 _ _ _ _ _ _ _ _ _ _ _
   | exact LeO.none _
   | refine LeO.ite ?_ ?_
   | refine LeO.bind ?_ (fun _ => ?_)
  ·intro y0 y1 y2 y3 y4 y5 y6
   unfold reedsolomon_matrix_gaussianElimination.l3
   repeat' first
   | (with_reducible exact ih0 _ _ _ _ _)
   | (with_reducible exact ih1 _ _ _ _ _ _)
   | (with_reducible exact ih2 _ _ _ _ _ _)
   | (with_reducible exact ih3 _ _ _ _ _ _ _)
   | (with_reducible exact ih4 _ _ _ _ _ _ _ _ _ _)
   | (with_reducible exact ih5 _ _ _ _ _ _ _ _ _)
   | (with_reducible exact ih6 _ _ _ _ _ _ _)
   | (with_reducible exact ih7 _ _ _ _)
   | (with_reducible exact ih8 _ _ _ _ _ _ _)
   | (with_reducible exact ih9 _ _ _ _ _ _ _ _ _ _ _)
   | (with_reducible exact LeO.refl _)
   | (with_reducible exact LeO.none _)
   | (with_reducible refine LeO.ite ?_ ?_)
   | (with_reducible refine LeO.bind ?_ (fun _ => ?_))
   | exact ih0 _ _ _ _ _
   | exact ih1 _ _ _ _ _ _
   | exact ih2 _ _ _ _ _ _
   | exact ih3 _ _ _ _ _ _ _
   | exact ih4 _ _ _ _ _ _ _ _ _ _
   | exact ih5 _ _ _ _ _ _ _ _ _
   | exact ih6 _ _ _ _ _ _ _
   | exact ih7 _ _ _ _
   | exact ih8 _ _ _ _ _ _ _
   | exact ih9 _ _ _ _ _ _ _ _ _ _ _
   | exact LeO.none _
   | refine LeO.ite ?_ ?_
   | refine LeO.bind ?_ (fun _ => ?_)
  ·intro y0 y1 y2 y3 y4 y5 y6 y7 y8 y9
   unfold reedsolomon_matrix_gaussianElimination.l4
   repeat' first
   | (with_reducible exact ih0 _ _ _ _ _)
   | (with_reducible exact ih1 _ _ _ _ _ _)
   | (with_reducible exact ih2 _ _ _ _ _ _)
   | (with_reducible exact ih3 _ _ _ _ _ _ _)
   | (with_reducible exact ih4 _ _ _ _ _ _ _ _ _ _)
   | (with_reducible exact ih5 _ _ _ _ _ _ _ _ _)
   | (with_reducible exact ih6 _ _ _ _ _ _ _)
   | (with_reducible exact ih7 _ _ _ _)
   | (with_reducible exact ih8 _ _ _ _ _ _ _)
   | (with_reducible exact ih9 _ _ _ _ _ _ _ _ _ _ _)
   | (with_reducible exact LeO.refl _)
   | (with_reducible exact LeO.none _)
   | (with_reducible refine LeO.ite ?_ ?_)
   | (with_reducible refine LeO.bind ?_ (fun _ => ?_))
   | exact ih0 _ _ _ _ _
   | exact ih1 _ _ _ _ _ _
   | exact ih2 _ _ _ _ _ _
   | exact ih3 _ _ _ _ _ _ _
   | exact ih4 _ _ _ _ _ _ _ _ _ _
   | exact ih5 _ _ _ _ _ _ _ _ _
   | exact ih6 _ _ _ _ _ _ _
   | exact ih7 _ _ _ _
   | exact ih8 _ _ _ _ _ _ _
   | exact ih9 _ _ _ _ _ _ _ _ _ _ _
   | exact LeO.none _
   | refine LeO.ite ?_ ?_
   | refine LeO.bind ?_ (fun _ => ?_)
  ·intro y0 y1 y2 y3 y4 y5 y6 y7 y8
   unfold reedsolomon_matrix_gaussianElimination.l2
   repeat' first
   | (with_reducible exact ih0 _ _ _ _ _)
   | (with_reducible exact ih1 _ _ _ _ _ _)
   | (with_reducible exact ih2 _ _ _ _ _ _)
   | (with_reducible exact ih3 _ _ _ _ _ _ _)
   | (with_reducible exact ih4 _ _ _ _ _ _ _ _ _ _)
   | (with_reducible exact ih5 _ _ _ _ _ _ _ _ _)
   | (with_reducible exact ih6 _ _ _ _ _ _ _)
   | (with_reducible exact ih7 _ _ _ _)
   | (with_reducible exact ih8 _ _ _ _ _ _ _)
   | (with_reducible exact ih9 _ _ _ _ _ _ _ _ _ _ _)
   | (with_reducible exact LeO.refl _)
   | (with_reducible exact LeO.none _)
   | (with_reducible refine LeO.ite ?_ ?_)
   | (with_reducible refine LeO.bind ?_ (fun _ => ?_))
   | exact ih0 _ _ _ _ _
   | exact ih1 _ _ _ _ _ _
   | exact ih2 _ _ _ _ _ _
   | exact ih3 _ _ _ _ _ _ _
   | exact ih4 _ _ _ _ _ _ _ _ _ _
   | exact ih5 _ _ _ _ _ _ _ _ _
   | exact ih6 _ _ _ _ _ _ _
   | exact ih7 _ _ _ _
   | exact ih8 _ _ _ _ _ _ _
   | exact ih9 _ _ _ _ _ _ _ _ _ _ _
   | exact LeO.none _
   | refine LeO.ite ?_ ?_
   | refine LeO.bind ?_ (fun _ => ?_)
  ·intro y0 y1 y2 y3 y4 y5 y6
   unfold reedsolomon_matrix_gaussianElimination.l1
   repeat' first
   | (with_reducible exact ih0 _ _ _ _ _)
   | (with_reducible exact ih1 _ _ _ _ _ _)
   | (with_reducible exact ih2 _ _ _ _ _ _)
   | (with_reducible exact ih3 _ _ _ _ _ _ _)
   | (with_reducible exact ih4 _ _ _ _ _ _ _ _ _ _)
   | (with_reducible exact ih5 _ _ _ _ _ _ _ _ _)
   | (with_reducible exact ih6 _ _ _ _ _ _ _)
   | (with_reducible exact ih7 _ _ _ _)
   | (with_reducible exact ih8 _ _ _ _ _ _ _)
   | (with_reducible exact ih9 _ _ _ _ _ _ _ _ _ _ _)
   | (with_reducible exact LeO.refl _)
   | (with_reducible exact LeO.none _)
   | (with_reducible refine LeO.ite ?_ ?_)
   | (with_reducible refine LeO.bind ?_ (fun _ => ?_))
   | exact ih0 _ _ _ _ _
   | exact ih1 _ _ _ _ _ _
   | exact ih2 _ _ _ _ _ _
   | exact ih3 _ _ _ _ _ _ _
   | exact ih4 _ _ _ _ _ _ _ _ _ _
   | exact ih5 _ _ _ _ _ _ _ _ _
   | exact ih6 _ _ _ _ _ _ _
   | exact ih7 _ _ _ _
   | exact ih8 _ _ _ _ _ _ _
   | exact ih9 _ _ _ _ _ _ _ _ _ _ _
   | exact LeO.none _
   | refine LeO.ite ?_ ?_
   | refine LeO.bind ?_ (fun _ => ?_)
  ·intro y0 y1 y2 y3
   unfold reedsolomon_matrix_gaussianElimination.l5
   repeat' first
   | (with_reducible exact ih0 _ _ _ _ _)
   | (with_reducible exact ih1 _ _ _ _ _ _)
   | (with_reducible exact ih2 _ _ _ _ _ _)
   | (with_reducible exact ih3 _ _ _ _ _ _ _)
   | (with_reducible exact ih4 _ _ _ _ _ _ _ _ _ _)
   | (with_reducible exact ih5 _ _ _ _ _ _ _ _ _)
   | (with_reducible exact ih6 _ _ _ _ _ _ _)
   | (with_reducible exact ih7 _ _ _ _)
   | (with_reducible exact ih8 _ _ _ _ _ _ _)
   | (with_reducible exact ih9 _ _ _ _ _ _ _ _ _ _ _)
   | (with_reducible exact LeO.refl _)
   | (with_reducible exact LeO.none _)
   | (with_reducible refine LeO.ite ?_ ?_)
   | (with_reducible refine LeO.bind ?_ (fun _ => ?_))
   | exact ih0 _ _ _ _ _
   | exact ih1 _ _ _ _ _ _
   | exact ih2 _ _ _ _ _ _
   | exact ih3 _ _ _ _ _ _ _
   | exact ih4 _ _ _ _ _ _ _ _ _ _
   | exact ih5 _ _ _ _ _ _ _ _ _
   | exact ih6 _ _ _ _ _ _ _
   | exact ih7 _ _ _ _
   | exact ih8 _ _ _ _ _ _ _
   | exact ih9 _ _ _ _ _ _ _ _ _ _ _
   | exact LeO.none _
   | refine LeO.ite ?_ ?_
   | refine LeO.bind ?_ (fun _ => ?_)
  ·intro y0 y1 y2 y3 y4 y5 y6
   unfold reedsolomon_matrix_gaussianElimination.l6
   repeat' first
   | (with_reducible exact ih0 _ _ _ _ _)
   | (with_reducible exact ih1 _ _ _ _ _ _)
   | (with_reducible exact ih2 _ _ _ _ _ _)
   | (with_reducible exact ih3 _ _ _ _ _ _ _)
   | (with_reducible exact ih4 _ _ _ _ _ _ _ _ _ _)
   | (with_reducible exact ih5 _ _ _ _ _ _ _ _ _)
   | (with_reducible exact ih6 _ _ _ _ _ _ _)
   | (with_reducible exact ih7 _ _ _ _)
   | (with_reducible exact ih8 _ _ _ _ _ _ _)
   | (with_reducible exact ih9 _ _ _ _ _ _ _ _ _ _ _)
   | (with_reducible exact LeO.refl _)
   | (with_reducible exact LeO.none _)
   | (with_reducible refine LeO.ite ?_ ?_)
   | (with_reducible refine LeO.bind ?_ (fun _ => ?_))
   | exact ih0 _ _ _ _ _
   | exact ih1 _ _ _ _ _ _
   | exact ih2 _ _ _ _ _ _
   | exact ih3 _ _ _ _ _ _ _
   | exact ih4 _ _ _ _ _ _ _ _ _ _
   | exact ih5 _ _ _ _ _ _ _ _ _
   | exact ih6 _ _ _ _ _ _ _
   | exact ih7 _ _ _ _
   | exact ih8 _ _ _ _ _ _ _
   | exact ih9 _ _ _ _ _ _ _ _ _ _ _
   | exact LeO.none _
   | refine LeO.ite ?_ ?_
   | refine LeO.bind ?_ (fun _ => ?_)
  ·intro y0 y1 y2 y3 y4 y5 y6 y7 y8 y9 y10
   unfold reedsolomon_matrix_gaussianElimination.l7
   repeat' first
   | (with_reducible exact ih0 _ _ _ _ _)
   | (with_reducible exact ih1 _ _ _ _ _ _)
   | (with_reducible exact ih2 _ _ _ _ _ _)
   | (with_reducible exact ih3 _ _ _ _ _ _ _)
   | (with_reducible exact ih4 _ _ _ _ _ _ _ _ _ _)
   | (with_reducible exact ih5 _ _ _ _ _ _ _ _ _)
   | (with_reducible exact ih6 _ _ _ _ _ _ _)
   | (with_reducible exact ih7 _ _ _ _)
   | (with_reducible exact ih8 _ _ _ _ _ _ _)
   | (with_reducible exact ih9 _ _ _ _ _ _ _ _ _ _ _)
   | (with_reducible exact LeO.refl _)
   | (with_reducible exact LeO.none _)
   | (with_reducible refine LeO.ite ?_ ?_)
   | (with_reducible refine LeO.bind ?_ (fun _ => ?_))
   | exact ih0 _ _ _ _ _
   | exact ih1 _ _ _ _ _ _
   | exact ih2 _ _ _ _ _ _
   | exact ih3 _ _ _ _ _ _ _
   | exact ih4 _ _ _ _ _ _ _ _ _ _
   | exact ih5 _ _ _ _ _ _ _ _ _
   | exact ih6 _ _ _ _ _ _ _
   | exact ih7 _ _ _ _
   | exact ih8 _ _ _ _ _ _ _
   | exact ih9 _ _ _ _ _ _ _ _ _ _ _
   | exact LeO.none _
   | refine LeO.ite ?_ ?_
   | refine LeO.bind ?_ (fun _ => ?_)
theorem reedsolomon_matrix_gaussianElimination.mono : ∀ a0 k, LeO (reedsolomon_matrix_gaussianElimination.f k a0) (reedsolomon_matrix_gaussianElimination.f (k + 1) a0) := by
 intro a0 k
 obtain ⟨ih0, ih1, ih2, ih3, ih4, ih5, ih6, ih7, ih8, ih9⟩ := reedsolomon_matrix_gaussianElimination.mono_l k
 unfold reedsolomon_matrix_gaussianElimination.f
 repeat' first
   | (with_reducible exact ih0 _ _ _ _ _)
   | (with_reducible exact ih1 _ _ _ _ _ _)
   | (with_reducible exact ih2 _ _ _ _ _ _)
   | (with_reducible exact ih3 _ _ _ _ _ _ _)
   | (with_reducible exact ih4 _ _ _ _ _ _ _ _ _ _)
   | (with_reducible exact ih5 _ _ _ _ _ _ _ _ _)
   | (with_reducible exact ih6 _ _ _ _ _ _ _)
   | (with_reducible exact ih7 _ _ _ _)
   | (with_reducible exact ih8 _ _ _ _ _ _ _)
   | (with_reducible exact ih9 _ _ _ _ _ _ _ _ _ _ _)
   | (with_reducible exact LeO.refl _)
   | (with_reducible exact LeO.none _)
   | (with_reducible refine LeO.ite ?_ ?_)
   | (with_reducible refine LeO.bind ?_ (fun _ => ?_))
   | exact ih0 _ _ _ _ _
   | exact ih1 _ _ _ _ _ _
   | exact ih2 _ _ _ _ _ _
   | exact ih3 _ _ _ _ _ _ _
   | exact ih4 _ _ _ _ _ _ _ _ _ _
   | exact ih5 _ _ _ _ _ _ _ _ _
   | exact ih6 _ _ _ _ _ _ _
   | exact ih7 _ _ _ _
   | exact ih8 _ _ _ _ _ _ _
   | exact ih9 _ _ _ _ _ _ _ _ _ _ _
   | exact LeO.none _
   | refine LeO.ite ?_ ?_
   | refine LeO.bind ?_ (fun _ => ?_)
def reedsolomon_matrix_gaussianElimination.T21 : Bool × List (List Nat × List Nat) := (true, [([], []), ([], []), ([0, 1], [0, 1]), ([2], [2]), ([], []), ([], []), ([], []), ([5, 6], [5, 6]), ([7], [7]), ([], []), ([8, 9], [8, 9]), ([10], [10]), ([], []), ([11, 12], [11, 12]), ([3, 4, 0, 1, 2, 3, 4, 5, 6, 7, 8, 9, 10, 11, 12, 13], [3, 4]), ([14, 13, 13, 0, 1, 2, 3, 4, 5, 6, 7, 8, 9, 10, 11, 12, 13], [13, 14])])
def reedsolomon_matrix_gaussianElimination.B21 : List Nat := [0, 0, 3, 7, 0, 0, 0, 96, 224, 0, 992, 2016, 0, 8160, 16383, 32767]
theorem reedsolomon_matrix_gaussianElimination.tab21 : rtab .any (opsOf Tryd.f61 21) = reedsolomon_matrix_gaussianElimination.T21 := by kernel_rfl
theorem reedsolomon_matrix_gaussianElimination.bits21 : waitsOk reedsolomon_matrix_gaussianElimination.T21.2 reedsolomon_matrix_gaussianElimination.B21 = true := by kernel_rfl
def reedsolomon_matrix_gaussianElimination.T31 : Bool × List (List Nat × List Nat) := (true, [([], []), ([], []), ([0, 1], [0, 1]), ([2], [2]), ([], []), ([3, 4], [3, 4]), ([5], [5]), ([], []), ([], []), ([], []), ([8, 9], [8, 9]), ([10], [10]), ([], []), ([11, 12], [11, 12]), ([13], [13]), ([7, 14], [7, 14]), ([6, 15], [6, 15]), ([3, 4, 0, 1, 2, 3, 4, 5, 6, 7, 8, 9, 10, 11, 12, 13, 14, 15, 16], [3, 4]), ([17, 16, 15, 0, 1, 2, 3, 4, 5, 6, 7, 8, 9, 10, 11, 12, 13, 14, 15, 16], [16, 17])])
def reedsolomon_matrix_gaussianElimination.B31 : List Nat := [0, 0, 3, 7, 0, 31, 63, 0, 0, 0, 768, 1792, 0, 7936, 16128, 32640, 65535, 131071, 262143]
theorem reedsolomon_matrix_gaussianElimination.tab31 : rtab .any (opsOf Tryd.f61 31) = reedsolomon_matrix_gaussianElimination.T31 := by kernel_rfl
theorem reedsolomon_matrix_gaussianElimination.bits31 : waitsOk reedsolomon_matrix_gaussianElimination.T31.2 reedsolomon_matrix_gaussianElimination.B31 = true := by kernel_rfl
def reedsolomon_matrix_gaussianElimination.T45 : Bool × List (List Nat × List Nat) := (true, [([], []), ([], []), ([0, 1], [0, 1]), ([2], [2]), ([], []), ([3, 4], [3, 4]), ([5], [5]), ([], []), ([], []), ([], []), ([8, 9], [8, 9]), ([10], [10]), ([], []), ([11, 12], [11, 12]), ([13], [13]), ([7, 14], [7, 14]), ([6, 15], [6, 15]), ([3, 4, 0, 1, 2, 3, 4, 5, 6, 7, 8, 9, 10, 11, 12, 13, 14, 15, 16], [3, 4]), ([17, 16, 15, 0, 1, 2, 3, 4, 5, 6, 7, 8, 9, 10, 11, 12, 13, 14, 15, 16], [16, 17])])
def reedsolomon_matrix_gaussianElimination.B45 : List Nat := [0, 0, 3, 7, 0, 31, 63, 0, 0, 0, 768, 1792, 0, 7936, 16128, 32640, 65535, 131071, 262143]
theorem reedsolomon_matrix_gaussianElimination.tab45 : rtab .any (opsOf Tryd.f61 45) = reedsolomon_matrix_gaussianElimination.T45 := by kernel_rfl
theorem reedsolomon_matrix_gaussianElimination.bits45 : waitsOk reedsolomon_matrix_gaussianElimination.T45.2 reedsolomon_matrix_gaussianElimination.B45 = true := by kernel_rfl
set_option maxHeartbeats 8000000 in
set_option maxRecDepth 100000 in
theorem reedsolomon_matrix_gaussianElimination.calls (k : Nat) (P0_ : Nat → Prop) (u9000_ : Value) (l0 : List (List Int)) (r1 : Option Int) (r2 : List (List Int)) (w0 w : World) (hT : TabOK w0) (hB : Below w0.heap.size w0 w) (ho0 : Kd.S (Kd.slice 5 (Kd.int .u8)) 22 w w0.heap.size P0_ u9000_ l0) (h : reedsolomon_matrix_gaussianElimination.f k l0 = some (r1, r2)) :
  Calls Tryd.prog 61 #[u9000_] w fun e w' => ∃ (T_ : Int → TypeId) (X_ : Int → Value), e = .returned (errW T_ X_ r1) ∧ Kd.S (Kd.slice 5 (Kd.int .u8)) 22 w' w0.heap.size (fun k_ => (P0_ k_ ∨ w.heap.size ≤ k_)) u9000_ r2 ∧ Below w0.heap.size w0 w' ∧ Kept w w' (fun k_ => P0_ k_) := by
 have hu60 := Tryd.underlying60
 obtain ⟨te8_, xe8_, he8_⟩ := hT.er 8 (by decide)
 have HE8_ := Aside0.mk he8_
 clear he8_
 have HT := Aside0.mk hT
 clear hT
 have HO0 := Aside0.mk (show Kd.S (Kd.slice 5 (Kd.int .u8)) 22 w w0.heap.size (fun k_ => (P0_ k_ ∨ w.heap.size ≤ k_)) u9000_ l0 from Kd.S_mono ho0 (fun k_ hk => (.inl hk)))
 have HK := Aside0.mk (Kept.refl w (fun k_ => P0_ k_))
 have HW0 := Aside0.mk hB.size
 have HB := Aside0.mk hB
 clear hB
 have H : (if 0 < (l0.length : Int) then (reedsolomon_matrix_gaussianElimination.l0 k l0 (l0.length : Int) ((rd_L1 l0 0).length : Int) (l0.length : Int) 0) else (none)) = some (r1, r2) := h
 clear h
 by_cases c2 : 0 < (l0.length : Int)
 ·rw [if_pos c2] at H
  have c2b0 : decide (0 < (l0.length : Int)) = true := decide_eq_true c2
  have c2b1 : decide (0 < l0.length) = true := decide_eq_true (by omega)
  clear c2
  have H' := Aside0.mk H
  clear H
  obtain ⟨Ao3, co3, eo3⟩ := Kd.S_slice HO0.out
  subst eo3
  have p205 : 0 ≤ (0 : Int) := (by omega)
  have q205 : 0 < (l0.length : Int) := dA
  obtain ⟨ad205, A205_0, c205_0, e205, hx205_0, hl205_0, hi205_0⟩ := at_L1 (Kd.S_reads' HO0.out).2.2 0 p205 q205
  cases e205
  obtain ⟨ce205, hce205, hMe205, hcc205⟩ := Kd.S_get HO0.out [] 0 p205 (by first | exact q205 | exact dA | (have e_ := (Kd.S_reads' HO0.out).1; omega))
  obtain ⟨ve205_0, rfl, ge205_0⟩ := hMe205
  have hv205_0 := hcc205 0 _ rfl
  rw [Nat.add_zero, show ((Kd.slice 5 (Kd.int .u8))).sz = 1 from rfl, Nat.mul_one] at hv205_0
  replace hv205_0 := Option.some.inj (hv205_0.symm.trans hx205_0)
  rw [hv205_0] at ge205_0
  have HL205_0 := Aside0.mk (show Kd.R (Kd.int .u8) 5 _ _ _ _ (rd_L1 l0 0) from ge205_0)
  clear hv205_0 ge205_0
  have HX205_0 := Aside0.mk hx205_0
  clear hcc205 hce205
  have qi205 : (0 < l0.length) = True := eq_true (by omega)
  (try rw [show ((0 : Int)).toNat = 0 from rfl] at hx205_0)
  (try rw [Addr.add_zero'] at hx205_0)
  have HR205_0 := Aside0.mk hi205_0
  have HC205_0 := Aside0.mk hl205_0
  clear hi205_0 hl205_0
  replace p205 := eq_true p205
  replace q205 := eq_true q205
  go_enter Tryd.func61, Tryd.ntmps61
  go_wp2
  go_loopg [24] k (fun kq v24 w' => ∃ (x0_1 : List (List Int)) (x24_1 : Int), v24 = .int .i64 x24_1 ∧ Aside0 (reedsolomon_matrix_gaussianElimination.l0 kq x0_1 (l0.length : Int) ((rd_L1 l0 0).length : Int) (l0.length : Int) x24_1 = some (r1, r2)) ∧ Aside0 (kq ≤ k) ∧ Aside0 (Kd.S (Kd.slice 5 (Kd.int .u8)) 22 w' w0.heap.size (fun k_ => (P0_ k_ ∨ w.heap.size ≤ k_)) (.slice (some ad205) l0.length co3) x0_1) ∧ Aside0 (Kept w w' (fun k_ => P0_ k_)) ∧ Aside0 (Below w0.heap.size w0 w'))
  case atStart => exact ⟨(l0), (0), (by first | rfl | (simp; done) | (simp [*]; done)), H', ⟨Nat.le_refl _⟩, ⟨by (with_reducible repeat (first | apply Kd.S_alloc | apply Kd.S_drewN | apply Kd.S_drew)); exact HO0.out⟩, ⟨by repeat (first | (with_reducible first | exact HK.out | apply Kept.alloc | apply Kept.drewN | apply Kept.drew) | exact HK.out)⟩, ⟨bB⟩⟩
  case round =>
   clear H'
   try clear c2
   try clear c2b0
   try clear c2b1
   try clear p2
   try clear q2
   try clear hx2
   try clear qi2
   try clear hx205_0
   try clear p205
   try clear q205
   obtain ⟨x0_1, x24_1, rfl, HA, HK1, HO_0, HK, HB⟩ := hrel
   have hl0_1 := (Kd.S_reads' HO_0.out).1
   rw [hl0_1] at HO_0
   (try simp only [hl0_1])
   cases gk with
   | zero => exact absurd HA.out (by simp [reedsolomon_matrix_gaussianElimination.l0])
   | succ k1 =>
    have H := HA.out
    clear HA
    simp only [reedsolomon_matrix_gaussianElimination.l0] at H
    by_cases c4 : x24_1 < (l0.length : Int)
    ·rw [if_pos c4] at H
     have c4b0 : decide (x24_1 < (l0.length : Int)) = true := decide_eq_true c4
     (try (have c4b0hl0_1 := c4b0; rw [hl0_1] at c4b0hl0_1))
     clear c4
     by_cases c5 : 0 ≤ x24_1
     ·rw [if_pos c5] at H
      have c5b0 : decide (0 ≤ x24_1) = true := decide_eq_true c5
      clear c5
      by_cases c6 : x24_1 < (x0_1.length : Int)
      ·rw [if_pos c6] at H
       have c6b0 : decide (x24_1 < (x0_1.length : Int)) = true := decide_eq_true c6
       (try (have c6b0hl0_1 := c6b0; rw [hl0_1] at c6b0hl0_1))
       clear c6
       by_cases c7 : x24_1 < ((rd_L1 x0_1 x24_1).length : Int)
       ·rw [if_pos c7] at H
        have c7b0 : decide (x24_1 < ((rd_L1 x0_1 x24_1).length : Int)) = true := decide_eq_true c7
        (try (have c7b0hl0_1 := c7b0; rw [hl0_1] at c7b0hl0_1))
        clear c7
        have HC8 := Aside0.mk H
        clear H
        have p206 : 0 ≤ (x24_1 : Int) := dA
        have q206 : x24_1 < (x0_1.length : Int) := dA
        obtain ⟨ad206, A206_0, c206_0, e206, hx206_0, hl206_0, hi206_0⟩ := at_L1 (Kd.S_reads' HO_0.out).2.2 x24_1 p206 q206
        obtain rfl : ad205 = ad206 := (by injection e206)
        obtain ⟨ce206, hce206, hMe206, hcc206⟩ := Kd.S_get HO_0.out [] x24_1 p206 (by first | exact q206 | exact dA | (have e_ := (Kd.S_reads' HO_0.out).1; omega))
        obtain ⟨ve206_0, rfl, ge206_0⟩ := hMe206
        have hv206_0 := hcc206 0 _ rfl
        rw [Nat.add_zero, show ((Kd.slice 5 (Kd.int .u8))).sz = 1 from rfl, Nat.mul_one] at hv206_0
        replace hv206_0 := Option.some.inj (hv206_0.symm.trans hx206_0)
        rw [hv206_0] at ge206_0
        have HL206_0 := Aside0.mk (show Kd.R (Kd.int .u8) 5 _ _ _ _ (rd_L1 x0_1 x24_1) from ge206_0)
        clear hv206_0 ge206_0
        have HX206_0 := Aside0.mk hx206_0
        clear hcc206 hce206
        have HR206_0 := Aside0.mk hi206_0
        have HC206_0 := Aside0.mk hl206_0
        clear hi206_0 hl206_0
        replace p206 := eq_true p206
        replace q206 := eq_true q206
        have p207 : 0 ≤ (x24_1 : Int) := dA
        have q207 : x24_1 < ((rd_L1 x0_1 x24_1).length : Int) := dA
        obtain ⟨ad207, e207, hx207_0⟩ := Kd.at_int (by repeat (first | (with_reducible exact HR206_0.out) | (with_reducible refine Kd.C_alloc ?_ _) | (with_reducible refine Kd.C_drewN ?_ _) | (with_reducible refine Kd.C_drew ?_) | exact HR206_0.out)) x24_1 p207 q207
        cases e207
        replace p207 := eq_true p207
        replace q207 := eq_true q207
        go_upto_if 34 with (fail)
        go_cut [] (fun wc => ∃ (kq : Nat) (x0_7 : List (List Int)), Aside0 (reedsolomon_matrix_gaussianElimination.j2 kq x0_7 (l0.length : Int) ((rd_L1 l0 0).length : Int) x24_1 (l0.length : Int) x24_1 = some (r1, r2)) ∧ Aside0 (kq ≤ k1) ∧ Aside0 (Kd.S (Kd.slice 5 (Kd.int .u8)) 22 wc w0.heap.size (fun k_ => (P0_ k_ ∨ w.heap.size ≤ k_)) (.slice (some ad205) x0_1.length co3) x0_7) ∧ Aside0 (Kept w wc (fun k_ => P0_ k_)) ∧ Aside0 (Below w0.heap.size w0 wc))
        case first =>
         have H := HC8.out
         clear HC8
         by_cases c9 : (rd (rd_L1 x0_1 x24_1) x24_1) = 0
         ·rw [if_pos c9] at H
          have c9b0 : ((rd (rd_L1 x0_1 x24_1) x24_1) == 0) = true := beq_iff_eq.mpr c9
          have c9b1 : ((rd (rd_L1 x0_1 x24_1) x24_1) != 0) = false := bne_eq_false_iff_eq.mpr c9
          clear c9
          (first | rw [c9b0] | (simp only [i64_w, i32_w]; rw [c9b0]) | skip)
          have H' := Aside0.mk H
          clear H
          go_wp2
          go_loopg [6] k1 (fun kq v6 w' => ∃ (x0_2 : List (List Int)) (x6_2 : Int), v6 = .int .i64 x6_2 ∧ Aside0 (reedsolomon_matrix_gaussianElimination.l1 kq x0_2 (l0.length : Int) ((rd_L1 l0 0).length : Int) x24_1 x6_2 (l0.length : Int) x24_1 = some (r1, r2)) ∧ Aside0 (kq ≤ k1) ∧ Aside0 (Kd.S (Kd.slice 5 (Kd.int .u8)) 22 w' w0.heap.size (fun k_ => (P0_ k_ ∨ w.heap.size ≤ k_)) (.slice (some ad205) x0_1.length co3) x0_2) ∧ Aside0 (Kd.C (Kd.int .u8) w' (some ad207) (rd_L1 x0_1 x24_1).length (rd_L1 x0_1 x24_1)) ∧ Aside0 (Kept w w' (fun k_ => P0_ k_)) ∧ Aside0 (Below w0.heap.size w0 w'))
          case atStart => exact ⟨(x0_1), (wrap64 (x24_1 + 1)), (by first | rfl | (simp; done) | (simp [*]; done)), H', ⟨Nat.le_refl _⟩, ⟨by (try simp only [hl0_1]); (with_reducible repeat (first | apply Kd.S_alloc | apply Kd.S_drewN | apply Kd.S_drew)); exact HO_0.out⟩, ⟨by repeat (first | (with_reducible exact HR206_0.out) | (with_reducible refine Kd.C_alloc ?_ _) | (with_reducible refine Kd.C_drewN ?_ _) | (with_reducible refine Kd.C_drew ?_) | exact HR206_0.out)⟩, ⟨by repeat (first | (with_reducible first | exact HK.out | apply Kept.alloc | apply Kept.drewN | apply Kept.drew) | exact HK.out)⟩, ⟨bB⟩⟩
          case round =>
           clear H'
           try clear c2
           try clear c2b0
           try clear c2b1
           try clear p2
           try clear q2
           try clear hx2
           try clear qi2
           try clear c4
           try clear c4b0
           try clear c5
           try clear c5b0
           try clear c6
           try clear c6b0
           try clear p6
           try clear c7
           try clear c7b0
           try clear c9
           try clear c9b0
           try clear c9b1
           try clear hx205_0
           try clear hx206_0
           try clear hx207_0
           try clear p2
           try clear p205
           try clear p206
           try clear p207
           try clear q2
           try clear q205
           try clear q206
           try clear q207
           obtain ⟨x0_2, x6_2, rfl, HA, HK2, HO_0, HR206_0, HK, HB⟩ := hrel
           have hl0_2 := (Kd.S_reads' HO_0.out).1
           rw [hl0_2] at HO_0
           (try simp only [hl0_2])
           cases gk with
           | zero => exact absurd HA.out (by simp [reedsolomon_matrix_gaussianElimination.l1])
           | succ k2 =>
            have H := HA.out
            clear HA
            simp only [reedsolomon_matrix_gaussianElimination.l1] at H
            by_cases c10 : x6_2 < (l0.length : Int)
            ·rw [if_pos c10] at H
             have c10b0 : decide (x6_2 < (l0.length : Int)) = true := decide_eq_true c10
             (try (have c10b0hl0_1 := c10b0; rw [hl0_1] at c10b0hl0_1))
             (try (have c10b0hl0_2 := c10b0; simp only [hl0_1, hl0_2] at c10b0hl0_2))
             clear c10
             by_cases c11 : 0 ≤ x6_2
             ·rw [if_pos c11] at H
              have c11b0 : decide (0 ≤ x6_2) = true := decide_eq_true c11
              clear c11
              by_cases c12 : x6_2 < (x0_2.length : Int)
              ·rw [if_pos c12] at H
               have c12b0 : decide (x6_2 < (x0_2.length : Int)) = true := decide_eq_true c12
               (try (have c12b0hl0_1 := c12b0; rw [hl0_1] at c12b0hl0_1))
               (try (have c12b0hl0_2 := c12b0; simp only [hl0_1, hl0_2] at c12b0hl0_2))
               clear c12
               by_cases c13 : 0 ≤ x24_1
               ·rw [if_pos c13] at H
                have c13b0 : decide (0 ≤ x24_1) = true := decide_eq_true c13
                clear c13
                by_cases c14 : x24_1 < ((rd_L1 x0_2 x6_2).length : Int)
                ·rw [if_pos c14] at H
                 have c14b0 : decide (x24_1 < ((rd_L1 x0_2 x6_2).length : Int)) = true := decide_eq_true c14
                 (try (have c14b0hl0_1 := c14b0; rw [hl0_1] at c14b0hl0_1))
                 (try (have c14b0hl0_2 := c14b0; simp only [hl0_1, hl0_2] at c14b0hl0_2))
                 clear c14
                 by_cases c15 : (rd (rd_L1 x0_2 x6_2) x24_1) = 0
                 ·rw [if_pos c15] at H
                  have c15b0 : ((rd (rd_L1 x0_2 x6_2) x24_1) == 0) = true := beq_iff_eq.mpr c15
                  have c15b1 : ((rd (rd_L1 x0_2 x6_2) x24_1) != 0) = false := bne_eq_false_iff_eq.mpr c15
                  clear c15
                  have H' := Aside0.mk H
                  clear H
                  have p208 : 0 ≤ (x6_2 : Int) := dA
                  have q208 : x6_2 < (x0_2.length : Int) := dA
                  obtain ⟨ad208, A208_0, c208_0, e208, hx208_0, hl208_0, hi208_0⟩ := at_L1 (Kd.S_reads' HO_0.out).2.2 x6_2 p208 q208
                  obtain rfl : ad205 = ad208 := (by injection e208)
                  obtain ⟨ce208, hce208, hMe208, hcc208⟩ := Kd.S_get HO_0.out [] x6_2 p208 (by first | exact q208 | exact dA | (have e_ := (Kd.S_reads' HO_0.out).1; omega))
                  obtain ⟨ve208_0, rfl, ge208_0⟩ := hMe208
                  have hv208_0 := hcc208 0 _ rfl
                  rw [Nat.add_zero, show ((Kd.slice 5 (Kd.int .u8))).sz = 1 from rfl, Nat.mul_one] at hv208_0
                  replace hv208_0 := Option.some.inj (hv208_0.symm.trans hx208_0)
                  rw [hv208_0] at ge208_0
                  have HL208_0 := Aside0.mk (show Kd.R (Kd.int .u8) 5 _ _ _ _ (rd_L1 x0_2 x6_2) from ge208_0)
                  clear hv208_0 ge208_0
                  have HX208_0 := Aside0.mk hx208_0
                  clear hcc208 hce208
                  have HR208_0 := Aside0.mk hi208_0
                  have HC208_0 := Aside0.mk hl208_0
                  clear hi208_0 hl208_0
                  replace p208 := eq_true p208
                  replace q208 := eq_true q208
                  have p209 : 0 ≤ (x24_1 : Int) := dA
                  have q209 : x24_1 < ((rd_L1 x0_2 x6_2).length : Int) := dA
                  obtain ⟨ad209, e209, hx209_0⟩ := Kd.at_int (by repeat (first | (with_reducible exact HR208_0.out) | (with_reducible refine Kd.C_alloc ?_ _) | (with_reducible refine Kd.C_drewN ?_ _) | (with_reducible refine Kd.C_drew ?_) | exact HR208_0.out)) x24_1 p209 q209
                  cases e209
                  replace p209 := eq_true p209
                  replace q209 := eq_true q209
                  go_wp2
                  (try simp only [← hl0_2])
                  go_roundg k2
                  case measure => have := HK1.out; have := HK2.out; omega
                  case rel => exact ⟨(x0_2), (wrap64 (x6_2 + 1)), (by first | rfl | (simp; done) | (simp [*]; done)), H', ⟨by have := HK1.out; have := HK2.out; omega⟩, ⟨by (try simp only [hl0_1]); (try simp only [hl0_2]); (with_reducible repeat (first | apply Kd.S_alloc | apply Kd.S_drewN | apply Kd.S_drew)); exact HO_0.out⟩, ⟨by repeat (first | (with_reducible exact HR206_0.out) | (with_reducible refine Kd.C_alloc ?_ _) | (with_reducible refine Kd.C_drewN ?_ _) | (with_reducible refine Kd.C_drew ?_) | exact HR206_0.out)⟩, ⟨by repeat (first | (with_reducible first | exact HK.out | apply Kept.alloc | apply Kept.drewN | apply Kept.drew) | exact HK.out)⟩, ⟨bB⟩⟩
                 ·rw [if_neg c15] at H
                  have c15b0 : ((rd (rd_L1 x0_2 x6_2) x24_1) == 0) = false := beq_eq_false_iff_ne.mpr c15
                  have c15b1 : ((rd (rd_L1 x0_2 x6_2) x24_1) != 0) = true := bne_iff_ne.mpr c15
                  replace H := Option.bind_eq_some_iff.mp H
                  obtain ⟨⟨t210, t211⟩, A160, H⟩ := H
                  replace H : (if t210.isNone = true then (reedsolomon_matrix_gaussianElimination.j2 k2 t211 (l0.length : Int) ((rd_L1 l0 0).length : Int) x24_1 (l0.length : Int) x24_1) else (some (some (t210.getD 0), t211))) = some (r1, r2) := H
                  have A16 := Aside0.mk A160
                  clear A160
                  rcases t210 with _ | q212
                  ·have H1 : (reedsolomon_matrix_gaussianElimination.j2 k2 t211 (l0.length : Int) ((rd_L1 l0 0).length : Int) x24_1 (l0.length : Int) x24_1) = some (r1, r2) := by rw [if_pos (show (none : Option Int).isNone = true by rfl)] at H; exact H
                   clear H
                   have H := H1
                   clear H1
                   try simp only [errW_none, errW_some]
                   have H' := Aside0.mk H
                   clear H
                   have p208 : 0 ≤ (x6_2 : Int) := dA
                   have q208 : x6_2 < (x0_2.length : Int) := dA
                   obtain ⟨ad208, A208_0, c208_0, e208, hx208_0, hl208_0, hi208_0⟩ := at_L1 (Kd.S_reads' HO_0.out).2.2 x6_2 p208 q208
                   obtain rfl : ad205 = ad208 := (by injection e208)
                   obtain ⟨ce208, hce208, hMe208, hcc208⟩ := Kd.S_get HO_0.out [] x6_2 p208 (by first | exact q208 | exact dA | (have e_ := (Kd.S_reads' HO_0.out).1; omega))
                   obtain ⟨ve208_0, rfl, ge208_0⟩ := hMe208
                   have hv208_0 := hcc208 0 _ rfl
                   rw [Nat.add_zero, show ((Kd.slice 5 (Kd.int .u8))).sz = 1 from rfl, Nat.mul_one] at hv208_0
                   replace hv208_0 := Option.some.inj (hv208_0.symm.trans hx208_0)
                   rw [hv208_0] at ge208_0
                   have HL208_0 := Aside0.mk (show Kd.R (Kd.int .u8) 5 _ _ _ _ (rd_L1 x0_2 x6_2) from ge208_0)
                   clear hv208_0 ge208_0
                   have HX208_0 := Aside0.mk hx208_0
                   clear hcc208 hce208
                   have HR208_0 := Aside0.mk hi208_0
                   have HC208_0 := Aside0.mk hl208_0
                   clear hi208_0 hl208_0
                   replace p208 := eq_true p208
                   replace q208 := eq_true q208
                   have p209 : 0 ≤ (x24_1 : Int) := dA
                   have q209 : x24_1 < ((rd_L1 x0_2 x6_2).length : Int) := dA
                   obtain ⟨ad209, e209, hx209_0⟩ := Kd.at_int (by repeat (first | (with_reducible exact HR208_0.out) | (with_reducible refine Kd.C_alloc ?_ _) | (with_reducible refine Kd.C_drewN ?_ _) | (with_reducible refine Kd.C_drew ?_) | exact HR208_0.out)) x24_1 p209 q209
                   cases e209
                   replace p209 := eq_true p209
                   replace q209 := eq_true q209
                   go_wp2_with (first | ((with_reducible refine gate_callee (f := 63) rfl ?_); refine goesL_ (some 53) rfl rfl Tryd.func63 (by kernel_rfl) rfl #[.slice (some ad205) x0_2.length co3, .int .i64 x24_1, .int .i64 x6_2] rfl aV ?_; (with_reducible refine (reedsolomon_matrix_SwapRows.calls (fun k_ => ((P0_ k_ ∨ w.heap.size ≤ k_))) (.slice (some ad205) x0_2.length co3) x0_2 x24_1 x6_2 none t211 w0 _ ?side1 ?side2 A16.out).mono ?_); (case side1 => repeat (first | (with_reducible first | exact HB.out | apply below_alloc | apply pw_below_drewN | apply below_drew1) | exact HB.out)); (case side2 => exact HO_0.out); rintro e w17 ⟨Tt210, Xt210, rfl, hy0, hb, hkp⟩; refine ⟨_, rfl, ?_⟩; have n0_ := Aside0.mk (Kd.S_mono hy0 (fun k_ hk_ => Or.elim hk_ (fun h_ => h_) (fun hn_ => .inr (Nat.le_trans (show Kept w _ (fun k_ => P0_ k_) from by repeat (first | (with_reducible first | exact HK.out | apply Kept.alloc | apply Kept.drewN | apply Kept.drew) | exact HK.out)).1 hn_)))); have n1_ := Aside0.mk (Kept.then_ (S := (fun k_ => P0_ k_)) (by repeat (first | (with_reducible first | exact HK.out | apply Kept.alloc | apply Kept.drewN | apply Kept.drew) | exact HK.out)) hkp (fun k_ hs_ => hs_)); have n2_ := Aside0.mk (hb); clear HO_0; clear HK; clear HB; clear HL208_0; have HO_0 := n0_; have HK := n1_; have HB := n2_; clear n0_ n1_ n2_; (try clear hb); (try clear hkp); (try clear hy0); (try simp only [errW_none, errW_some])))
                   (try simp only [← hl0_2])
                   go_meet
                   case rel => exact ⟨_, (t211), H', ⟨by have := HK1.out; have := HK2.out; first | omega | exact Nat.le_refl _⟩, ⟨by (try simp only [hl0_1]); (try simp only [hl0_2]); (with_reducible repeat (first | apply Kd.S_alloc | apply Kd.S_drewN | apply Kd.S_drew)); exact HO_0.out⟩, ⟨by repeat (first | (with_reducible first | exact HK.out | apply Kept.alloc | apply Kept.drewN | apply Kept.drew) | exact HK.out)⟩, ⟨bB⟩⟩
                  ·have H1 : (some (some q212, t211)) = some (r1, r2) := by rw [if_neg (show ¬ (some q212).isNone = true by simp)] at H; exact H
                   clear H
                   have H := H1
                   clear H1
                   try simp only [errW_none, errW_some]
                   simp only [Option.some.injEq, Prod.mk.injEq] at H
                   obtain ⟨rfl, rfl⟩ := H
                   have p208 : 0 ≤ (x6_2 : Int) := dA
                   have q208 : x6_2 < (x0_2.length : Int) := dA
                   obtain ⟨ad208, A208_0, c208_0, e208, hx208_0, hl208_0, hi208_0⟩ := at_L1 (Kd.S_reads' HO_0.out).2.2 x6_2 p208 q208
                   obtain rfl : ad205 = ad208 := (by injection e208)
                   obtain ⟨ce208, hce208, hMe208, hcc208⟩ := Kd.S_get HO_0.out [] x6_2 p208 (by first | exact q208 | exact dA | (have e_ := (Kd.S_reads' HO_0.out).1; omega))
                   obtain ⟨ve208_0, rfl, ge208_0⟩ := hMe208
                   have hv208_0 := hcc208 0 _ rfl
                   rw [Nat.add_zero, show ((Kd.slice 5 (Kd.int .u8))).sz = 1 from rfl, Nat.mul_one] at hv208_0
                   replace hv208_0 := Option.some.inj (hv208_0.symm.trans hx208_0)
                   rw [hv208_0] at ge208_0
                   have HL208_0 := Aside0.mk (show Kd.R (Kd.int .u8) 5 _ _ _ _ (rd_L1 x0_2 x6_2) from ge208_0)
                   clear hv208_0 ge208_0
                   have HX208_0 := Aside0.mk hx208_0
                   clear hcc208 hce208
                   have HR208_0 := Aside0.mk hi208_0
                   have HC208_0 := Aside0.mk hl208_0
                   clear hi208_0 hl208_0
                   replace p208 := eq_true p208
                   replace q208 := eq_true q208
                   have p209 : 0 ≤ (x24_1 : Int) := dA
                   have q209 : x24_1 < ((rd_L1 x0_2 x6_2).length : Int) := dA
                   obtain ⟨ad209, e209, hx209_0⟩ := Kd.at_int (by repeat (first | (with_reducible exact HR208_0.out) | (with_reducible refine Kd.C_alloc ?_ _) | (with_reducible refine Kd.C_drewN ?_ _) | (with_reducible refine Kd.C_drew ?_) | exact HR208_0.out)) x24_1 p209 q209
                   cases e209
                   replace p209 := eq_true p209
                   replace q209 := eq_true q209
                   go_wp2_with (first | ((with_reducible refine gate_callee (f := 63) rfl ?_); refine goesL_ (some 53) rfl rfl Tryd.func63 (by kernel_rfl) rfl #[.slice (some ad205) x0_2.length co3, .int .i64 x24_1, .int .i64 x6_2] rfl aV ?_; (with_reducible refine (reedsolomon_matrix_SwapRows.calls (fun k_ => ((P0_ k_ ∨ w.heap.size ≤ k_))) (.slice (some ad205) x0_2.length co3) x0_2 x24_1 x6_2 (some q212) t211 w0 _ ?side1 ?side2 A16.out).mono ?_); (case side1 => repeat (first | (with_reducible first | exact HB.out | apply below_alloc | apply pw_below_drewN | apply below_drew1) | exact HB.out)); (case side2 => exact HO_0.out); rintro e w18 ⟨Tt210, Xt210, rfl, hy0, hb, hkp⟩; refine ⟨_, rfl, ?_⟩; have n0_ := Aside0.mk (Kd.S_mono hy0 (fun k_ hk_ => Or.elim hk_ (fun h_ => h_) (fun hn_ => .inr (Nat.le_trans (show Kept w _ (fun k_ => P0_ k_) from by repeat (first | (with_reducible first | exact HK.out | apply Kept.alloc | apply Kept.drewN | apply Kept.drew) | exact HK.out)).1 hn_)))); have n1_ := Aside0.mk (Kept.then_ (S := (fun k_ => P0_ k_)) (by repeat (first | (with_reducible first | exact HK.out | apply Kept.alloc | apply Kept.drewN | apply Kept.drew) | exact HK.out)) hkp (fun k_ hs_ => hs_)); have n2_ := Aside0.mk (hb); clear HO_0; clear HK; clear HB; clear HL208_0; have HO_0 := n0_; have HK := n1_; have HB := n2_; clear n0_ n1_ n2_; (try clear hb); (try clear hkp); (try clear hy0); (try simp only [errW_none, errW_some])))
                   go_ret
                   exact ⟨⟨Tt210, Xt210, by first | rfl | (simp [errW_none, errW_some] <;> rfl) | (simp [*, errW_none, errW_some] <;> rfl)⟩, (by first | exact (by (with_reducible repeat (first | apply Kd.S_alloc | apply Kd.S_drewN | apply Kd.S_drew)); exact HO_0.out) | (simp only [hl0_1, hl0_2]; exact (by (with_reducible repeat (first | apply Kd.S_alloc | apply Kd.S_drewN | apply Kd.S_drew)); exact HO_0.out))), by repeat (first | (with_reducible first | exact HB.out | apply below_alloc | apply pw_below_drewN | apply below_drew1) | exact HB.out), by repeat (first | (with_reducible first | exact HK.out | apply Kept.alloc | apply Kept.drewN | apply Kept.drew) | exact HK.out)⟩
                ·rw [if_neg c14] at H
                 exact absurd H (by simp)
               ·rw [if_neg c13] at H
                exact absurd H (by simp)
              ·rw [if_neg c12] at H
               exact absurd H (by simp)
             ·rw [if_neg c11] at H
              exact absurd H (by simp)
            ·rw [if_neg c10] at H
             have c10b0 : decide (x6_2 < (l0.length : Int)) = false := decide_eq_false c10
             (try (have c10b0hl0_1 := c10b0; rw [hl0_1] at c10b0hl0_1))
             (try (have c10b0hl0_2 := c10b0; simp only [hl0_1, hl0_2] at c10b0hl0_2))
             clear c10
             have H' := Aside0.mk H
             clear H
             go_wp2
             (try simp only [← hl0_2])
             go_meet
             case rel => exact ⟨_, (x0_2), H', ⟨by have := HK1.out; have := HK2.out; first | omega | exact Nat.le_refl _⟩, ⟨by (try simp only [hl0_1]); (try simp only [hl0_2]); (with_reducible repeat (first | apply Kd.S_alloc | apply Kd.S_drewN | apply Kd.S_drew)); exact HO_0.out⟩, ⟨by repeat (first | (with_reducible first | exact HK.out | apply Kept.alloc | apply Kept.drewN | apply Kept.drew) | exact HK.out)⟩, ⟨bB⟩⟩
         ·rw [if_neg c9] at H
          have c9b0 : ((rd (rd_L1 x0_1 x24_1) x24_1) == 0) = false := beq_eq_false_iff_ne.mpr c9
          have c9b1 : ((rd (rd_L1 x0_1 x24_1) x24_1) != 0) = true := bne_iff_ne.mpr c9
          (first | rw [c9b0] | (simp only [i64_w, i32_w]; rw [c9b0]) | skip)
          have H' := Aside0.mk H
          clear H
          go_wp2
          go_meet
          case rel => exact ⟨_, (x0_1), H', ⟨by have := HK1.out; first | omega | exact Nat.le_refl _⟩, ⟨by (try simp only [hl0_1]); (with_reducible repeat (first | apply Kd.S_alloc | apply Kd.S_drewN | apply Kd.S_drew)); exact HO_0.out⟩, ⟨by repeat (first | (with_reducible first | exact HK.out | apply Kept.alloc | apply Kept.drewN | apply Kept.drew) | exact HK.out)⟩, ⟨bB⟩⟩
        case rest =>
         clear HC8
         try clear c1
         try clear c2
         try clear c2b0
         try clear c2b1
         try clear p2
         try clear q2
         try clear hx2
         try clear qi2
         try clear c4
         try clear c4b0
         try clear c5
         try clear c5b0
         try clear c6
         try clear c6b0
         try clear p6
         try clear c7
         try clear c7b0
         try clear c9
         try clear c9b0
         try clear c9b1
         try clear c10
         try clear c10b0
         try clear c11
         try clear c11b0
         try clear c12
         try clear c12b0
         try clear c13
         try clear c13b0
         try clear c14
         try clear c14b0
         try clear c15
         try clear c15b0
         try clear c15b1
         try clear hx205_0
         try clear hx206_0
         try clear hx207_0
         try clear hx208_0
         try clear hx209_0
         try clear p2
         try clear p205
         try clear p206
         try clear p207
         try clear p208
         try clear p209
         try clear p6
         try clear q2
         try clear q205
         try clear q206
         try clear q207
         try clear q208
         try clear q209
         try clear q212
         obtain ⟨kq, x0_7, HA, HJ7, HO_0, HK, HB⟩ := hcut
         have hl0_7 := (Kd.S_reads' HO_0.out).1
         rw [hl0_7] at HO_0
         (try simp only [hl0_7])
         cases kq with
         | zero => exact absurd HA.out (by simp [reedsolomon_matrix_gaussianElimination.j2])
         | succ kj7 =>
          have H := HA.out
          clear HA
          simp only [reedsolomon_matrix_gaussianElimination.j2] at H
          by_cases c19 : 0 ≤ x24_1
          ·rw [if_pos c19] at H
           have c19b0 : decide (0 ≤ x24_1) = true := decide_eq_true c19
           clear c19
           by_cases c20 : x24_1 < (x0_7.length : Int)
           ·rw [if_pos c20] at H
            have c20b0 : decide (x24_1 < (x0_7.length : Int)) = true := decide_eq_true c20
            (try (have c20b0hl0_1 := c20b0; rw [hl0_1] at c20b0hl0_1))
            (try (have c20b0hl0_7 := c20b0; simp only [hl0_1, hl0_7] at c20b0hl0_7))
            clear c20
            by_cases c21 : x24_1 < ((rd_L1 x0_7 x24_1).length : Int)
            ·rw [if_pos c21] at H
             have c21b0 : decide (x24_1 < ((rd_L1 x0_7 x24_1).length : Int)) = true := decide_eq_true c21
             (try (have c21b0hl0_1 := c21b0; rw [hl0_1] at c21b0hl0_1))
             (try (have c21b0hl0_7 := c21b0; simp only [hl0_1, hl0_7] at c21b0hl0_7))
             clear c21
             by_cases c22 : (rd (rd_L1 x0_7 x24_1) x24_1) = 0
             ·rw [if_pos c22] at H
              have c22b0 : ((rd (rd_L1 x0_7 x24_1) x24_1) == 0) = true := beq_iff_eq.mpr c22
              have c22b1 : ((rd (rd_L1 x0_7 x24_1) x24_1) != 0) = false := bne_eq_false_iff_eq.mpr c22
              clear c22
              simp only [Option.some.injEq, Prod.mk.injEq] at H
              obtain ⟨rfl, rfl⟩ := H
              have p213 : 0 ≤ (x24_1 : Int) := dA
              have q213 : x24_1 < (x0_7.length : Int) := dA
              obtain ⟨ad213, A213_0, c213_0, e213, hx213_0, hl213_0, hi213_0⟩ := at_L1 (Kd.S_reads' HO_0.out).2.2 x24_1 p213 q213
              obtain rfl : ad205 = ad213 := (by injection e213)
              obtain ⟨ce213, hce213, hMe213, hcc213⟩ := Kd.S_get HO_0.out [] x24_1 p213 (by first | exact q213 | exact dA | (have e_ := (Kd.S_reads' HO_0.out).1; omega))
              obtain ⟨ve213_0, rfl, ge213_0⟩ := hMe213
              have hv213_0 := hcc213 0 _ rfl
              rw [Nat.add_zero, show ((Kd.slice 5 (Kd.int .u8))).sz = 1 from rfl, Nat.mul_one] at hv213_0
              replace hv213_0 := Option.some.inj (hv213_0.symm.trans hx213_0)
              rw [hv213_0] at ge213_0
              have HL213_0 := Aside0.mk (show Kd.R (Kd.int .u8) 5 _ _ _ _ (rd_L1 x0_7 x24_1) from ge213_0)
              clear hv213_0 ge213_0
              have HX213_0 := Aside0.mk hx213_0
              clear hcc213 hce213
              have HR213_0 := Aside0.mk hi213_0
              have HC213_0 := Aside0.mk hl213_0
              clear hi213_0 hl213_0
              replace p213 := eq_true p213
              replace q213 := eq_true q213
              have p214 : 0 ≤ (x24_1 : Int) := dA
              have q214 : x24_1 < ((rd_L1 x0_7 x24_1).length : Int) := dA
              obtain ⟨ad214, e214, hx214_0⟩ := Kd.at_int (by repeat (first | (with_reducible exact HR213_0.out) | (with_reducible refine Kd.C_alloc ?_ _) | (with_reducible refine Kd.C_drewN ?_ _) | (with_reducible refine Kd.C_drew ?_) | exact HR213_0.out)) x24_1 p214 q214
              cases e214
              replace p214 := eq_true p214
              replace q214 := eq_true q214
              (try clear hce8_)
              have hce8_ : wc.cell? ⟨8, 0, none⟩ = some (.iface te8_ xe8_) := ((show Below w0.heap.size w0 wc from by repeat (first | (with_reducible first | exact HB.out | apply below_alloc | apply pw_below_drewN | apply below_drew1) | exact HB.out)).cell (World.block_lt_of_cell? _ _ HE8_.out)).trans HE8_.out
              go_wp2
              go_ret
              exact ⟨⟨(fun _ => te8_), (fun _ => xe8_), by first | rfl | (simp [errW_none, errW_some] <;> rfl) | (simp [*, errW_none, errW_some] <;> rfl)⟩, (by first | exact (by (with_reducible repeat (first | apply Kd.S_alloc | apply Kd.S_drewN | apply Kd.S_drew)); exact HO_0.out) | (simp only [hl0_1, hl0_7]; exact (by (with_reducible repeat (first | apply Kd.S_alloc | apply Kd.S_drewN | apply Kd.S_drew)); exact HO_0.out))), by repeat (first | (with_reducible first | exact HB.out | apply below_alloc | apply pw_below_drewN | apply below_drew1) | exact HB.out), by repeat (first | (with_reducible first | exact HK.out | apply Kept.alloc | apply Kept.drewN | apply Kept.drew) | exact HK.out)⟩
             ·rw [if_neg c22] at H
              have c22b0 : ((rd (rd_L1 x0_7 x24_1) x24_1) == 0) = false := beq_eq_false_iff_ne.mpr c22
              have c22b1 : ((rd (rd_L1 x0_7 x24_1) x24_1) != 0) = true := bne_iff_ne.mpr c22
              have HC23 := Aside0.mk H
              clear H
              have p213 : 0 ≤ (x24_1 : Int) := dA
              have q213 : x24_1 < (x0_7.length : Int) := dA
              obtain ⟨ad213, A213_0, c213_0, e213, hx213_0, hl213_0, hi213_0⟩ := at_L1 (Kd.S_reads' HO_0.out).2.2 x24_1 p213 q213
              obtain rfl : ad205 = ad213 := (by injection e213)
              obtain ⟨ce213, hce213, hMe213, hcc213⟩ := Kd.S_get HO_0.out [] x24_1 p213 (by first | exact q213 | exact dA | (have e_ := (Kd.S_reads' HO_0.out).1; omega))
              obtain ⟨ve213_0, rfl, ge213_0⟩ := hMe213
              have hv213_0 := hcc213 0 _ rfl
              rw [Nat.add_zero, show ((Kd.slice 5 (Kd.int .u8))).sz = 1 from rfl, Nat.mul_one] at hv213_0
              replace hv213_0 := Option.some.inj (hv213_0.symm.trans hx213_0)
              rw [hv213_0] at ge213_0
              have HL213_0 := Aside0.mk (show Kd.R (Kd.int .u8) 5 _ _ _ _ (rd_L1 x0_7 x24_1) from ge213_0)
              clear hv213_0 ge213_0
              have HX213_0 := Aside0.mk hx213_0
              clear hcc213 hce213
              have HR213_0 := Aside0.mk hi213_0
              have HC213_0 := Aside0.mk hl213_0
              clear hi213_0 hl213_0
              replace p213 := eq_true p213
              replace q213 := eq_true q213
              have p214 : 0 ≤ (x24_1 : Int) := dA
              have q214 : x24_1 < ((rd_L1 x0_7 x24_1).length : Int) := dA
              obtain ⟨ad214, e214, hx214_0⟩ := Kd.at_int (by repeat (first | (with_reducible exact HR213_0.out) | (with_reducible refine Kd.C_alloc ?_ _) | (with_reducible refine Kd.C_drewN ?_ _) | (with_reducible refine Kd.C_drew ?_) | exact HR213_0.out)) x24_1 p214 q214
              cases e214
              replace p214 := eq_true p214
              replace q214 := eq_true q214
              have p215 : 0 ≤ (x24_1 : Int) := dA
              have q215 : x24_1 < (x0_7.length : Int) := dA
              obtain ⟨ad215, A215_0, c215_0, e215, hx215_0, hl215_0, hi215_0⟩ := at_L1 (Kd.S_reads' HO_0.out).2.2 x24_1 p215 q215
              obtain rfl : ad205 = ad215 := (by injection e215)
              obtain ⟨ce215, hce215, hMe215, hcc215⟩ := Kd.S_get HO_0.out [] x24_1 p215 (by first | exact q215 | exact dA | (have e_ := (Kd.S_reads' HO_0.out).1; omega))
              obtain ⟨ve215_0, rfl, ge215_0⟩ := hMe215
              have hv215_0 := hcc215 0 _ rfl
              rw [Nat.add_zero, show ((Kd.slice 5 (Kd.int .u8))).sz = 1 from rfl, Nat.mul_one] at hv215_0
              replace hv215_0 := Option.some.inj (hv215_0.symm.trans hx215_0)
              rw [hv215_0] at ge215_0
              have HL215_0 := Aside0.mk (show Kd.R (Kd.int .u8) 5 _ _ _ _ (rd_L1 x0_7 x24_1) from ge215_0)
              clear hv215_0 ge215_0
              have HX215_0 := Aside0.mk hx215_0
              clear hcc215 hce215
              have HR215_0 := Aside0.mk hi215_0
              have HC215_0 := Aside0.mk hl215_0
              clear hi215_0 hl215_0
              replace p215 := eq_true p215
              replace q215 := eq_true q215
              have ea_ := Option.some.inj (hx213_0.symm.trans hx215_0)
              injection ea_ with ea_ en_ ec_
              subst ea_
              subst ec_
              clear en_
              have p216 : 0 ≤ (x24_1 : Int) := dA
              have q216 : x24_1 < ((rd_L1 x0_7 x24_1).length : Int) := dA
              obtain ⟨ad216, e216, hx216_0⟩ := Kd.at_int (by repeat (first | (with_reducible exact HR215_0.out) | (with_reducible refine Kd.C_alloc ?_ _) | (with_reducible refine Kd.C_drewN ?_ _) | (with_reducible refine Kd.C_drew ?_) | exact HR215_0.out)) x24_1 p216 q216
              cases e216
              replace p216 := eq_true p216
              replace q216 := eq_true q216
              go_upto_if 73 with (fail)
              go_cut [] (fun wc => ∃ (kq : Nat) (x0_22 : List (List Int)), Aside0 (reedsolomon_matrix_gaussianElimination.j4 kq x0_22 (l0.length : Int) ((rd_L1 l0 0).length : Int) x24_1 (l0.length : Int) x24_1 = some (r1, r2)) ∧ Aside0 (kq ≤ kj7) ∧ Aside0 (Kd.S (Kd.slice 5 (Kd.int .u8)) 22 wc w0.heap.size (fun k_ => (P0_ k_ ∨ w.heap.size ≤ k_)) (.slice (some ad205) x0_7.length co3) x0_22) ∧ Aside0 (Kept w wc (fun k_ => P0_ k_)) ∧ Aside0 (Below w0.heap.size w0 wc))
              case first =>
               have H := HC23.out
               clear HC23
               by_cases c24 : (rd (rd_L1 x0_7 x24_1) x24_1) = 1
               ·rw [if_pos c24] at H
                have c24b0 : ((rd (rd_L1 x0_7 x24_1) x24_1) == 1) = true := beq_iff_eq.mpr c24
                have c24b1 : ((rd (rd_L1 x0_7 x24_1) x24_1) != 1) = false := bne_eq_false_iff_eq.mpr c24
                clear c24
                (first | rw [c24b0] | (simp only [i64_w, i32_w]; rw [c24b0]) | skip)
                have H' := Aside0.mk H
                clear H
                go_wp2
                go_meet
                case rel => exact ⟨_, (x0_7), H', ⟨by have := HK1.out; have := HJ7.out; first | omega | exact Nat.le_refl _⟩, ⟨by (try simp only [hl0_1]); (try simp only [hl0_7]); (with_reducible repeat (first | apply Kd.S_alloc | apply Kd.S_drewN | apply Kd.S_drew)); exact HO_0.out⟩, ⟨by repeat (first | (with_reducible first | exact HK.out | apply Kept.alloc | apply Kept.drewN | apply Kept.drew) | exact HK.out)⟩, ⟨bB⟩⟩
               ·rw [if_neg c24] at H
                have c24b0 : ((rd (rd_L1 x0_7 x24_1) x24_1) == 1) = false := beq_eq_false_iff_ne.mpr c24
                have c24b1 : ((rd (rd_L1 x0_7 x24_1) x24_1) != 1) = true := bne_iff_ne.mpr c24
                (first | rw [c24b0] | (simp only [i64_w, i32_w]; rw [c24b0]) | skip)
                replace H := Option.bind_eq_some_iff.mp H
                obtain ⟨t219, A250, H⟩ := H
                replace H : (reedsolomon_matrix_gaussianElimination.l2 kj7 x0_7 (l0.length : Int) ((rd_L1 l0 0).length : Int) x24_1 t219 (l0.length : Int) x24_1 ((rd_L1 l0 0).length : Int) 0) = some (r1, r2) := H
                have A25 := Aside0.mk A250
                clear A250
                have H' := Aside0.mk H
                clear H
                have p217 : 0 ≤ (x24_1 : Int) := dA
                have q217 : x24_1 < (x0_7.length : Int) := dA
                obtain ⟨ad217, A217_0, c217_0, e217, hx217_0, hl217_0, hi217_0⟩ := at_L1 (Kd.S_reads' HO_0.out).2.2 x24_1 p217 q217
                obtain rfl : ad205 = ad217 := (by injection e217)
                obtain ⟨ce217, hce217, hMe217, hcc217⟩ := Kd.S_get HO_0.out [] x24_1 p217 (by first | exact q217 | exact dA | (have e_ := (Kd.S_reads' HO_0.out).1; omega))
                obtain ⟨ve217_0, rfl, ge217_0⟩ := hMe217
                have hv217_0 := hcc217 0 _ rfl
                rw [Nat.add_zero, show ((Kd.slice 5 (Kd.int .u8))).sz = 1 from rfl, Nat.mul_one] at hv217_0
                replace hv217_0 := Option.some.inj (hv217_0.symm.trans hx217_0)
                rw [hv217_0] at ge217_0
                have HL217_0 := Aside0.mk (show Kd.R (Kd.int .u8) 5 _ _ _ _ (rd_L1 x0_7 x24_1) from ge217_0)
                clear hv217_0 ge217_0
                have HX217_0 := Aside0.mk hx217_0
                clear hcc217 hce217
                have HR217_0 := Aside0.mk hi217_0
                have HC217_0 := Aside0.mk hl217_0
                clear hi217_0 hl217_0
                replace p217 := eq_true p217
                replace q217 := eq_true q217
                have p218 : 0 ≤ (x24_1 : Int) := dA
                have q218 : x24_1 < ((rd_L1 x0_7 x24_1).length : Int) := dA
                obtain ⟨ad218, e218, hx218_0⟩ := Kd.at_int (by repeat (first | (with_reducible exact HR217_0.out) | (with_reducible refine Kd.C_alloc ?_ _) | (with_reducible refine Kd.C_drewN ?_ _) | (with_reducible refine Kd.C_drew ?_) | exact HR217_0.out)) x24_1 p218 q218
                cases e218
                replace p218 := eq_true p218
                replace q218 := eq_true q218
                go_wp2_with (first | ((with_reducible refine gate_callee (f := 64) rfl ?_); refine goesL_ (some 81) rfl rfl Tryd.func64 (by kernel_rfl) rfl #[.int .u8 (rd (rd_L1 x0_7 x24_1) x24_1)] rfl aV ?_; (with_reducible refine (reedsolomon_galOneOver.calls (rd (rd_L1 x0_7 x24_1) x24_1) t219 _ ?side1 A25.out).mono ?_); (case side1 => exact TabOK.below HT.out bB); rintro e w' ⟨rfl, ⟨nd, rfl⟩⟩; refine ⟨_, rfl, ?_⟩))
                go_loopg [83] kj7 (fun kq v83 w' => ∃ (x0_3 : List (List Int)) (x83_3 : Int), v83 = .int .i64 x83_3 ∧ Aside0 (reedsolomon_matrix_gaussianElimination.l2 kq x0_3 (l0.length : Int) ((rd_L1 l0 0).length : Int) x24_1 t219 (l0.length : Int) x24_1 ((rd_L1 l0 0).length : Int) x83_3 = some (r1, r2)) ∧ Aside0 (kq ≤ kj7) ∧ Aside0 (Kd.S (Kd.slice 5 (Kd.int .u8)) 22 w' w0.heap.size (fun k_ => (P0_ k_ ∨ w.heap.size ≤ k_)) (.slice (some ad205) x0_7.length co3) x0_3) ∧ Aside0 (Kept w w' (fun k_ => P0_ k_)) ∧ Aside0 (Below w0.heap.size w0 w'))
                case atStart => exact ⟨(x0_7), (0), (by first | rfl | (simp; done) | (simp [*]; done)), H', ⟨Nat.le_refl _⟩, ⟨by (try simp only [hl0_1]); (try simp only [hl0_7]); (with_reducible repeat (first | apply Kd.S_alloc | apply Kd.S_drewN | apply Kd.S_drew)); exact HO_0.out⟩, ⟨by repeat (first | (with_reducible first | exact HK.out | apply Kept.alloc | apply Kept.drewN | apply Kept.drew) | exact HK.out)⟩, ⟨bB⟩⟩
                case round =>
                 clear H'
                 try clear c1
                 try clear c2
                 try clear c2b0
                 try clear c2b1
                 try clear p2
                 try clear q2
                 try clear hx2
                 try clear qi2
                 try clear c4
                 try clear c4b0
                 try clear c5
                 try clear c5b0
                 try clear c6
                 try clear c6b0
                 try clear p6
                 try clear c7
                 try clear c7b0
                 try clear c9
                 try clear c9b0
                 try clear c9b1
                 try clear c10
                 try clear c10b0
                 try clear c11
                 try clear c11b0
                 try clear c12
                 try clear c12b0
                 try clear c13
                 try clear c13b0
                 try clear c14
                 try clear c14b0
                 try clear c15
                 try clear c15b0
                 try clear c15b1
                 try clear c19
                 try clear c19b0
                 try clear c20
                 try clear c20b0
                 try clear p20
                 try clear q20
                 try clear hx20
                 try clear qi20
                 try clear c21
                 try clear c21b0
                 try clear p21
                 try clear q21
                 try clear hx21
                 try clear c22
                 try clear c22b0
                 try clear c22b1
                 try clear c24
                 try clear c24b0
                 try clear c24b1
                 try clear hx205_0
                 try clear hx206_0
                 try clear hx207_0
                 try clear hx208_0
                 try clear hx209_0
                 try clear hx213_0
                 try clear hx214_0
                 try clear hx215_0
                 try clear hx216_0
                 try clear hx217_0
                 try clear hx218_0
                 try clear p2
                 try clear p205
                 try clear p206
                 try clear p207
                 try clear p208
                 try clear p209
                 try clear p213
                 try clear p214
                 try clear p215
                 try clear p216
                 try clear p217
                 try clear p218
                 try clear p6
                 try clear q2
                 try clear q205
                 try clear q206
                 try clear q207
                 try clear q208
                 try clear q209
                 try clear q212
                 try clear q213
                 try clear q214
                 try clear q215
                 try clear q216
                 try clear q217
                 try clear q218
                 obtain ⟨x0_3, x83_3, rfl, HA, HK3, HO_0, HK, HB⟩ := hrel
                 have hl0_3 := (Kd.S_reads' HO_0.out).1
                 rw [hl0_3] at HO_0
                 (try simp only [hl0_3])
                 cases gk with
                 | zero => exact absurd HA.out (by simp [reedsolomon_matrix_gaussianElimination.l2])
                 | succ k3 =>
                  have H := HA.out
                  clear HA
                  simp only [reedsolomon_matrix_gaussianElimination.l2] at H
                  by_cases c26 : x83_3 < ((rd_L1 l0 0).length : Int)
                  ·rw [if_pos c26] at H
                   have c26b0 : decide (x83_3 < ((rd_L1 l0 0).length : Int)) = true := decide_eq_true c26
                   (try (have c26b0hl0_1 := c26b0; rw [hl0_1] at c26b0hl0_1))
                   (try (have c26b0hl0_7 := c26b0; simp only [hl0_1, hl0_7] at c26b0hl0_7))
                   (try (have c26b0hl0_3 := c26b0; simp only [hl0_1, hl0_7, hl0_3] at c26b0hl0_3))
                   clear c26
                   by_cases c27 : 0 ≤ x24_1
                   ·rw [if_pos c27] at H
                    have c27b0 : decide (0 ≤ x24_1) = true := decide_eq_true c27
                    clear c27
                    by_cases c28 : x24_1 < (x0_3.length : Int)
                    ·rw [if_pos c28] at H
                     have c28b0 : decide (x24_1 < (x0_3.length : Int)) = true := decide_eq_true c28
                     (try (have c28b0hl0_1 := c28b0; rw [hl0_1] at c28b0hl0_1))
                     (try (have c28b0hl0_7 := c28b0; simp only [hl0_1, hl0_7] at c28b0hl0_7))
                     (try (have c28b0hl0_3 := c28b0; simp only [hl0_1, hl0_7, hl0_3] at c28b0hl0_3))
                     clear c28
                     by_cases c29 : 0 ≤ x83_3
                     ·rw [if_pos c29] at H
                      have c29b0 : decide (0 ≤ x83_3) = true := decide_eq_true c29
                      clear c29
                      by_cases c30 : x83_3 < ((rd_L1 x0_3 x24_1).length : Int)
                      ·rw [if_pos c30] at H
                       have c30b0 : decide (x83_3 < ((rd_L1 x0_3 x24_1).length : Int)) = true := decide_eq_true c30
                       (try (have c30b0hl0_1 := c30b0; rw [hl0_1] at c30b0hl0_1))
                       (try (have c30b0hl0_7 := c30b0; simp only [hl0_1, hl0_7] at c30b0hl0_7))
                       (try (have c30b0hl0_3 := c30b0; simp only [hl0_1, hl0_7, hl0_3] at c30b0hl0_3))
                       clear c30
                       replace H := Option.bind_eq_some_iff.mp H
                       obtain ⟨t223, A310, H⟩ := H
                       replace H : (reedsolomon_matrix_gaussianElimination.l2 k3 (x0_3.set (x24_1 : Int).toNat ((rd_L1 x0_3 x24_1).set (x83_3 : Int).toNat t223)) (l0.length : Int) ((rd_L1 l0 0).length : Int) x24_1 t219 (l0.length : Int) x24_1 ((rd_L1 l0 0).length : Int) (wrap64 (x83_3 + 1))) = some (r1, r2) := H
                       have A31 := Aside0.mk A310
                       clear A310
                       obtain ⟨y224, hy224⟩ : ∃ y_ : List Int, y_ = ((rd_L1 x0_3 x24_1).set (x83_3 : Int).toNat t223) := ⟨_, rfl⟩
                       replace H : (reedsolomon_matrix_gaussianElimination.l2 k3 (x0_3.set (x24_1 : Int).toNat y224) (l0.length : Int) ((rd_L1 l0 0).length : Int) x24_1 t219 (l0.length : Int) x24_1 ((rd_L1 l0 0).length : Int) (wrap64 (x83_3 + 1))) = some (r1, r2) := by first | (rw [hy224]; with_reducible exact H) | (have H2_ := (Option.bind_some _ _).symm.trans H; rw [hy224]; with_reducible exact H2_) | (have H2_ := (Option.bind_some _ _).symm.trans H; with_reducible exact H2_) | with_reducible exact H | (rw [hy224]; exact H) | exact H
                       have Ny224 := Aside0.mk hy224
                       clear hy224
                       obtain ⟨y226, hy226⟩ : ∃ y_ : List (List Int), y_ = (x0_3.set (x24_1 : Int).toNat y224) := ⟨_, rfl⟩
                       replace H : (reedsolomon_matrix_gaussianElimination.l2 k3 y226 (l0.length : Int) ((rd_L1 l0 0).length : Int) x24_1 t219 (l0.length : Int) x24_1 ((rd_L1 l0 0).length : Int) (wrap64 (x83_3 + 1))) = some (r1, r2) := by first | (rw [hy226]; with_reducible exact H) | (have H2_ := (Option.bind_some _ _).symm.trans H; rw [hy226]; with_reducible exact H2_) | (have H2_ := (Option.bind_some _ _).symm.trans H; with_reducible exact H2_) | with_reducible exact H | (rw [hy226]; exact H) | exact H
                       have Ny226 := Aside0.mk hy226
                       clear hy226
                       have H' := Aside0.mk H
                       clear H
                       try go_wp2
                       have n0_ := Aside0.mk (Kd.S_drew HO_0.out)
                       have n1_ := Aside0.mk (Kept.drew HK.out)
                       have n2_ := Aside0.mk (below_drew1 HB.out)
                       clear HO_0
                       clear HK
                       clear HB
                       have HO_0 := n0_
                       have HK := n1_
                       have HB := n2_
                       clear n0_ n1_ n2_
                       have p220 : 0 ≤ (x24_1 : Int) := dA
                       have q220 : x24_1 < (x0_3.length : Int) := dA
                       obtain ⟨ad220, A220_0, c220_0, e220, hx220_0, hl220_0, hi220_0⟩ := at_L1 (Kd.S_reads' HO_0.out).2.2 x24_1 p220 q220
                       obtain rfl : ad205 = ad220 := (by injection e220)
                       obtain ⟨ce220, hce220, hMe220, hcc220⟩ := Kd.S_get HO_0.out [] x24_1 p220 (by first | exact q220 | exact dA | (have e_ := (Kd.S_reads' HO_0.out).1; omega))
                       obtain ⟨ve220_0, rfl, ge220_0⟩ := hMe220
                       have hv220_0 := hcc220 0 _ rfl
                       rw [Nat.add_zero, show ((Kd.slice 5 (Kd.int .u8))).sz = 1 from rfl, Nat.mul_one] at hv220_0
                       replace hv220_0 := Option.some.inj (hv220_0.symm.trans hx220_0)
                       rw [hv220_0] at ge220_0
                       have HL220_0 := Aside0.mk (show Kd.R (Kd.int .u8) 5 _ _ _ _ (rd_L1 x0_3 x24_1) from ge220_0)
                       clear hv220_0 ge220_0
                       have HX220_0 := Aside0.mk hx220_0
                       clear hcc220 hce220
                       have HR220_0 := Aside0.mk hi220_0
                       have HC220_0 := Aside0.mk hl220_0
                       clear hi220_0 hl220_0
                       replace p220 := eq_true p220
                       replace q220 := eq_true q220
                       have p221 : 0 ≤ (x24_1 : Int) := dA
                       have q221 : x24_1 < (x0_3.length : Int) := dA
                       obtain ⟨ad221, A221_0, c221_0, e221, hx221_0, hl221_0, hi221_0⟩ := at_L1 (Kd.S_reads' HO_0.out).2.2 x24_1 p221 q221
                       obtain rfl : ad205 = ad221 := (by injection e221)
                       obtain ⟨ce221, hce221, hMe221, hcc221⟩ := Kd.S_get HO_0.out [] x24_1 p221 (by first | exact q221 | exact dA | (have e_ := (Kd.S_reads' HO_0.out).1; omega))
                       obtain ⟨ve221_0, rfl, ge221_0⟩ := hMe221
                       have hv221_0 := hcc221 0 _ rfl
                       rw [Nat.add_zero, show ((Kd.slice 5 (Kd.int .u8))).sz = 1 from rfl, Nat.mul_one] at hv221_0
                       replace hv221_0 := Option.some.inj (hv221_0.symm.trans hx221_0)
                       rw [hv221_0] at ge221_0
                       have HL221_0 := Aside0.mk (show Kd.R (Kd.int .u8) 5 _ _ _ _ (rd_L1 x0_3 x24_1) from ge221_0)
                       clear hv221_0 ge221_0
                       have HX221_0 := Aside0.mk hx221_0
                       clear hcc221 hce221
                       have HR221_0 := Aside0.mk hi221_0
                       have HC221_0 := Aside0.mk hl221_0
                       clear hi221_0 hl221_0
                       replace p221 := eq_true p221
                       replace q221 := eq_true q221
                       have ea_ := Option.some.inj (hx220_0.symm.trans hx221_0)
                       injection ea_ with ea_ en_ ec_
                       subst ea_
                       subst ec_
                       clear en_
                       have p222 : 0 ≤ (x83_3 : Int) := dA
                       have q222 : x83_3 < ((rd_L1 x0_3 x24_1).length : Int) := dA
                       obtain ⟨ad222, e222, hx222_0⟩ := Kd.at_int (by repeat (first | (with_reducible exact HR221_0.out) | (with_reducible refine Kd.C_alloc ?_ _) | (with_reducible refine Kd.C_drewN ?_ _) | (with_reducible refine Kd.C_drew ?_) | exact HR221_0.out)) x83_3 p222 q222
                       cases e222
                       replace p222 := eq_true p222
                       replace q222 := eq_true q222
                       refine start_ (n := 16) (S := fun w' => w'.cell? (ad205.add (x24_1).toNat) = some (.slice (some ad222) (rd_L1 x0_3 x24_1).length c220_0) ∧ w'.cell? (ad205.add (x24_1).toNat) = some (.slice (some ad222) (rd_L1 x0_3 x24_1).length c220_0) ∧ w'.cell? (ad222.add (x83_3).toNat) = some (.int .u8 (rd (rd_L1 x0_3 x24_1) x83_3))) (ds := [15]) #[false, false, false, false, false, false, false, false, false, false, false, false, false, false, false, false] (by kernel_rfl) rfl rfl ⟨hx220_0, hx221_0, hx222_0⟩ (fun hHeld => ?_); refine with_tabW reedsolomon_matrix_gaussianElimination.tab21 reedsolomon_matrix_gaussianElimination.bits21 (fun HT_ HW_ => ?_)
                       generalize wr.drew = w33 at HO_0 HK HB HL220_0 HL221_0 HR220_0 HR221_0 HX220_0 HX221_0 hx220_0 hx221_0 hx222_0 hHeld ⊢
                       refine pure_ (i := 0) (N := some 86) (v := ?_) (a' := ?_) #[true, false, false, false, false, false, false, false, false, false, false, false, false, false, false, false] rfl rfl (any_of HT_.out (by kernel_rfl)) (fun _ _ _ h => h) (Or.inl ⟨by rfl, ?_⟩) ?_ ?_
                       rotate_left
                       ·intro w'
                        go_simp
                        with_reducible rfl
                       rotate_left
                       ·simp only [Act.put, List.setIfInBounds_toArray, List.set_cons_zero, List.set_cons_succ, i64_w, i32_w]
                        rfl
                       refine pure_ (i := 1) (N := some 87) (v := ?_) (a' := ?_) #[true, true, false, false, false, false, false, false, false, false, false, false, false, false, false, false] rfl rfl (any_of HT_.out (by kernel_rfl)) (fun _ _ _ h => h) (Or.inl ⟨by rfl, ?_⟩) ?_ ?_
                       rotate_left
                       ·intro w'
                        go_simp
                        with_reducible rfl
                       rotate_left
                       ·simp only [Act.put, List.setIfInBounds_toArray, List.set_cons_zero, List.set_cons_succ, i64_w, i32_w]
                        rfl
                       refine pure_ (i := 2) (N := some 88) (v := ?_) (a' := ?_) #[true, true, true, false, false, false, false, false, false, false, false, false, false, false, false, false] rfl rfl (any_of HT_.out (by kernel_rfl)) (fun _ _ _ h => h) (Or.inl ⟨by rfl, ?_⟩) ?_ ?_
                       rotate_left
                       ·intro w'
                        go_simp
                        with_reducible rfl
                       rotate_left
                       ·simp only [Act.put, List.setIfInBounds_toArray, List.set_cons_zero, List.set_cons_succ, i64_w, i32_w]
                        rfl
                       refine pure_ (i := 4) (N := some 90) (v := ?_) (a' := ?_) #[true, true, true, false, true, false, false, false, false, false, false, false, false, false, false, false] rfl rfl (any_of HT_.out (by kernel_rfl)) (fun _ _ _ h => h) (Or.inl ⟨by rfl, ?_⟩) ?_ ?_
                       rotate_left
                       ·intro w'
                        go_simp
                        with_reducible rfl
                       rotate_left
                       ·simp only [Act.put, List.setIfInBounds_toArray, List.set_cons_zero, List.set_cons_succ, i64_w, i32_w]
                        rfl
                       refine pure_ (i := 5) (N := some 91) (v := ?_) (a' := ?_) #[true, true, true, false, true, true, false, false, false, false, false, false, false, false, false, false] rfl rfl (any_of HT_.out (by kernel_rfl)) (fun _ _ _ h => h) (Or.inl ⟨by rfl, ?_⟩) ?_ ?_
                       rotate_left
                       ·intro w'
                        go_simp
                        with_reducible rfl
                       rotate_left
                       ·simp only [Act.put, List.setIfInBounds_toArray, List.set_cons_zero, List.set_cons_succ, i64_w, i32_w]
                        rfl
                       refine pure_ (i := 6) (N := some 92) (v := ?_) (a' := ?_) #[true, true, true, false, true, true, true, false, false, false, false, false, false, false, false, false] rfl rfl (any_of HT_.out (by kernel_rfl)) (fun _ _ _ h => h) (Or.inl ⟨by rfl, ?_⟩) ?_ ?_
                       rotate_left
                       ·intro w'
                        go_simp
                        with_reducible rfl
                       rotate_left
                       ·simp only [Act.put, List.setIfInBounds_toArray, List.set_cons_zero, List.set_cons_succ, i64_w, i32_w]
                        rfl
                       refine pure_ (i := 7) (N := some 93) (v := ?_) (a' := ?_) #[true, true, true, false, true, true, true, true, false, false, false, false, false, false, false, false] rfl rfl (any_of HT_.out (by kernel_rfl)) (fun _ _ _ h => h) (Or.inl ⟨by rfl, ?_⟩) ?_ ?_
                       rotate_left
                       ·intro w'
                        go_simp
                        with_reducible rfl
                       rotate_left
                       ·simp only [Act.put, List.setIfInBounds_toArray, List.set_cons_zero, List.set_cons_succ, i64_w, i32_w]
                        rfl
                       refine pure_ (i := 9) (N := some 95) (v := ?_) (a' := ?_) #[true, true, true, false, true, true, true, true, false, true, false, false, false, false, false, false] rfl rfl (any_of HT_.out (by kernel_rfl)) (fun _ _ _ h => h) (Or.inl ⟨by rfl, ?_⟩) ?_ ?_
                       rotate_left
                       ·intro w'
                        go_simp
                        with_reducible rfl
                       rotate_left
                       ·simp only [Act.put, List.setIfInBounds_toArray, List.set_cons_zero, List.set_cons_succ, i64_w, i32_w]
                        rfl
                       refine pure_ (i := 12) (N := some 98) (v := ?_) (a' := ?_) #[true, true, true, false, true, true, true, true, false, true, false, false, true, false, false, false] rfl rfl (any_of HT_.out (by kernel_rfl)) (fun _ _ _ h => h) (Or.inl ⟨by rfl, ?_⟩) ?_ ?_
                       rotate_left
                       ·intro w'
                        go_simp
                        with_reducible rfl
                       rotate_left
                       ·simp only [Act.put, List.setIfInBounds_toArray, List.set_cons_zero, List.set_cons_succ, i64_w, i32_w]
                        rfl
                       refine take_ (i := 3) (N := some 89) (v := ?_) (a' := ?_) #[true, true, true, true, true, true, true, true, false, true, false, false, true, false, false, false] rfl rfl (take_ofW HT_.out HW_.out (by kernel_rfl)) (fun _ _ _ h => h) (Or.inl ⟨by rfl, ?_⟩) hHeld ?_ ?_
                       rotate_left
                       ·rintro w' ⟨s0, s1, s2⟩
                        go_simp
                        with_reducible rfl
                       rotate_left
                       ·simp only [Act.put, List.setIfInBounds_toArray, List.set_cons_zero, List.set_cons_succ, i64_w, i32_w]
                        rfl
                       refine take_ (i := 8) (N := some 94) (v := ?_) (a' := ?_) #[true, true, true, true, true, true, true, true, true, true, false, false, true, false, false, false] rfl rfl (take_ofW HT_.out HW_.out (by kernel_rfl)) (fun _ _ _ h => h) (Or.inl ⟨by rfl, ?_⟩) hHeld ?_ ?_
                       rotate_left
                       ·rintro w' ⟨s0, s1, s2⟩
                        go_simp
                        with_reducible rfl
                       rotate_left
                       ·simp only [Act.put, List.setIfInBounds_toArray, List.set_cons_zero, List.set_cons_succ, i64_w, i32_w]
                        rfl
                       refine pure_ (i := 10) (N := some 96) (v := ?_) (a' := ?_) #[true, true, true, true, true, true, true, true, true, true, true, false, true, false, false, false] rfl rfl (any_of HT_.out (by kernel_rfl)) (fun _ _ _ h => h) (Or.inl ⟨by rfl, ?_⟩) ?_ ?_
                       rotate_left
                       ·intro w'
                        go_simp
                        with_reducible rfl
                       rotate_left
                       ·simp only [Act.put, List.setIfInBounds_toArray, List.set_cons_zero, List.set_cons_succ, i64_w, i32_w]
                        rfl
                       refine take_ (i := 11) (N := some 97) (v := ?_) (a' := ?_) #[true, true, true, true, true, true, true, true, true, true, true, true, true, false, false, false] rfl rfl (take_ofW HT_.out HW_.out (by kernel_rfl)) (fun _ _ _ h => h) (Or.inl ⟨by rfl, ?_⟩) hHeld ?_ ?_
                       rotate_left
                       ·rintro w' ⟨s0, s1, s2⟩
                        go_simp
                        with_reducible rfl
                       rotate_left
                       ·simp only [Act.put, List.setIfInBounds_toArray, List.set_cons_zero, List.set_cons_succ, i64_w, i32_w]
                        rfl
                       refine one_ (i := 13) (N := some 99) #[true, true, true, true, true, true, true, true, true, true, true, true, true, true, false, false] rfl rfl (one_of HT_.out (by kernel_rfl)) (by decide) (fun K hK => ?_)
                       refine goes_ Tryd.func47 (by kernel_rfl) rfl #[.int .u8 (rd (rd_L1 x0_3 x24_1) x83_3), .int .u8 t219] (by rfl) rfl rfl aV ?_
                       with_reducible refine (reedsolomon_galMultiply.calls (rd (rd_L1 x0_3 x24_1) x83_3) t219 t223 _ ?side1 A31.out).mono ?_
                       (case side1 => exact TabOK.below HT.out bB)
                       rintro e w' ⟨rfl, ⟨nd, rfl⟩⟩
                       refine ⟨_, rfl, ?_⟩
                       have p32 : 0 ≤ (x83_3 : Int) := dA
                       have q32 : (x83_3 : Int) < (((rd_L1 x0_3 x24_1).length : Int) : Int) := dA
                       obtain ⟨go32, co32, eo32, gb32, gl32, cl32, HG32⟩ := Kd.R_form HL220_0.out (by omega)
                       (first | cases eo32 | (injection eo32 with ea_ en_ ec_; (first | subst ea_ | (injection ea_ with ea_; subst ea_)); subst ec_; clear en_))
                       have GB32 := Aside0.mk gb32
                       have GG32 := Aside0.mk HG32
                       clear gb32 gl32 HG32
                       have HMgo32 := Aside0.mk (show (P0_ go32 ∨ w.heap.size ≤ go32) from (HL220_0.out.1 _ rfl).1)
                       (first | simp only [add_plain] at hx222_0 | skip)
                       obtain ⟨hx32_0, hf32_0⟩ := Kd.R_celln 0 HL220_0.out (x83_3 : Int) p32 q32
                       replace p32 := eq_true p32
                       replace q32 := eq_true q32
                       have hq34 : (x24_1 : Int) < (x0_3.length : Int) := (by have h_ : (x24_1 : Int) < ((x0_3.length : Int) : Int) := dA; first | exact h_ | (have e_ := (Kd.S_reads' HO_0.out).1; omega) | simpa only [List.length_set, List.length_set] using h_)
                       obtain ⟨oki34, ce34, hcl34, hM34, hcc34, hok34, hbk34⟩ := Kd.S_borrow HO_0.out [] (x24_1 : Int) dA hq34
                       obtain ⟨ve34_0, rfl, ge34_0⟩ := hM34
                       have hv34 := hcc34 0 _ rfl
                       rw [Nat.add_zero, show ((Kd.slice 5 (Kd.int .u8))).sz = 1 from rfl, Nat.mul_one] at hv34
                       replace hv34 := Option.some.inj (hv34.symm.trans HX220_0.out)
                       subst hv34
                       clear hcc34 hcl34
                       replace ge34_0 := (show Kd.R (Kd.int .u8) 5 _ _ _ _ (rd_L1 x0_3 x24_1) from ge34_0)
                       have HP34 := Kd.R_putg ge34_0 (x83_3 : Int) t223
                       rw [← Ny224.out] at HP34
                       have HS34 := hbk34 HP34.2 (fun k_ e_ => by injection e_ with e_; subst e_; exact ge34_0.1 _ rfl) (x' := y224) (Kd.M_row HP34.1)
                       rw [← Ny226.out] at HS34
                       have HQ34 := Aside0.mk HS34
                       clear HP34 HS34 hbk34 hok34
                       refine hK.out _ _ ⟨hHeld.1, hHeld.2.1, hHeld.2.2⟩ (fun hHeld => ?_)
                       clear hK K
                       refine norm_ (a' := ?_) ?_ ?_
                       rotate_left
                       ·show Act.put _ (some 99) _ = _
                        simp only [Act.put, List.setIfInBounds_toArray, List.set_cons_zero, List.set_cons_succ, i64_w, i32_w]
                        rfl
                       refine pure_ (i := 14) (N := some 100) (v := ?_) (a' := ?_) #[true, true, true, true, true, true, true, true, true, true, true, true, true, true, true, false] rfl rfl (any_of HT_.out (by kernel_rfl)) (fun _ _ _ h => h) (Or.inl ⟨by rfl, ?_⟩) ?_ ?_
                       rotate_left
                       ·intro w'
                        go_simp
                        with_reducible rfl
                       rotate_left
                       ·simp only [Act.put, List.setIfInBounds_toArray, List.set_cons_zero, List.set_cons_succ, i64_w, i32_w]
                        rfl
                       refine last_ (i := 15) (N := none) #[true, true, true, true, true, true, true, true, true, true, true, true, true, true, true, true] rfl rfl (one_of HT_.out (by kernel_rfl)) (by decide) (fun K hK => ?_)
                       refine skip_ (w1 := ?_) (by rfl) rfl ?_ ?_
                       rotate_left
                       ·go_simp
                        rfl
                       refine hK.out _ _ ?_
                       clear hK K
                       refine done_ (done_of HT_.out (by kernel_rfl)) ?_
                       try go_wp2
                       (try simp only [← hl0_3])
                       go_roundg k3
                       case measure => have := HK1.out; have := HJ7.out; have := HK3.out; omega
                       case rel => exact ⟨(y226), (wrap64 (x83_3 + 1)), (by first | rfl | (simp; done) | (simp [*]; done)), H', ⟨by have := HK1.out; have := HJ7.out; have := HK3.out; omega⟩, ⟨by (try simp only [hl0_1]); (try simp only [hl0_7]); (try simp only [hl0_3]); (with_reducible repeat (first | apply Kd.S_alloc | apply Kd.S_drewN | apply Kd.S_drew)); exact HQ34.out⟩, ⟨by repeat (first | (with_reducible first | exact HK.out | apply Kept.alloc | apply Kept.drewN | apply Kept.drew | refine Kept.setCell ?_ HMgo32.out _) | exact HK.out)⟩, ⟨by repeat (first | (with_reducible first | exact HB.out | apply below_alloc | apply pw_below_drewN | apply below_drew1 | refine below_set ?_ GB32.out) | exact HB.out)⟩⟩
                      ·rw [if_neg c30] at H
                       exact absurd H (by simp)
                     ·rw [if_neg c29] at H
                      exact absurd H (by simp)
                    ·rw [if_neg c28] at H
                     exact absurd H (by simp)
                   ·rw [if_neg c27] at H
                    exact absurd H (by simp)
                  ·rw [if_neg c26] at H
                   have c26b0 : decide (x83_3 < ((rd_L1 l0 0).length : Int)) = false := decide_eq_false c26
                   (try (have c26b0hl0_1 := c26b0; rw [hl0_1] at c26b0hl0_1))
                   (try (have c26b0hl0_7 := c26b0; simp only [hl0_1, hl0_7] at c26b0hl0_7))
                   (try (have c26b0hl0_3 := c26b0; simp only [hl0_1, hl0_7, hl0_3] at c26b0hl0_3))
                   clear c26
                   have H' := Aside0.mk H
                   clear H
                   go_wp2
                   (try simp only [← hl0_3])
                   go_meet
                   case rel => exact ⟨_, (x0_3), H', ⟨by have := HK1.out; have := HJ7.out; have := HK3.out; first | omega | exact Nat.le_refl _⟩, ⟨by (try simp only [hl0_1]); (try simp only [hl0_7]); (try simp only [hl0_3]); (with_reducible repeat (first | apply Kd.S_alloc | apply Kd.S_drewN | apply Kd.S_drew)); exact HO_0.out⟩, ⟨by repeat (first | (with_reducible first | exact HK.out | apply Kept.alloc | apply Kept.drewN | apply Kept.drew) | exact HK.out)⟩, ⟨bB⟩⟩
              case rest =>
               clear HC23
               try clear c1
               try clear c2
               try clear c2b0
               try clear c2b1
               try clear p2
               try clear q2
               try clear hx2
               try clear qi2
               try clear c3
               try clear p3
               try clear q3
               try clear hx3
               try clear hf3
               try clear c4
               try clear c4b0
               try clear c5
               try clear c5b0
               try clear c6
               try clear c6b0
               try clear p6
               try clear c7
               try clear c7b0
               try clear c9
               try clear c9b0
               try clear c9b1
               try clear c10
               try clear c10b0
               try clear c11
               try clear c11b0
               try clear c12
               try clear c12b0
               try clear c13
               try clear c13b0
               try clear c14
               try clear c14b0
               try clear c15
               try clear c15b0
               try clear c15b1
               try clear c19
               try clear c19b0
               try clear c20
               try clear c20b0
               try clear p20
               try clear q20
               try clear hx20
               try clear qi20
               try clear c21
               try clear c21b0
               try clear p21
               try clear q21
               try clear hx21
               try clear c22
               try clear c22b0
               try clear c22b1
               try clear p22
               try clear q22
               try clear hx22
               try clear c24
               try clear c24b0
               try clear c24b1
               try clear c26
               try clear c26b0
               try clear c27
               try clear c27b0
               try clear c28
               try clear c28b0
               try clear c29
               try clear c29b0
               try clear c30
               try clear c30b0
               try clear p32
               try clear q32
               try clear hx32
               try clear hf32
               try clear c34
               try clear q34
               try clear hx205_0
               try clear hx206_0
               try clear hx207_0
               try clear hx208_0
               try clear hx209_0
               try clear hx213_0
               try clear hx214_0
               try clear hx215_0
               try clear hx216_0
               try clear hx217_0
               try clear hx218_0
               try clear hx220_0
               try clear hx221_0
               try clear hx222_0
               try clear hx32_0
               try clear p2
               try clear p20
               try clear p205
               try clear p206
               try clear p207
               try clear p208
               try clear p209
               try clear p21
               try clear p213
               try clear p214
               try clear p215
               try clear p216
               try clear p217
               try clear p218
               try clear p220
               try clear p221
               try clear p222
               try clear p32
               try clear p6
               try clear q2
               try clear q20
               try clear q205
               try clear q206
               try clear q207
               try clear q208
               try clear q209
               try clear q21
               try clear q212
               try clear q213
               try clear q214
               try clear q215
               try clear q216
               try clear q217
               try clear q218
               try clear q220
               try clear q221
               try clear q222
               try clear q32
               obtain ⟨kq, x0_22, HA, HJ22, HO_0, HK, HB⟩ := hcut
               have hl0_22 := (Kd.S_reads' HO_0.out).1
               rw [hl0_22] at HO_0
               (try simp only [hl0_22])
               cases kq with
               | zero => exact absurd HA.out (by simp [reedsolomon_matrix_gaussianElimination.j4])
               | succ kj22 =>
                have H := HA.out
                clear HA
                simp only [reedsolomon_matrix_gaussianElimination.j4] at H
                have H' := Aside0.mk H
                clear H
                go_wp2
                go_loopg [10] kj22 (fun kq v10 w' => ∃ (x0_4 : List (List Int)) (x10_4 : Int), v10 = .int .i64 x10_4 ∧ Aside0 (reedsolomon_matrix_gaussianElimination.l3 kq x0_4 (l0.length : Int) ((rd_L1 l0 0).length : Int) x24_1 x10_4 (l0.length : Int) x24_1 = some (r1, r2)) ∧ Aside0 (kq ≤ kj22) ∧ Aside0 (Kd.S (Kd.slice 5 (Kd.int .u8)) 22 w' w0.heap.size (fun k_ => (P0_ k_ ∨ w.heap.size ≤ k_)) (.slice (some ad205) x0_22.length co3) x0_4) ∧ Aside0 (Kept w w' (fun k_ => P0_ k_)) ∧ Aside0 (Below w0.heap.size w0 w'))
                case atStart => exact ⟨(x0_22), (wrap64 (x24_1 + 1)), (by first | rfl | (simp; done) | (simp [*]; done)), H', ⟨Nat.le_refl _⟩, ⟨by (try simp only [hl0_1]); (try simp only [hl0_7]); (try simp only [hl0_22]); (with_reducible repeat (first | apply Kd.S_alloc | apply Kd.S_drewN | apply Kd.S_drew)); exact HO_0.out⟩, ⟨by repeat (first | (with_reducible first | exact HK.out | apply Kept.alloc | apply Kept.drewN | apply Kept.drew) | exact HK.out)⟩, ⟨bB⟩⟩
                case round =>
                 clear H'
                 try clear c1
                 try clear c2
                 try clear c2b0
                 try clear c2b1
                 try clear p2
                 try clear q2
                 try clear hx2
                 try clear qi2
                 try clear c3
                 try clear p3
                 try clear q3
                 try clear hx3
                 try clear hf3
                 try clear c4
                 try clear c4b0
                 try clear c5
                 try clear c5b0
                 try clear c6
                 try clear c6b0
                 try clear p6
                 try clear c7
                 try clear c7b0
                 try clear c9
                 try clear c9b0
                 try clear c9b1
                 try clear c10
                 try clear c10b0
                 try clear c11
                 try clear c11b0
                 try clear c12
                 try clear c12b0
                 try clear c13
                 try clear c13b0
                 try clear c14
                 try clear c14b0
                 try clear c15
                 try clear c15b0
                 try clear c15b1
                 try clear c19
                 try clear c19b0
                 try clear c20
                 try clear c20b0
                 try clear p20
                 try clear q20
                 try clear hx20
                 try clear qi20
                 try clear c21
                 try clear c21b0
                 try clear p21
                 try clear q21
                 try clear hx21
                 try clear c22
                 try clear c22b0
                 try clear c22b1
                 try clear p22
                 try clear q22
                 try clear hx22
                 try clear c24
                 try clear c24b0
                 try clear c24b1
                 try clear c26
                 try clear c26b0
                 try clear c27
                 try clear c27b0
                 try clear c28
                 try clear c28b0
                 try clear c29
                 try clear c29b0
                 try clear c30
                 try clear c30b0
                 try clear p32
                 try clear q32
                 try clear hx32
                 try clear hf32
                 try clear c34
                 try clear q34
                 try clear hx205_0
                 try clear hx206_0
                 try clear hx207_0
                 try clear hx208_0
                 try clear hx209_0
                 try clear hx213_0
                 try clear hx214_0
                 try clear hx215_0
                 try clear hx216_0
                 try clear hx217_0
                 try clear hx218_0
                 try clear hx220_0
                 try clear hx221_0
                 try clear hx222_0
                 try clear hx32_0
                 try clear p2
                 try clear p20
                 try clear p205
                 try clear p206
                 try clear p207
                 try clear p208
                 try clear p209
                 try clear p21
                 try clear p213
                 try clear p214
                 try clear p215
                 try clear p216
                 try clear p217
                 try clear p218
                 try clear p22
                 try clear p220
                 try clear p221
                 try clear p222
                 try clear p3
                 try clear p32
                 try clear p6
                 try clear q2
                 try clear q20
                 try clear q205
                 try clear q206
                 try clear q207
                 try clear q208
                 try clear q209
                 try clear q21
                 try clear q212
                 try clear q213
                 try clear q214
                 try clear q215
                 try clear q216
                 try clear q217
                 try clear q218
                 try clear q22
                 try clear q220
                 try clear q221
                 try clear q222
                 try clear q3
                 try clear q32
                 try clear q34
                 obtain ⟨x0_4, x10_4, rfl, HA, HK4, HO_0, HK, HB⟩ := hrel
                 have hl0_4 := (Kd.S_reads' HO_0.out).1
                 rw [hl0_4] at HO_0
                 (try simp only [hl0_4])
                 cases gk with
                 | zero => exact absurd HA.out (by simp [reedsolomon_matrix_gaussianElimination.l3])
                 | succ k4 =>
                  have H := HA.out
                  clear HA
                  simp only [reedsolomon_matrix_gaussianElimination.l3] at H
                  by_cases c36 : x10_4 < (l0.length : Int)
                  ·rw [if_pos c36] at H
                   have c36b0 : decide (x10_4 < (l0.length : Int)) = true := decide_eq_true c36
                   (try (have c36b0hl0_1 := c36b0; rw [hl0_1] at c36b0hl0_1))
                   (try (have c36b0hl0_7 := c36b0; simp only [hl0_1, hl0_7] at c36b0hl0_7))
                   (try (have c36b0hl0_22 := c36b0; simp only [hl0_1, hl0_7, hl0_22] at c36b0hl0_22))
                   (try (have c36b0hl0_4 := c36b0; simp only [hl0_1, hl0_7, hl0_22, hl0_4] at c36b0hl0_4))
                   clear c36
                   by_cases c37 : 0 ≤ x10_4
                   ·rw [if_pos c37] at H
                    have c37b0 : decide (0 ≤ x10_4) = true := decide_eq_true c37
                    clear c37
                    by_cases c38 : x10_4 < (x0_4.length : Int)
                    ·rw [if_pos c38] at H
                     have c38b0 : decide (x10_4 < (x0_4.length : Int)) = true := decide_eq_true c38
                     (try (have c38b0hl0_1 := c38b0; rw [hl0_1] at c38b0hl0_1))
                     (try (have c38b0hl0_7 := c38b0; simp only [hl0_1, hl0_7] at c38b0hl0_7))
                     (try (have c38b0hl0_22 := c38b0; simp only [hl0_1, hl0_7, hl0_22] at c38b0hl0_22))
                     (try (have c38b0hl0_4 := c38b0; simp only [hl0_1, hl0_7, hl0_22, hl0_4] at c38b0hl0_4))
                     clear c38
                     by_cases c39 : 0 ≤ x24_1
                     ·rw [if_pos c39] at H
                      have c39b0 : decide (0 ≤ x24_1) = true := decide_eq_true c39
                      clear c39
                      by_cases c40 : x24_1 < ((rd_L1 x0_4 x10_4).length : Int)
                      ·rw [if_pos c40] at H
                       have c40b0 : decide (x24_1 < ((rd_L1 x0_4 x10_4).length : Int)) = true := decide_eq_true c40
                       (try (have c40b0hl0_1 := c40b0; rw [hl0_1] at c40b0hl0_1))
                       (try (have c40b0hl0_7 := c40b0; simp only [hl0_1, hl0_7] at c40b0hl0_7))
                       (try (have c40b0hl0_22 := c40b0; simp only [hl0_1, hl0_7, hl0_22] at c40b0hl0_22))
                       (try (have c40b0hl0_4 := c40b0; simp only [hl0_1, hl0_7, hl0_22, hl0_4] at c40b0hl0_4))
                       clear c40
                       by_cases c41 : (rd (rd_L1 x0_4 x10_4) x24_1) = 0
                       ·rw [if_pos c41] at H
                        have c41b0 : ((rd (rd_L1 x0_4 x10_4) x24_1) == 0) = true := beq_iff_eq.mpr c41
                        have c41b1 : ((rd (rd_L1 x0_4 x10_4) x24_1) != 0) = false := bne_eq_false_iff_eq.mpr c41
                        clear c41
                        have H' := Aside0.mk H
                        clear H
                        have p227 : 0 ≤ (x10_4 : Int) := dA
                        have q227 : x10_4 < (x0_4.length : Int) := dA
                        obtain ⟨ad227, A227_0, c227_0, e227, hx227_0, hl227_0, hi227_0⟩ := at_L1 (Kd.S_reads' HO_0.out).2.2 x10_4 p227 q227
                        obtain rfl : ad205 = ad227 := (by injection e227)
                        obtain ⟨ce227, hce227, hMe227, hcc227⟩ := Kd.S_get HO_0.out [] x10_4 p227 (by first | exact q227 | exact dA | (have e_ := (Kd.S_reads' HO_0.out).1; omega))
                        obtain ⟨ve227_0, rfl, ge227_0⟩ := hMe227
                        have hv227_0 := hcc227 0 _ rfl
                        rw [Nat.add_zero, show ((Kd.slice 5 (Kd.int .u8))).sz = 1 from rfl, Nat.mul_one] at hv227_0
                        replace hv227_0 := Option.some.inj (hv227_0.symm.trans hx227_0)
                        rw [hv227_0] at ge227_0
                        have HL227_0 := Aside0.mk (show Kd.R (Kd.int .u8) 5 _ _ _ _ (rd_L1 x0_4 x10_4) from ge227_0)
                        clear hv227_0 ge227_0
                        have HX227_0 := Aside0.mk hx227_0
                        clear hcc227 hce227
                        have HR227_0 := Aside0.mk hi227_0
                        have HC227_0 := Aside0.mk hl227_0
                        clear hi227_0 hl227_0
                        replace p227 := eq_true p227
                        replace q227 := eq_true q227
                        have p228 : 0 ≤ (x24_1 : Int) := dA
                        have q228 : x24_1 < ((rd_L1 x0_4 x10_4).length : Int) := dA
                        obtain ⟨ad228, e228, hx228_0⟩ := Kd.at_int (by repeat (first | (with_reducible exact HR227_0.out) | (with_reducible refine Kd.C_alloc ?_ _) | (with_reducible refine Kd.C_drewN ?_ _) | (with_reducible refine Kd.C_drew ?_) | exact HR227_0.out)) x24_1 p228 q228
                        cases e228
                        replace p228 := eq_true p228
                        replace q228 := eq_true q228
                        go_wp2
                        (try simp only [← hl0_4])
                        go_roundg k4
                        case measure => have := HK1.out; have := HJ7.out; have := HJ22.out; have := HK4.out; omega
                        case rel => exact ⟨(x0_4), (wrap64 (x10_4 + 1)), (by first | rfl | (simp; done) | (simp [*]; done)), H', ⟨by have := HK1.out; have := HJ7.out; have := HJ22.out; have := HK4.out; omega⟩, ⟨by (try simp only [hl0_1]); (try simp only [hl0_7]); (try simp only [hl0_22]); (try simp only [hl0_4]); (with_reducible repeat (first | apply Kd.S_alloc | apply Kd.S_drewN | apply Kd.S_drew)); exact HO_0.out⟩, ⟨by repeat (first | (with_reducible first | exact HK.out | apply Kept.alloc | apply Kept.drewN | apply Kept.drew) | exact HK.out)⟩, ⟨bB⟩⟩
                       ·rw [if_neg c41] at H
                        have c41b0 : ((rd (rd_L1 x0_4 x10_4) x24_1) == 0) = false := beq_eq_false_iff_ne.mpr c41
                        have c41b1 : ((rd (rd_L1 x0_4 x10_4) x24_1) != 0) = true := bne_iff_ne.mpr c41
                        have H' := Aside0.mk H
                        clear H
                        have p227 : 0 ≤ (x10_4 : Int) := dA
                        have q227 : x10_4 < (x0_4.length : Int) := dA
                        obtain ⟨ad227, A227_0, c227_0, e227, hx227_0, hl227_0, hi227_0⟩ := at_L1 (Kd.S_reads' HO_0.out).2.2 x10_4 p227 q227
                        obtain rfl : ad205 = ad227 := (by injection e227)
                        obtain ⟨ce227, hce227, hMe227, hcc227⟩ := Kd.S_get HO_0.out [] x10_4 p227 (by first | exact q227 | exact dA | (have e_ := (Kd.S_reads' HO_0.out).1; omega))
                        obtain ⟨ve227_0, rfl, ge227_0⟩ := hMe227
                        have hv227_0 := hcc227 0 _ rfl
                        rw [Nat.add_zero, show ((Kd.slice 5 (Kd.int .u8))).sz = 1 from rfl, Nat.mul_one] at hv227_0
                        replace hv227_0 := Option.some.inj (hv227_0.symm.trans hx227_0)
                        rw [hv227_0] at ge227_0
                        have HL227_0 := Aside0.mk (show Kd.R (Kd.int .u8) 5 _ _ _ _ (rd_L1 x0_4 x10_4) from ge227_0)
                        clear hv227_0 ge227_0
                        have HX227_0 := Aside0.mk hx227_0
                        clear hcc227 hce227
                        have HR227_0 := Aside0.mk hi227_0
                        have HC227_0 := Aside0.mk hl227_0
                        clear hi227_0 hl227_0
                        replace p227 := eq_true p227
                        replace q227 := eq_true q227
                        have p228 : 0 ≤ (x24_1 : Int) := dA
                        have q228 : x24_1 < ((rd_L1 x0_4 x10_4).length : Int) := dA
                        obtain ⟨ad228, e228, hx228_0⟩ := Kd.at_int (by repeat (first | (with_reducible exact HR227_0.out) | (with_reducible refine Kd.C_alloc ?_ _) | (with_reducible refine Kd.C_drewN ?_ _) | (with_reducible refine Kd.C_drew ?_) | exact HR227_0.out)) x24_1 p228 q228
                        cases e228
                        replace p228 := eq_true p228
                        replace q228 := eq_true q228
                        have p229 : 0 ≤ (x10_4 : Int) := dA
                        have q229 : x10_4 < (x0_4.length : Int) := dA
                        obtain ⟨ad229, A229_0, c229_0, e229, hx229_0, hl229_0, hi229_0⟩ := at_L1 (Kd.S_reads' HO_0.out).2.2 x10_4 p229 q229
                        obtain rfl : ad205 = ad229 := (by injection e229)
                        obtain ⟨ce229, hce229, hMe229, hcc229⟩ := Kd.S_get HO_0.out [] x10_4 p229 (by first | exact q229 | exact dA | (have e_ := (Kd.S_reads' HO_0.out).1; omega))
                        obtain ⟨ve229_0, rfl, ge229_0⟩ := hMe229
                        have hv229_0 := hcc229 0 _ rfl
                        rw [Nat.add_zero, show ((Kd.slice 5 (Kd.int .u8))).sz = 1 from rfl, Nat.mul_one] at hv229_0
                        replace hv229_0 := Option.some.inj (hv229_0.symm.trans hx229_0)
                        rw [hv229_0] at ge229_0
                        have HL229_0 := Aside0.mk (show Kd.R (Kd.int .u8) 5 _ _ _ _ (rd_L1 x0_4 x10_4) from ge229_0)
                        clear hv229_0 ge229_0
                        have HX229_0 := Aside0.mk hx229_0
                        clear hcc229 hce229
                        have HR229_0 := Aside0.mk hi229_0
                        have HC229_0 := Aside0.mk hl229_0
                        clear hi229_0 hl229_0
                        replace p229 := eq_true p229
                        replace q229 := eq_true q229
                        have ea_ := Option.some.inj (hx227_0.symm.trans hx229_0)
                        injection ea_ with ea_ en_ ec_
                        subst ea_
                        subst ec_
                        clear en_
                        have p230 : 0 ≤ (x24_1 : Int) := dA
                        have q230 : x24_1 < ((rd_L1 x0_4 x10_4).length : Int) := dA
                        obtain ⟨ad230, e230, hx230_0⟩ := Kd.at_int (by repeat (first | (with_reducible exact HR229_0.out) | (with_reducible refine Kd.C_alloc ?_ _) | (with_reducible refine Kd.C_drewN ?_ _) | (with_reducible refine Kd.C_drew ?_) | exact HR229_0.out)) x24_1 p230 q230
                        cases e230
                        replace p230 := eq_true p230
                        replace q230 := eq_true q230
                        go_wp2
                        go_loopg [125] k4 (fun kq v125 w' => ∃ (x0_5 : List (List Int)) (x125_5 : Int), v125 = .int .i64 x125_5 ∧ Aside0 (reedsolomon_matrix_gaussianElimination.l4 kq x0_5 (l0.length : Int) ((rd_L1 l0 0).length : Int) x24_1 x10_4 (rd (rd_L1 x0_4 x10_4) x24_1) (l0.length : Int) x24_1 ((rd_L1 l0 0).length : Int) x125_5 = some (r1, r2)) ∧ Aside0 (kq ≤ k4) ∧ Aside0 (Kd.S (Kd.slice 5 (Kd.int .u8)) 22 w' w0.heap.size (fun k_ => (P0_ k_ ∨ w.heap.size ≤ k_)) (.slice (some ad205) x0_4.length co3) x0_5) ∧ Aside0 (Kept w w' (fun k_ => P0_ k_)) ∧ Aside0 (Below w0.heap.size w0 w'))
                        case atStart => exact ⟨(x0_4), (0), (by first | rfl | (simp; done) | (simp [*]; done)), H', ⟨Nat.le_refl _⟩, ⟨by (try simp only [hl0_1]); (try simp only [hl0_7]); (try simp only [hl0_22]); (try simp only [hl0_4]); (with_reducible repeat (first | apply Kd.S_alloc | apply Kd.S_drewN | apply Kd.S_drew)); exact HO_0.out⟩, ⟨by repeat (first | (with_reducible first | exact HK.out | apply Kept.alloc | apply Kept.drewN | apply Kept.drew) | exact HK.out)⟩, ⟨bB⟩⟩
                        case round =>
                         clear H'
                         try clear c1
                         try clear c2
                         try clear c2b0
                         try clear c2b1
                         try clear p2
                         try clear q2
                         try clear hx2
                         try clear qi2
                         try clear c3
                         try clear p3
                         try clear q3
                         try clear hx3
                         try clear hf3
                         try clear c4
                         try clear c4b0
                         try clear c5
                         try clear c5b0
                         try clear c6
                         try clear c6b0
                         try clear p6
                         try clear c7
                         try clear c7b0
                         try clear c9
                         try clear c9b0
                         try clear c9b1
                         try clear c10
                         try clear c10b0
                         try clear c11
                         try clear c11b0
                         try clear c12
                         try clear c12b0
                         try clear c13
                         try clear c13b0
                         try clear c14
                         try clear c14b0
                         try clear c15
                         try clear c15b0
                         try clear c15b1
                         try clear c19
                         try clear c19b0
                         try clear c20
                         try clear c20b0
                         try clear p20
                         try clear q20
                         try clear hx20
                         try clear qi20
                         try clear c21
                         try clear c21b0
                         try clear p21
                         try clear q21
                         try clear hx21
                         try clear c22
                         try clear c22b0
                         try clear c22b1
                         try clear p22
                         try clear q22
                         try clear hx22
                         try clear p23
                         try clear q23
                         try clear hx23
                         try clear c24
                         try clear c24b0
                         try clear c24b1
                         try clear c26
                         try clear c26b0
                         try clear c27
                         try clear c27b0
                         try clear c28
                         try clear c28b0
                         try clear c29
                         try clear c29b0
                         try clear c30
                         try clear c30b0
                         try clear p32
                         try clear q32
                         try clear hx32
                         try clear hf32
                         try clear c34
                         try clear q34
                         try clear c36
                         try clear c36b0
                         try clear c37
                         try clear c37b0
                         try clear c38
                         try clear c38b0
                         try clear c39
                         try clear c39b0
                         try clear c40
                         try clear c40b0
                         try clear c41
                         try clear c41b0
                         try clear c41b1
                         try clear hx205_0
                         try clear hx206_0
                         try clear hx207_0
                         try clear hx208_0
                         try clear hx209_0
                         try clear hx213_0
                         try clear hx214_0
                         try clear hx215_0
                         try clear hx216_0
                         try clear hx217_0
                         try clear hx218_0
                         try clear hx220_0
                         try clear hx221_0
                         try clear hx222_0
                         try clear hx227_0
                         try clear hx228_0
                         try clear hx229_0
                         try clear hx230_0
                         try clear hx32_0
                         try clear p2
                         try clear p20
                         try clear p205
                         try clear p206
                         try clear p207
                         try clear p208
                         try clear p209
                         try clear p21
                         try clear p213
                         try clear p214
                         try clear p215
                         try clear p216
                         try clear p217
                         try clear p218
                         try clear p22
                         try clear p220
                         try clear p221
                         try clear p222
                         try clear p227
                         try clear p228
                         try clear p229
                         try clear p230
                         try clear p3
                         try clear p32
                         try clear p6
                         try clear q2
                         try clear q20
                         try clear q205
                         try clear q206
                         try clear q207
                         try clear q208
                         try clear q209
                         try clear q21
                         try clear q212
                         try clear q213
                         try clear q214
                         try clear q215
                         try clear q216
                         try clear q217
                         try clear q218
                         try clear q22
                         try clear q220
                         try clear q221
                         try clear q222
                         try clear q227
                         try clear q228
                         try clear q229
                         try clear q230
                         try clear q3
                         try clear q32
                         try clear q34
                         obtain ⟨x0_5, x125_5, rfl, HA, HK5, HO_0, HK, HB⟩ := hrel
                         have hl0_5 := (Kd.S_reads' HO_0.out).1
                         rw [hl0_5] at HO_0
                         (try simp only [hl0_5])
                         cases gk with
                         | zero => exact absurd HA.out (by simp [reedsolomon_matrix_gaussianElimination.l4])
                         | succ k5 =>
                          have H := HA.out
                          clear HA
                          simp only [reedsolomon_matrix_gaussianElimination.l4] at H
                          by_cases c42 : x125_5 < ((rd_L1 l0 0).length : Int)
                          ·rw [if_pos c42] at H
                           have c42b0 : decide (x125_5 < ((rd_L1 l0 0).length : Int)) = true := decide_eq_true c42
                           (try (have c42b0hl0_1 := c42b0; rw [hl0_1] at c42b0hl0_1))
                           (try (have c42b0hl0_7 := c42b0; simp only [hl0_1, hl0_7] at c42b0hl0_7))
                           (try (have c42b0hl0_22 := c42b0; simp only [hl0_1, hl0_7, hl0_22] at c42b0hl0_22))
                           (try (have c42b0hl0_4 := c42b0; simp only [hl0_1, hl0_7, hl0_22, hl0_4] at c42b0hl0_4))
                           (try (have c42b0hl0_5 := c42b0; simp only [hl0_1, hl0_7, hl0_22, hl0_4, hl0_5] at c42b0hl0_5))
                           clear c42
                           by_cases c43 : 0 ≤ x10_4
                           ·rw [if_pos c43] at H
                            have c43b0 : decide (0 ≤ x10_4) = true := decide_eq_true c43
                            clear c43
                            by_cases c44 : x10_4 < (x0_5.length : Int)
                            ·rw [if_pos c44] at H
                             have c44b0 : decide (x10_4 < (x0_5.length : Int)) = true := decide_eq_true c44
                             (try (have c44b0hl0_1 := c44b0; rw [hl0_1] at c44b0hl0_1))
                             (try (have c44b0hl0_7 := c44b0; simp only [hl0_1, hl0_7] at c44b0hl0_7))
                             (try (have c44b0hl0_22 := c44b0; simp only [hl0_1, hl0_7, hl0_22] at c44b0hl0_22))
                             (try (have c44b0hl0_4 := c44b0; simp only [hl0_1, hl0_7, hl0_22, hl0_4] at c44b0hl0_4))
                             (try (have c44b0hl0_5 := c44b0; simp only [hl0_1, hl0_7, hl0_22, hl0_4, hl0_5] at c44b0hl0_5))
                             clear c44
                             by_cases c45 : 0 ≤ x125_5
                             ·rw [if_pos c45] at H
                              have c45b0 : decide (0 ≤ x125_5) = true := decide_eq_true c45
                              clear c45
                              by_cases c46 : x125_5 < ((rd_L1 x0_5 x10_4).length : Int)
                              ·rw [if_pos c46] at H
                               have c46b0 : decide (x125_5 < ((rd_L1 x0_5 x10_4).length : Int)) = true := decide_eq_true c46
                               (try (have c46b0hl0_1 := c46b0; rw [hl0_1] at c46b0hl0_1))
                               (try (have c46b0hl0_7 := c46b0; simp only [hl0_1, hl0_7] at c46b0hl0_7))
                               (try (have c46b0hl0_22 := c46b0; simp only [hl0_1, hl0_7, hl0_22] at c46b0hl0_22))
                               (try (have c46b0hl0_4 := c46b0; simp only [hl0_1, hl0_7, hl0_22, hl0_4] at c46b0hl0_4))
                               (try (have c46b0hl0_5 := c46b0; simp only [hl0_1, hl0_7, hl0_22, hl0_4, hl0_5] at c46b0hl0_5))
                               clear c46
                               by_cases c47 : 0 ≤ x24_1
                               ·rw [if_pos c47] at H
                                have c47b0 : decide (0 ≤ x24_1) = true := decide_eq_true c47
                                clear c47
                                by_cases c48 : x24_1 < (x0_5.length : Int)
                                ·rw [if_pos c48] at H
                                 have c48b0 : decide (x24_1 < (x0_5.length : Int)) = true := decide_eq_true c48
                                 (try (have c48b0hl0_1 := c48b0; rw [hl0_1] at c48b0hl0_1))
                                 (try (have c48b0hl0_7 := c48b0; simp only [hl0_1, hl0_7] at c48b0hl0_7))
                                 (try (have c48b0hl0_22 := c48b0; simp only [hl0_1, hl0_7, hl0_22] at c48b0hl0_22))
                                 (try (have c48b0hl0_4 := c48b0; simp only [hl0_1, hl0_7, hl0_22, hl0_4] at c48b0hl0_4))
                                 (try (have c48b0hl0_5 := c48b0; simp only [hl0_1, hl0_7, hl0_22, hl0_4, hl0_5] at c48b0hl0_5))
                                 clear c48
                                 by_cases c49 : x125_5 < ((rd_L1 x0_5 x24_1).length : Int)
                                 ·rw [if_pos c49] at H
                                  have c49b0 : decide (x125_5 < ((rd_L1 x0_5 x24_1).length : Int)) = true := decide_eq_true c49
                                  (try (have c49b0hl0_1 := c49b0; rw [hl0_1] at c49b0hl0_1))
                                  (try (have c49b0hl0_7 := c49b0; simp only [hl0_1, hl0_7] at c49b0hl0_7))
                                  (try (have c49b0hl0_22 := c49b0; simp only [hl0_1, hl0_7, hl0_22] at c49b0hl0_22))
                                  (try (have c49b0hl0_4 := c49b0; simp only [hl0_1, hl0_7, hl0_22, hl0_4] at c49b0hl0_4))
                                  (try (have c49b0hl0_5 := c49b0; simp only [hl0_1, hl0_7, hl0_22, hl0_4, hl0_5] at c49b0hl0_5))
                                  clear c49
                                  replace H := Option.bind_eq_some_iff.mp H
                                  obtain ⟨t235, A500, H⟩ := H
                                  replace H : (reedsolomon_matrix_gaussianElimination.l4 k5 (x0_5.set (x10_4 : Int).toNat ((rd_L1 x0_5 x10_4).set (x125_5 : Int).toNat (Go.bits .xor .u8 (rd (rd_L1 x0_5 x10_4) x125_5) t235))) (l0.length : Int) ((rd_L1 l0 0).length : Int) x24_1 x10_4 (rd (rd_L1 x0_4 x10_4) x24_1) (l0.length : Int) x24_1 ((rd_L1 l0 0).length : Int) (wrap64 (x125_5 + 1))) = some (r1, r2) := H
                                  have A50 := Aside0.mk A500
                                  clear A500
                                  obtain ⟨y236, hy236⟩ : ∃ y_ : List Int, y_ = ((rd_L1 x0_5 x10_4).set (x125_5 : Int).toNat (Go.bits .xor .u8 (rd (rd_L1 x0_5 x10_4) x125_5) t235)) := ⟨_, rfl⟩
                                  replace H : (reedsolomon_matrix_gaussianElimination.l4 k5 (x0_5.set (x10_4 : Int).toNat y236) (l0.length : Int) ((rd_L1 l0 0).length : Int) x24_1 x10_4 (rd (rd_L1 x0_4 x10_4) x24_1) (l0.length : Int) x24_1 ((rd_L1 l0 0).length : Int) (wrap64 (x125_5 + 1))) = some (r1, r2) := by first | (rw [hy236]; with_reducible exact H) | (have H2_ := (Option.bind_some _ _).symm.trans H; rw [hy236]; with_reducible exact H2_) | (have H2_ := (Option.bind_some _ _).symm.trans H; with_reducible exact H2_) | with_reducible exact H | (rw [hy236]; exact H) | exact H
                                  have Ny236 := Aside0.mk hy236
                                  clear hy236
                                  obtain ⟨y238, hy238⟩ : ∃ y_ : List (List Int), y_ = (x0_5.set (x10_4 : Int).toNat y236) := ⟨_, rfl⟩
                                  replace H : (reedsolomon_matrix_gaussianElimination.l4 k5 y238 (l0.length : Int) ((rd_L1 l0 0).length : Int) x24_1 x10_4 (rd (rd_L1 x0_4 x10_4) x24_1) (l0.length : Int) x24_1 ((rd_L1 l0 0).length : Int) (wrap64 (x125_5 + 1))) = some (r1, r2) := by first | (rw [hy238]; with_reducible exact H) | (have H2_ := (Option.bind_some _ _).symm.trans H; rw [hy238]; with_reducible exact H2_) | (have H2_ := (Option.bind_some _ _).symm.trans H; with_reducible exact H2_) | with_reducible exact H | (rw [hy238]; exact H) | exact H
                                  have Ny238 := Aside0.mk hy238
                                  clear hy238
                                  have H' := Aside0.mk H
                                  clear H
                                  try go_wp2
                                  have n0_ := Aside0.mk (Kd.S_drew HO_0.out)
                                  have n1_ := Aside0.mk (Kept.drew HK.out)
                                  have n2_ := Aside0.mk (below_drew1 HB.out)
                                  clear HO_0
                                  clear HK
                                  clear HB
                                  have HO_0 := n0_
                                  have HK := n1_
                                  have HB := n2_
                                  clear n0_ n1_ n2_
                                  have p231 : 0 ≤ (x10_4 : Int) := dA
                                  have q231 : x10_4 < (x0_5.length : Int) := dA
                                  obtain ⟨ad231, A231_0, c231_0, e231, hx231_0, hl231_0, hi231_0⟩ := at_L1 (Kd.S_reads' HO_0.out).2.2 x10_4 p231 q231
                                  obtain rfl : ad205 = ad231 := (by injection e231)
                                  obtain ⟨ce231, hce231, hMe231, hcc231⟩ := Kd.S_get HO_0.out [] x10_4 p231 (by first | exact q231 | exact dA | (have e_ := (Kd.S_reads' HO_0.out).1; omega))
                                  obtain ⟨ve231_0, rfl, ge231_0⟩ := hMe231
                                  have hv231_0 := hcc231 0 _ rfl
                                  rw [Nat.add_zero, show ((Kd.slice 5 (Kd.int .u8))).sz = 1 from rfl, Nat.mul_one] at hv231_0
                                  replace hv231_0 := Option.some.inj (hv231_0.symm.trans hx231_0)
                                  rw [hv231_0] at ge231_0
                                  have HL231_0 := Aside0.mk (show Kd.R (Kd.int .u8) 5 _ _ _ _ (rd_L1 x0_5 x10_4) from ge231_0)
                                  clear hv231_0 ge231_0
                                  have HX231_0 := Aside0.mk hx231_0
                                  clear hcc231 hce231
                                  have HR231_0 := Aside0.mk hi231_0
                                  have HC231_0 := Aside0.mk hl231_0
                                  clear hi231_0 hl231_0
                                  replace p231 := eq_true p231
                                  replace q231 := eq_true q231
                                  have p232 : 0 ≤ (x125_5 : Int) := dA
                                  have q232 : x125_5 < ((rd_L1 x0_5 x10_4).length : Int) := dA
                                  obtain ⟨ad232, e232, hx232_0⟩ := Kd.at_int (by repeat (first | (with_reducible exact HR231_0.out) | (with_reducible refine Kd.C_alloc ?_ _) | (with_reducible refine Kd.C_drewN ?_ _) | (with_reducible refine Kd.C_drew ?_) | exact HR231_0.out)) x125_5 p232 q232
                                  cases e232
                                  replace p232 := eq_true p232
                                  replace q232 := eq_true q232
                                  have p233 : 0 ≤ (x24_1 : Int) := dA
                                  have q233 : x24_1 < (x0_5.length : Int) := dA
                                  obtain ⟨ad233, A233_0, c233_0, e233, hx233_0, hl233_0, hi233_0⟩ := at_L1 (Kd.S_reads' HO_0.out).2.2 x24_1 p233 q233
                                  obtain rfl : ad205 = ad233 := (by injection e233)
                                  obtain ⟨ce233, hce233, hMe233, hcc233⟩ := Kd.S_get HO_0.out [] x24_1 p233 (by first | exact q233 | exact dA | (have e_ := (Kd.S_reads' HO_0.out).1; omega))
                                  obtain ⟨ve233_0, rfl, ge233_0⟩ := hMe233
                                  have hv233_0 := hcc233 0 _ rfl
                                  rw [Nat.add_zero, show ((Kd.slice 5 (Kd.int .u8))).sz = 1 from rfl, Nat.mul_one] at hv233_0
                                  replace hv233_0 := Option.some.inj (hv233_0.symm.trans hx233_0)
                                  rw [hv233_0] at ge233_0
                                  have HL233_0 := Aside0.mk (show Kd.R (Kd.int .u8) 5 _ _ _ _ (rd_L1 x0_5 x24_1) from ge233_0)
                                  clear hv233_0 ge233_0
                                  have HX233_0 := Aside0.mk hx233_0
                                  clear hcc233 hce233
                                  have HR233_0 := Aside0.mk hi233_0
                                  have HC233_0 := Aside0.mk hl233_0
                                  clear hi233_0 hl233_0
                                  replace p233 := eq_true p233
                                  replace q233 := eq_true q233
                                  have p234 : 0 ≤ (x125_5 : Int) := dA
                                  have q234 : x125_5 < ((rd_L1 x0_5 x24_1).length : Int) := dA
                                  obtain ⟨ad234, e234, hx234_0⟩ := Kd.at_int (by repeat (first | (with_reducible exact HR233_0.out) | (with_reducible refine Kd.C_alloc ?_ _) | (with_reducible refine Kd.C_drewN ?_ _) | (with_reducible refine Kd.C_drew ?_) | exact HR233_0.out)) x125_5 p234 q234
                                  cases e234
                                  replace p234 := eq_true p234
                                  replace q234 := eq_true q234
                                  refine start_ (n := 19) (S := fun w' => w'.cell? (ad205.add (x10_4).toNat) = some (.slice (some ad232) (rd_L1 x0_5 x10_4).length c231_0) ∧ w'.cell? (ad232.add (x125_5).toNat) = some (.int .u8 (rd (rd_L1 x0_5 x10_4) x125_5)) ∧ w'.cell? (ad205.add (x24_1).toNat) = some (.slice (some ad234) (rd_L1 x0_5 x24_1).length c233_0) ∧ w'.cell? (ad234.add (x125_5).toNat) = some (.int .u8 (rd (rd_L1 x0_5 x24_1) x125_5))) (ds := [18]) #[false, false, false, false, false, false, false, false, false, false, false, false, false, false, false, false, false, false, false] (by kernel_rfl) rfl rfl ⟨hx231_0, hx232_0, hx233_0, hx234_0⟩ (fun hHeld => ?_); refine with_tabW reedsolomon_matrix_gaussianElimination.tab31 reedsolomon_matrix_gaussianElimination.bits31 (fun HT_ HW_ => ?_)
                                  generalize wr.drew = w52 at HO_0 HK HB HL231_0 HL233_0 HR231_0 HR233_0 HX231_0 HX233_0 hx231_0 hx232_0 hx233_0 hx234_0 hHeld ⊢
                                  refine pure_ (i := 0) (N := some 128) (v := ?_) (a' := ?_) #[true, false, false, false, false, false, false, false, false, false, false, false, false, false, false, false, false, false, false] rfl rfl (any_of HT_.out (by kernel_rfl)) (fun _ _ _ h => h) (Or.inl ⟨by rfl, ?_⟩) ?_ ?_
                                  rotate_left
                                  ·intro w'
                                   go_simp
                                   with_reducible rfl
                                  rotate_left
                                  ·simp only [Act.put, List.setIfInBounds_toArray, List.set_cons_zero, List.set_cons_succ, i64_w, i32_w]
                                   rfl
                                  refine pure_ (i := 1) (N := some 129) (v := ?_) (a' := ?_) #[true, true, false, false, false, false, false, false, false, false, false, false, false, false, false, false, false, false, false] rfl rfl (any_of HT_.out (by kernel_rfl)) (fun _ _ _ h => h) (Or.inl ⟨by rfl, ?_⟩) ?_ ?_
                                  rotate_left
                                  ·intro w'
                                   go_simp
                                   with_reducible rfl
                                  rotate_left
                                  ·simp only [Act.put, List.setIfInBounds_toArray, List.set_cons_zero, List.set_cons_succ, i64_w, i32_w]
                                   rfl
                                  refine pure_ (i := 2) (N := some 130) (v := ?_) (a' := ?_) #[true, true, true, false, false, false, false, false, false, false, false, false, false, false, false, false, false, false, false] rfl rfl (any_of HT_.out (by kernel_rfl)) (fun _ _ _ h => h) (Or.inl ⟨by rfl, ?_⟩) ?_ ?_
                                  rotate_left
                                  ·intro w'
                                   go_simp
                                   with_reducible rfl
                                  rotate_left
                                  ·simp only [Act.put, List.setIfInBounds_toArray, List.set_cons_zero, List.set_cons_succ, i64_w, i32_w]
                                   rfl
                                  refine pure_ (i := 4) (N := some 132) (v := ?_) (a' := ?_) #[true, true, true, false, true, false, false, false, false, false, false, false, false, false, false, false, false, false, false] rfl rfl (any_of HT_.out (by kernel_rfl)) (fun _ _ _ h => h) (Or.inl ⟨by rfl, ?_⟩) ?_ ?_
                                  rotate_left
                                  ·intro w'
                                   go_simp
                                   with_reducible rfl
                                  rotate_left
                                  ·simp only [Act.put, List.setIfInBounds_toArray, List.set_cons_zero, List.set_cons_succ, i64_w, i32_w]
                                   rfl
                                  refine pure_ (i := 7) (N := some 135) (v := ?_) (a' := ?_) #[true, true, true, false, true, false, false, true, false, false, false, false, false, false, false, false, false, false, false] rfl rfl (any_of HT_.out (by kernel_rfl)) (fun _ _ _ h => h) (Or.inl ⟨by rfl, ?_⟩) ?_ ?_
                                  rotate_left
                                  ·intro w'
                                   go_simp
                                   with_reducible rfl
                                  rotate_left
                                  ·simp only [Act.put, List.setIfInBounds_toArray, List.set_cons_zero, List.set_cons_succ, i64_w, i32_w]
                                   rfl
                                  refine pure_ (i := 8) (N := some 136) (v := ?_) (a' := ?_) #[true, true, true, false, true, false, false, true, true, false, false, false, false, false, false, false, false, false, false] rfl rfl (any_of HT_.out (by kernel_rfl)) (fun _ _ _ h => h) (Or.inl ⟨by rfl, ?_⟩) ?_ ?_
                                  rotate_left
                                  ·intro w'
                                   go_simp
                                   with_reducible rfl
                                  rotate_left
                                  ·simp only [Act.put, List.setIfInBounds_toArray, List.set_cons_zero, List.set_cons_succ, i64_w, i32_w]
                                   rfl
                                  refine pure_ (i := 9) (N := some 137) (v := ?_) (a' := ?_) #[true, true, true, false, true, false, false, true, true, true, false, false, false, false, false, false, false, false, false] rfl rfl (any_of HT_.out (by kernel_rfl)) (fun _ _ _ h => h) (Or.inl ⟨by rfl, ?_⟩) ?_ ?_
                                  rotate_left
                                  ·intro w'
                                   go_simp
                                   with_reducible rfl
                                  rotate_left
                                  ·simp only [Act.put, List.setIfInBounds_toArray, List.set_cons_zero, List.set_cons_succ, i64_w, i32_w]
                                   rfl
                                  refine pure_ (i := 10) (N := some 138) (v := ?_) (a' := ?_) #[true, true, true, false, true, false, false, true, true, true, true, false, false, false, false, false, false, false, false] rfl rfl (any_of HT_.out (by kernel_rfl)) (fun _ _ _ h => h) (Or.inl ⟨by rfl, ?_⟩) ?_ ?_
                                  rotate_left
                                  ·intro w'
                                   go_simp
                                   with_reducible rfl
                                  rotate_left
                                  ·simp only [Act.put, List.setIfInBounds_toArray, List.set_cons_zero, List.set_cons_succ, i64_w, i32_w]
                                   rfl
                                  refine pure_ (i := 12) (N := some 140) (v := ?_) (a' := ?_) #[true, true, true, false, true, false, false, true, true, true, true, false, true, false, false, false, false, false, false] rfl rfl (any_of HT_.out (by kernel_rfl)) (fun _ _ _ h => h) (Or.inl ⟨by rfl, ?_⟩) ?_ ?_
                                  rotate_left
                                  ·intro w'
                                   go_simp
                                   with_reducible rfl
                                  rotate_left
                                  ·simp only [Act.put, List.setIfInBounds_toArray, List.set_cons_zero, List.set_cons_succ, i64_w, i32_w]
                                   rfl
                                  refine take_ (i := 3) (N := some 131) (v := ?_) (a' := ?_) #[true, true, true, true, true, false, false, true, true, true, true, false, true, false, false, false, false, false, false] rfl rfl (take_ofW HT_.out HW_.out (by kernel_rfl)) (fun _ _ _ h => h) (Or.inl ⟨by rfl, ?_⟩) hHeld ?_ ?_
                                  rotate_left
                                  ·rintro w' ⟨s0, s1, s2, s3⟩
                                   go_simp
                                   with_reducible rfl
                                  rotate_left
                                  ·simp only [Act.put, List.setIfInBounds_toArray, List.set_cons_zero, List.set_cons_succ, i64_w, i32_w]
                                   rfl
                                  refine pure_ (i := 5) (N := some 133) (v := ?_) (a' := ?_) #[true, true, true, true, true, true, false, true, true, true, true, false, true, false, false, false, false, false, false] rfl rfl (any_of HT_.out (by kernel_rfl)) (fun _ _ _ h => h) (Or.inl ⟨by rfl, ?_⟩) ?_ ?_
                                  rotate_left
                                  ·intro w'
                                   go_simp
                                   with_reducible rfl
                                  rotate_left
                                  ·simp only [Act.put, List.setIfInBounds_toArray, List.set_cons_zero, List.set_cons_succ, i64_w, i32_w]
                                   rfl
                                  refine take_ (i := 6) (N := some 134) (v := ?_) (a' := ?_) #[true, true, true, true, true, true, true, true, true, true, true, false, true, false, false, false, false, false, false] rfl rfl (take_ofW HT_.out HW_.out (by kernel_rfl)) (fun _ _ _ h => h) (Or.inl ⟨by rfl, ?_⟩) hHeld ?_ ?_
                                  rotate_left
                                  ·rintro w' ⟨s0, s1, s2, s3⟩
                                   go_simp
                                   with_reducible rfl
                                  rotate_left
                                  ·simp only [Act.put, List.setIfInBounds_toArray, List.set_cons_zero, List.set_cons_succ, i64_w, i32_w]
                                   rfl
                                  refine take_ (i := 11) (N := some 139) (v := ?_) (a' := ?_) #[true, true, true, true, true, true, true, true, true, true, true, true, true, false, false, false, false, false, false] rfl rfl (take_ofW HT_.out HW_.out (by kernel_rfl)) (fun _ _ _ h => h) (Or.inl ⟨by rfl, ?_⟩) hHeld ?_ ?_
                                  rotate_left
                                  ·rintro w' ⟨s0, s1, s2, s3⟩
                                   go_simp
                                   with_reducible rfl
                                  rotate_left
                                  ·simp only [Act.put, List.setIfInBounds_toArray, List.set_cons_zero, List.set_cons_succ, i64_w, i32_w]
                                   rfl
                                  refine pure_ (i := 13) (N := some 141) (v := ?_) (a' := ?_) #[true, true, true, true, true, true, true, true, true, true, true, true, true, true, false, false, false, false, false] rfl rfl (any_of HT_.out (by kernel_rfl)) (fun _ _ _ h => h) (Or.inl ⟨by rfl, ?_⟩) ?_ ?_
                                  rotate_left
                                  ·intro w'
                                   go_simp
                                   with_reducible rfl
                                  rotate_left
                                  ·simp only [Act.put, List.setIfInBounds_toArray, List.set_cons_zero, List.set_cons_succ, i64_w, i32_w]
                                   rfl
                                  refine take_ (i := 14) (N := some 142) (v := ?_) (a' := ?_) #[true, true, true, true, true, true, true, true, true, true, true, true, true, true, true, false, false, false, false] rfl rfl (take_ofW HT_.out HW_.out (by kernel_rfl)) (fun _ _ _ h => h) (Or.inl ⟨by rfl, ?_⟩) hHeld ?_ ?_
                                  rotate_left
                                  ·rintro w' ⟨s0, s1, s2, s3⟩
                                   go_simp
                                   with_reducible rfl
                                  rotate_left
                                  ·simp only [Act.put, List.setIfInBounds_toArray, List.set_cons_zero, List.set_cons_succ, i64_w, i32_w]
                                   rfl
                                  refine one_ (i := 15) (N := some 143) #[true, true, true, true, true, true, true, true, true, true, true, true, true, true, true, true, false, false, false] rfl rfl (one_of HT_.out (by kernel_rfl)) (by decide) (fun K hK => ?_)
                                  refine goes_ Tryd.func47 (by kernel_rfl) rfl #[.int .u8 (rd (rd_L1 x0_4 x10_4) x24_1), .int .u8 (rd (rd_L1 x0_5 x24_1) x125_5)] (by rfl) rfl rfl aV ?_
                                  with_reducible refine (reedsolomon_galMultiply.calls (rd (rd_L1 x0_4 x10_4) x24_1) (rd (rd_L1 x0_5 x24_1) x125_5) t235 _ ?side1 A50.out).mono ?_
                                  (case side1 => exact TabOK.below HT.out bB)
                                  rintro e w' ⟨rfl, ⟨nd, rfl⟩⟩
                                  refine ⟨_, rfl, ?_⟩
                                  have p51 : 0 ≤ (x125_5 : Int) := dA
                                  have q51 : (x125_5 : Int) < (((rd_L1 x0_5 x10_4).length : Int) : Int) := dA
                                  obtain ⟨go51, co51, eo51, gb51, gl51, cl51, HG51⟩ := Kd.R_form HL231_0.out (by omega)
                                  (first | cases eo51 | (injection eo51 with ea_ en_ ec_; (first | subst ea_ | (injection ea_ with ea_; subst ea_)); subst ec_; clear en_))
                                  have GB51 := Aside0.mk gb51
                                  have GG51 := Aside0.mk HG51
                                  clear gb51 gl51 HG51
                                  have HMgo51 := Aside0.mk (show (P0_ go51 ∨ w.heap.size ≤ go51) from (HL231_0.out.1 _ rfl).1)
                                  (first | simp only [add_plain] at hx232_0 | skip)
                                  obtain ⟨hx51_0, hf51_0⟩ := Kd.R_celln 0 HL231_0.out (x125_5 : Int) p51 q51
                                  replace p51 := eq_true p51
                                  replace q51 := eq_true q51
                                  have hq53 : (x10_4 : Int) < (x0_5.length : Int) := (by have h_ : (x10_4 : Int) < ((x0_5.length : Int) : Int) := dA; first | exact h_ | (have e_ := (Kd.S_reads' HO_0.out).1; omega) | simpa only [List.length_set, List.length_set] using h_)
                                  obtain ⟨oki53, ce53, hcl53, hM53, hcc53, hok53, hbk53⟩ := Kd.S_borrow HO_0.out [] (x10_4 : Int) dA hq53
                                  obtain ⟨ve53_0, rfl, ge53_0⟩ := hM53
                                  have hv53 := hcc53 0 _ rfl
                                  rw [Nat.add_zero, show ((Kd.slice 5 (Kd.int .u8))).sz = 1 from rfl, Nat.mul_one] at hv53
                                  replace hv53 := Option.some.inj (hv53.symm.trans HX231_0.out)
                                  subst hv53
                                  clear hcc53 hcl53
                                  replace ge53_0 := (show Kd.R (Kd.int .u8) 5 _ _ _ _ (rd_L1 x0_5 x10_4) from ge53_0)
                                  have HP53 := Kd.R_putg ge53_0 (x125_5 : Int) (Go.bits .xor .u8 (rd (rd_L1 x0_5 x10_4) x125_5) t235)
                                  rw [← Ny236.out] at HP53
                                  have HS53 := hbk53 HP53.2 (fun k_ e_ => by injection e_ with e_; subst e_; exact ge53_0.1 _ rfl) (x' := y236) (Kd.M_row HP53.1)
                                  rw [← Ny238.out] at HS53
                                  have HQ53 := Aside0.mk HS53
                                  clear HP53 HS53 hbk53 hok53
                                  refine hK.out _ _ ⟨hHeld.1, hHeld.2.1, hHeld.2.2.1, hHeld.2.2.2⟩ (fun hHeld => ?_)
                                  clear hK K
                                  refine norm_ (a' := ?_) ?_ ?_
                                  rotate_left
                                  ·show Act.put _ (some 143) _ = _
                                   simp only [Act.put, List.setIfInBounds_toArray, List.set_cons_zero, List.set_cons_succ, i64_w, i32_w]
                                   rfl
                                  refine pure_ (i := 16) (N := some 144) (v := ?_) (a' := ?_) #[true, true, true, true, true, true, true, true, true, true, true, true, true, true, true, true, true, false, false] rfl rfl (any_of HT_.out (by kernel_rfl)) (fun _ _ _ h => h) (Or.inl ⟨by rfl, ?_⟩) ?_ ?_
                                  rotate_left
                                  ·intro w'
                                   go_simp
                                   with_reducible rfl
                                  rotate_left
                                  ·simp only [Act.put, List.setIfInBounds_toArray, List.set_cons_zero, List.set_cons_succ, i64_w, i32_w]
                                   rfl
                                  refine pure_ (i := 17) (N := some 145) (v := ?_) (a' := ?_) #[true, true, true, true, true, true, true, true, true, true, true, true, true, true, true, true, true, true, false] rfl rfl (any_of HT_.out (by kernel_rfl)) (fun _ _ _ h => h) (Or.inl ⟨by rfl, ?_⟩) ?_ ?_
                                  rotate_left
                                  ·intro w'
                                   go_simp
                                   with_reducible rfl
                                  rotate_left
                                  ·simp only [Act.put, List.setIfInBounds_toArray, List.set_cons_zero, List.set_cons_succ, i64_w, i32_w]
                                   rfl
                                  refine last_ (i := 18) (N := none) #[true, true, true, true, true, true, true, true, true, true, true, true, true, true, true, true, true, true, true] rfl rfl (one_of HT_.out (by kernel_rfl)) (by decide) (fun K hK => ?_)
                                  refine skip_ (w1 := ?_) (by rfl) rfl ?_ ?_
                                  rotate_left
                                  ·go_simp
                                   rfl
                                  refine hK.out _ _ ?_
                                  clear hK K
                                  refine done_ (done_of HT_.out (by kernel_rfl)) ?_
                                  try go_wp2
                                  (try simp only [← hl0_5])
                                  go_roundg k5
                                  case measure => have := HK1.out; have := HJ7.out; have := HJ22.out; have := HK4.out; have := HK5.out; omega
                                  case rel => exact ⟨(y238), (wrap64 (x125_5 + 1)), (by first | rfl | (simp; done) | (simp [*]; done)), H', ⟨by have := HK1.out; have := HJ7.out; have := HJ22.out; have := HK4.out; have := HK5.out; omega⟩, ⟨by (try simp only [hl0_1]); (try simp only [hl0_7]); (try simp only [hl0_22]); (try simp only [hl0_4]); (try simp only [hl0_5]); (with_reducible repeat (first | apply Kd.S_alloc | apply Kd.S_drewN | apply Kd.S_drew)); exact HQ53.out⟩, ⟨by repeat (first | (with_reducible first | exact HK.out | apply Kept.alloc | apply Kept.drewN | apply Kept.drew | refine Kept.setCell ?_ HMgo51.out _) | exact HK.out)⟩, ⟨by repeat (first | (with_reducible first | exact HB.out | apply below_alloc | apply pw_below_drewN | apply below_drew1 | refine below_set ?_ GB51.out) | exact HB.out)⟩⟩
                                 ·rw [if_neg c49] at H
                                  exact absurd H (by simp)
                                ·rw [if_neg c48] at H
                                 exact absurd H (by simp)
                               ·rw [if_neg c47] at H
                                exact absurd H (by simp)
                              ·rw [if_neg c46] at H
                               exact absurd H (by simp)
                             ·rw [if_neg c45] at H
                              exact absurd H (by simp)
                            ·rw [if_neg c44] at H
                             exact absurd H (by simp)
                           ·rw [if_neg c43] at H
                            exact absurd H (by simp)
                          ·rw [if_neg c42] at H
                           have c42b0 : decide (x125_5 < ((rd_L1 l0 0).length : Int)) = false := decide_eq_false c42
                           (try (have c42b0hl0_1 := c42b0; rw [hl0_1] at c42b0hl0_1))
                           (try (have c42b0hl0_7 := c42b0; simp only [hl0_1, hl0_7] at c42b0hl0_7))
                           (try (have c42b0hl0_22 := c42b0; simp only [hl0_1, hl0_7, hl0_22] at c42b0hl0_22))
                           (try (have c42b0hl0_4 := c42b0; simp only [hl0_1, hl0_7, hl0_22, hl0_4] at c42b0hl0_4))
                           (try (have c42b0hl0_5 := c42b0; simp only [hl0_1, hl0_7, hl0_22, hl0_4, hl0_5] at c42b0hl0_5))
                           clear c42
                           have H' := Aside0.mk H
                           clear H
                           go_wp2
                           (try simp only [← hl0_4, ← hl0_5])
                           go_roundg k5
                           case measure => have := HK1.out; have := HJ7.out; have := HJ22.out; have := HK4.out; have := HK5.out; omega
                           case rel => exact ⟨(x0_5), (wrap64 (x10_4 + 1)), (by first | rfl | (simp; done) | (simp [*]; done)), H', ⟨by have := HK1.out; have := HJ7.out; have := HJ22.out; have := HK4.out; have := HK5.out; omega⟩, ⟨by (try simp only [hl0_1]); (try simp only [hl0_7]); (try simp only [hl0_22]); (try simp only [hl0_4]); (try simp only [hl0_5]); (with_reducible repeat (first | apply Kd.S_alloc | apply Kd.S_drewN | apply Kd.S_drew)); exact HO_0.out⟩, ⟨by repeat (first | (with_reducible first | exact HK.out | apply Kept.alloc | apply Kept.drewN | apply Kept.drew) | exact HK.out)⟩, ⟨bB⟩⟩
                      ·rw [if_neg c40] at H
                       exact absurd H (by simp)
                     ·rw [if_neg c39] at H
                      exact absurd H (by simp)
                    ·rw [if_neg c38] at H
                     exact absurd H (by simp)
                   ·rw [if_neg c37] at H
                    exact absurd H (by simp)
                  ·rw [if_neg c36] at H
                   have c36b0 : decide (x10_4 < (l0.length : Int)) = false := decide_eq_false c36
                   (try (have c36b0hl0_1 := c36b0; rw [hl0_1] at c36b0hl0_1))
                   (try (have c36b0hl0_7 := c36b0; simp only [hl0_1, hl0_7] at c36b0hl0_7))
                   (try (have c36b0hl0_22 := c36b0; simp only [hl0_1, hl0_7, hl0_22] at c36b0hl0_22))
                   (try (have c36b0hl0_4 := c36b0; simp only [hl0_1, hl0_7, hl0_22, hl0_4] at c36b0hl0_4))
                   clear c36
                   have H' := Aside0.mk H
                   clear H
                   go_wp2
                   (try simp only [← hl0_1, ← hl0_7, ← hl0_22, ← hl0_4])
                   go_roundg k4
                   case measure => have := HK1.out; have := HJ7.out; have := HJ22.out; have := HK4.out; omega
                   case rel => exact ⟨(x0_4), (wrap64 (x24_1 + 1)), (by first | rfl | (simp; done) | (simp [*]; done)), H', ⟨by have := HK1.out; have := HJ7.out; have := HJ22.out; have := HK4.out; omega⟩, ⟨by (try simp only [hl0_1]); (try simp only [hl0_7]); (try simp only [hl0_22]); (try simp only [hl0_4]); (with_reducible repeat (first | apply Kd.S_alloc | apply Kd.S_drewN | apply Kd.S_drew)); exact HO_0.out⟩, ⟨by repeat (first | (with_reducible first | exact HK.out | apply Kept.alloc | apply Kept.drewN | apply Kept.drew) | exact HK.out)⟩, ⟨bB⟩⟩
            ·rw [if_neg c21] at H
             exact absurd H (by simp)
           ·rw [if_neg c20] at H
            exact absurd H (by simp)
          ·rw [if_neg c19] at H
           exact absurd H (by simp)
       ·rw [if_neg c7] at H
        exact absurd H (by simp)
      ·rw [if_neg c6] at H
       exact absurd H (by simp)
     ·rw [if_neg c5] at H
      exact absurd H (by simp)
    ·rw [if_neg c4] at H
     have c4b0 : decide (x24_1 < (l0.length : Int)) = false := decide_eq_false c4
     (try (have c4b0hl0_1 := c4b0; rw [hl0_1] at c4b0hl0_1))
     clear c4
     have H' := Aside0.mk H
     clear H
     go_wp2
     go_loopg [149] k1 (fun kq v149 w' => ∃ (x0_2 : List (List Int)) (x149_2 : Int), v149 = .int .i64 x149_2 ∧ Aside0 (reedsolomon_matrix_gaussianElimination.l5 kq x0_2 ((rd_L1 l0 0).length : Int) (l0.length : Int) x149_2 = some (r1, r2)) ∧ Aside0 (kq ≤ k1) ∧ Aside0 (Kd.S (Kd.slice 5 (Kd.int .u8)) 22 w' w0.heap.size (fun k_ => (P0_ k_ ∨ w.heap.size ≤ k_)) (.slice (some ad205) x0_1.length co3) x0_2) ∧ Aside0 (Kept w w' (fun k_ => P0_ k_)) ∧ Aside0 (Below w0.heap.size w0 w'))
     case atStart => exact ⟨(x0_1), (0), (by first | rfl | (simp; done) | (simp [*]; done)), H', ⟨Nat.le_refl _⟩, ⟨by (try simp only [hl0_1]); (with_reducible repeat (first | apply Kd.S_alloc | apply Kd.S_drewN | apply Kd.S_drew)); exact HO_0.out⟩, ⟨by repeat (first | (with_reducible first | exact HK.out | apply Kept.alloc | apply Kept.drewN | apply Kept.drew) | exact HK.out)⟩, ⟨bB⟩⟩
     case round =>
      clear H'
      try clear c1
      try clear c2
      try clear c2b0
      try clear c2b1
      try clear p2
      try clear q2
      try clear hx2
      try clear qi2
      try clear c3
      try clear p3
      try clear q3
      try clear hx3
      try clear hf3
      try clear c4
      try clear c4b0
      try clear c5
      try clear c5b0
      try clear p5
      try clear q5
      try clear hx5
      try clear hf5
      try clear c6
      try clear c6b0
      try clear p6
      try clear c7
      try clear c7b0
      try clear c9
      try clear c9b0
      try clear c9b1
      try clear c10
      try clear c10b0
      try clear c11
      try clear c11b0
      try clear c12
      try clear c12b0
      try clear c13
      try clear c13b0
      try clear c14
      try clear c14b0
      try clear c15
      try clear c15b0
      try clear c15b1
      try clear c19
      try clear c19b0
      try clear c20
      try clear c20b0
      try clear p20
      try clear q20
      try clear hx20
      try clear qi20
      try clear c21
      try clear c21b0
      try clear p21
      try clear q21
      try clear hx21
      try clear c22
      try clear c22b0
      try clear c22b1
      try clear p22
      try clear q22
      try clear hx22
      try clear c23
      try clear p23
      try clear q23
      try clear hx23
      try clear c24
      try clear c24b0
      try clear c24b1
      try clear c26
      try clear c26b0
      try clear c27
      try clear c27b0
      try clear c28
      try clear c28b0
      try clear c29
      try clear c29b0
      try clear c30
      try clear c30b0
      try clear p32
      try clear q32
      try clear hx32
      try clear hf32
      try clear c34
      try clear q34
      try clear c36
      try clear c36b0
      try clear c37
      try clear c37b0
      try clear c38
      try clear c38b0
      try clear c39
      try clear c39b0
      try clear c40
      try clear c40b0
      try clear c41
      try clear c41b0
      try clear c41b1
      try clear c42
      try clear c42b0
      try clear c43
      try clear c43b0
      try clear c44
      try clear c44b0
      try clear c45
      try clear c45b0
      try clear c46
      try clear c46b0
      try clear c47
      try clear c47b0
      try clear c48
      try clear c48b0
      try clear c49
      try clear c49b0
      try clear p51
      try clear q51
      try clear hx51
      try clear hf51
      try clear c53
      try clear q53
      try clear hx205_0
      try clear hx206_0
      try clear hx207_0
      try clear hx208_0
      try clear hx209_0
      try clear hx213_0
      try clear hx214_0
      try clear hx215_0
      try clear hx216_0
      try clear hx217_0
      try clear hx218_0
      try clear hx220_0
      try clear hx221_0
      try clear hx222_0
      try clear hx227_0
      try clear hx228_0
      try clear hx229_0
      try clear hx230_0
      try clear hx231_0
      try clear hx232_0
      try clear hx233_0
      try clear hx234_0
      try clear hx32_0
      try clear hx51_0
      try clear p2
      try clear p20
      try clear p205
      try clear p206
      try clear p207
      try clear p208
      try clear p209
      try clear p21
      try clear p213
      try clear p214
      try clear p215
      try clear p216
      try clear p217
      try clear p218
      try clear p22
      try clear p220
      try clear p221
      try clear p222
      try clear p227
      try clear p228
      try clear p229
      try clear p23
      try clear p230
      try clear p231
      try clear p232
      try clear p233
      try clear p234
      try clear p3
      try clear p32
      try clear p51
      try clear p6
      try clear q2
      try clear q20
      try clear q205
      try clear q206
      try clear q207
      try clear q208
      try clear q209
      try clear q21
      try clear q212
      try clear q213
      try clear q214
      try clear q215
      try clear q216
      try clear q217
      try clear q218
      try clear q22
      try clear q220
      try clear q221
      try clear q222
      try clear q227
      try clear q228
      try clear q229
      try clear q23
      try clear q230
      try clear q231
      try clear q232
      try clear q233
      try clear q234
      try clear q3
      try clear q32
      try clear q34
      try clear q51
      obtain ⟨x0_2, x149_2, rfl, HA, HK2, HO_0, HK, HB⟩ := hrel
      have hl0_2 := (Kd.S_reads' HO_0.out).1
      rw [hl0_2] at HO_0
      (try simp only [hl0_2])
      cases gk with
      | zero => exact absurd HA.out (by simp [reedsolomon_matrix_gaussianElimination.l5])
      | succ k2 =>
       have H := HA.out
       clear HA
       simp only [reedsolomon_matrix_gaussianElimination.l5] at H
       by_cases c55 : x149_2 < (l0.length : Int)
       ·rw [if_pos c55] at H
        have c55b0 : decide (x149_2 < (l0.length : Int)) = true := decide_eq_true c55
        (try (have c55b0hl0_1 := c55b0; rw [hl0_1] at c55b0hl0_1))
        (try (have c55b0hl0_2 := c55b0; simp only [hl0_1, hl0_2] at c55b0hl0_2))
        clear c55
        have H' := Aside0.mk H
        clear H
        go_wp2
        go_loopg [153] k2 (fun kq v153 w' => ∃ (x0_3 : List (List Int)) (x153_3 : Int), v153 = .int .i64 x153_3 ∧ Aside0 (reedsolomon_matrix_gaussianElimination.l6 kq x0_3 ((rd_L1 l0 0).length : Int) x149_2 (l0.length : Int) x149_2 x149_2 x153_3 = some (r1, r2)) ∧ Aside0 (kq ≤ k2) ∧ Aside0 (Kd.S (Kd.slice 5 (Kd.int .u8)) 22 w' w0.heap.size (fun k_ => (P0_ k_ ∨ w.heap.size ≤ k_)) (.slice (some ad205) x0_2.length co3) x0_3) ∧ Aside0 (Kept w w' (fun k_ => P0_ k_)) ∧ Aside0 (Below w0.heap.size w0 w'))
        case atStart => exact ⟨(x0_2), (0), (by first | rfl | (simp; done) | (simp [*]; done)), H', ⟨Nat.le_refl _⟩, ⟨by (try simp only [hl0_1]); (try simp only [hl0_2]); (with_reducible repeat (first | apply Kd.S_alloc | apply Kd.S_drewN | apply Kd.S_drew)); exact HO_0.out⟩, ⟨by repeat (first | (with_reducible first | exact HK.out | apply Kept.alloc | apply Kept.drewN | apply Kept.drew) | exact HK.out)⟩, ⟨bB⟩⟩
        case round =>
         clear H'
         try clear c1
         try clear c2
         try clear c2b0
         try clear c2b1
         try clear p2
         try clear q2
         try clear hx2
         try clear qi2
         try clear c3
         try clear p3
         try clear q3
         try clear hx3
         try clear hf3
         try clear c4
         try clear c4b0
         try clear c5
         try clear c5b0
         try clear p5
         try clear q5
         try clear hx5
         try clear hf5
         try clear c6
         try clear c6b0
         try clear p6
         try clear c7
         try clear c7b0
         try clear c9
         try clear c9b0
         try clear c9b1
         try clear c10
         try clear c10b0
         try clear c11
         try clear c11b0
         try clear c12
         try clear c12b0
         try clear c13
         try clear c13b0
         try clear c14
         try clear c14b0
         try clear c15
         try clear c15b0
         try clear c15b1
         try clear c19
         try clear c19b0
         try clear c20
         try clear c20b0
         try clear p20
         try clear q20
         try clear hx20
         try clear qi20
         try clear c21
         try clear c21b0
         try clear p21
         try clear q21
         try clear hx21
         try clear c22
         try clear c22b0
         try clear c22b1
         try clear p22
         try clear q22
         try clear hx22
         try clear c23
         try clear p23
         try clear q23
         try clear hx23
         try clear c24
         try clear c24b0
         try clear c24b1
         try clear c26
         try clear c26b0
         try clear c27
         try clear c27b0
         try clear c28
         try clear c28b0
         try clear c29
         try clear c29b0
         try clear c30
         try clear c30b0
         try clear p32
         try clear q32
         try clear hx32
         try clear hf32
         try clear c34
         try clear q34
         try clear c36
         try clear c36b0
         try clear c37
         try clear c37b0
         try clear c38
         try clear c38b0
         try clear c39
         try clear c39b0
         try clear c40
         try clear c40b0
         try clear c41
         try clear c41b0
         try clear c41b1
         try clear c42
         try clear c42b0
         try clear c43
         try clear c43b0
         try clear c44
         try clear c44b0
         try clear c45
         try clear c45b0
         try clear c46
         try clear c46b0
         try clear c47
         try clear c47b0
         try clear c48
         try clear c48b0
         try clear c49
         try clear c49b0
         try clear p51
         try clear q51
         try clear hx51
         try clear hf51
         try clear c53
         try clear q53
         try clear c55
         try clear c55b0
         try clear hx205_0
         try clear hx206_0
         try clear hx207_0
         try clear hx208_0
         try clear hx209_0
         try clear hx213_0
         try clear hx214_0
         try clear hx215_0
         try clear hx216_0
         try clear hx217_0
         try clear hx218_0
         try clear hx220_0
         try clear hx221_0
         try clear hx222_0
         try clear hx227_0
         try clear hx228_0
         try clear hx229_0
         try clear hx230_0
         try clear hx231_0
         try clear hx232_0
         try clear hx233_0
         try clear hx234_0
         try clear hx32_0
         try clear hx51_0
         try clear p2
         try clear p20
         try clear p205
         try clear p206
         try clear p207
         try clear p208
         try clear p209
         try clear p21
         try clear p213
         try clear p214
         try clear p215
         try clear p216
         try clear p217
         try clear p218
         try clear p22
         try clear p220
         try clear p221
         try clear p222
         try clear p227
         try clear p228
         try clear p229
         try clear p23
         try clear p230
         try clear p231
         try clear p232
         try clear p233
         try clear p234
         try clear p3
         try clear p32
         try clear p5
         try clear p51
         try clear p6
         try clear q2
         try clear q20
         try clear q205
         try clear q206
         try clear q207
         try clear q208
         try clear q209
         try clear q21
         try clear q212
         try clear q213
         try clear q214
         try clear q215
         try clear q216
         try clear q217
         try clear q218
         try clear q22
         try clear q220
         try clear q221
         try clear q222
         try clear q227
         try clear q228
         try clear q229
         try clear q23
         try clear q230
         try clear q231
         try clear q232
         try clear q233
         try clear q234
         try clear q3
         try clear q32
         try clear q34
         try clear q5
         try clear q51
         try clear q53
         obtain ⟨x0_3, x153_3, rfl, HA, HK3, HO_0, HK, HB⟩ := hrel
         have hl0_3 := (Kd.S_reads' HO_0.out).1
         rw [hl0_3] at HO_0
         (try simp only [hl0_3])
         cases gk with
         | zero => exact absurd HA.out (by simp [reedsolomon_matrix_gaussianElimination.l6])
         | succ k3 =>
          have H := HA.out
          clear HA
          simp only [reedsolomon_matrix_gaussianElimination.l6] at H
          by_cases c56 : x153_3 < x149_2
          ·rw [if_pos c56] at H
           have c56b0 : decide (x153_3 < x149_2) = true := decide_eq_true c56
           clear c56
           by_cases c57 : 0 ≤ x153_3
           ·rw [if_pos c57] at H
            have c57b0 : decide (0 ≤ x153_3) = true := decide_eq_true c57
            clear c57
            by_cases c58 : x153_3 < (x0_3.length : Int)
            ·rw [if_pos c58] at H
             have c58b0 : decide (x153_3 < (x0_3.length : Int)) = true := decide_eq_true c58
             (try (have c58b0hl0_1 := c58b0; rw [hl0_1] at c58b0hl0_1))
             (try (have c58b0hl0_2 := c58b0; simp only [hl0_1, hl0_2] at c58b0hl0_2))
             (try (have c58b0hl0_3 := c58b0; simp only [hl0_1, hl0_2, hl0_3] at c58b0hl0_3))
             clear c58
             by_cases c59 : 0 ≤ x149_2
             ·rw [if_pos c59] at H
              have c59b0 : decide (0 ≤ x149_2) = true := decide_eq_true c59
              clear c59
              by_cases c60 : x149_2 < ((rd_L1 x0_3 x153_3).length : Int)
              ·rw [if_pos c60] at H
               have c60b0 : decide (x149_2 < ((rd_L1 x0_3 x153_3).length : Int)) = true := decide_eq_true c60
               (try (have c60b0hl0_1 := c60b0; rw [hl0_1] at c60b0hl0_1))
               (try (have c60b0hl0_2 := c60b0; simp only [hl0_1, hl0_2] at c60b0hl0_2))
               (try (have c60b0hl0_3 := c60b0; simp only [hl0_1, hl0_2, hl0_3] at c60b0hl0_3))
               clear c60
               by_cases c61 : (rd (rd_L1 x0_3 x153_3) x149_2) = 0
               ·rw [if_pos c61] at H
                have c61b0 : ((rd (rd_L1 x0_3 x153_3) x149_2) == 0) = true := beq_iff_eq.mpr c61
                have c61b1 : ((rd (rd_L1 x0_3 x153_3) x149_2) != 0) = false := bne_eq_false_iff_eq.mpr c61
                clear c61
                have H' := Aside0.mk H
                clear H
                have p239 : 0 ≤ (x153_3 : Int) := dA
                have q239 : x153_3 < (x0_3.length : Int) := dA
                obtain ⟨ad239, A239_0, c239_0, e239, hx239_0, hl239_0, hi239_0⟩ := at_L1 (Kd.S_reads' HO_0.out).2.2 x153_3 p239 q239
                obtain rfl : ad205 = ad239 := (by injection e239)
                obtain ⟨ce239, hce239, hMe239, hcc239⟩ := Kd.S_get HO_0.out [] x153_3 p239 (by first | exact q239 | exact dA | (have e_ := (Kd.S_reads' HO_0.out).1; omega))
                obtain ⟨ve239_0, rfl, ge239_0⟩ := hMe239
                have hv239_0 := hcc239 0 _ rfl
                rw [Nat.add_zero, show ((Kd.slice 5 (Kd.int .u8))).sz = 1 from rfl, Nat.mul_one] at hv239_0
                replace hv239_0 := Option.some.inj (hv239_0.symm.trans hx239_0)
                rw [hv239_0] at ge239_0
                have HL239_0 := Aside0.mk (show Kd.R (Kd.int .u8) 5 _ _ _ _ (rd_L1 x0_3 x153_3) from ge239_0)
                clear hv239_0 ge239_0
                have HX239_0 := Aside0.mk hx239_0
                clear hcc239 hce239
                have HR239_0 := Aside0.mk hi239_0
                have HC239_0 := Aside0.mk hl239_0
                clear hi239_0 hl239_0
                replace p239 := eq_true p239
                replace q239 := eq_true q239
                have p240 : 0 ≤ (x149_2 : Int) := dA
                have q240 : x149_2 < ((rd_L1 x0_3 x153_3).length : Int) := dA
                obtain ⟨ad240, e240, hx240_0⟩ := Kd.at_int (by repeat (first | (with_reducible exact HR239_0.out) | (with_reducible refine Kd.C_alloc ?_ _) | (with_reducible refine Kd.C_drewN ?_ _) | (with_reducible refine Kd.C_drew ?_) | exact HR239_0.out)) x149_2 p240 q240
                cases e240
                replace p240 := eq_true p240
                replace q240 := eq_true q240
                go_wp2
                (try simp only [← hl0_3])
                go_roundg k3
                case measure => have := HK1.out; have := HK2.out; have := HK3.out; omega
                case rel => exact ⟨(x0_3), (wrap64 (x153_3 + 1)), (by first | rfl | (simp; done) | (simp [*]; done)), H', ⟨by have := HK1.out; have := HK2.out; have := HK3.out; omega⟩, ⟨by (try simp only [hl0_1]); (try simp only [hl0_2]); (try simp only [hl0_3]); (with_reducible repeat (first | apply Kd.S_alloc | apply Kd.S_drewN | apply Kd.S_drew)); exact HO_0.out⟩, ⟨by repeat (first | (with_reducible first | exact HK.out | apply Kept.alloc | apply Kept.drewN | apply Kept.drew) | exact HK.out)⟩, ⟨bB⟩⟩
               ·rw [if_neg c61] at H
                have c61b0 : ((rd (rd_L1 x0_3 x153_3) x149_2) == 0) = false := beq_eq_false_iff_ne.mpr c61
                have c61b1 : ((rd (rd_L1 x0_3 x153_3) x149_2) != 0) = true := bne_iff_ne.mpr c61
                have H' := Aside0.mk H
                clear H
                have p239 : 0 ≤ (x153_3 : Int) := dA
                have q239 : x153_3 < (x0_3.length : Int) := dA
                obtain ⟨ad239, A239_0, c239_0, e239, hx239_0, hl239_0, hi239_0⟩ := at_L1 (Kd.S_reads' HO_0.out).2.2 x153_3 p239 q239
                obtain rfl : ad205 = ad239 := (by injection e239)
                obtain ⟨ce239, hce239, hMe239, hcc239⟩ := Kd.S_get HO_0.out [] x153_3 p239 (by first | exact q239 | exact dA | (have e_ := (Kd.S_reads' HO_0.out).1; omega))
                obtain ⟨ve239_0, rfl, ge239_0⟩ := hMe239
                have hv239_0 := hcc239 0 _ rfl
                rw [Nat.add_zero, show ((Kd.slice 5 (Kd.int .u8))).sz = 1 from rfl, Nat.mul_one] at hv239_0
                replace hv239_0 := Option.some.inj (hv239_0.symm.trans hx239_0)
                rw [hv239_0] at ge239_0
                have HL239_0 := Aside0.mk (show Kd.R (Kd.int .u8) 5 _ _ _ _ (rd_L1 x0_3 x153_3) from ge239_0)
                clear hv239_0 ge239_0
                have HX239_0 := Aside0.mk hx239_0
                clear hcc239 hce239
                have HR239_0 := Aside0.mk hi239_0
                have HC239_0 := Aside0.mk hl239_0
                clear hi239_0 hl239_0
                replace p239 := eq_true p239
                replace q239 := eq_true q239
                have p240 : 0 ≤ (x149_2 : Int) := dA
                have q240 : x149_2 < ((rd_L1 x0_3 x153_3).length : Int) := dA
                obtain ⟨ad240, e240, hx240_0⟩ := Kd.at_int (by repeat (first | (with_reducible exact HR239_0.out) | (with_reducible refine Kd.C_alloc ?_ _) | (with_reducible refine Kd.C_drewN ?_ _) | (with_reducible refine Kd.C_drew ?_) | exact HR239_0.out)) x149_2 p240 q240
                cases e240
                replace p240 := eq_true p240
                replace q240 := eq_true q240
                have p241 : 0 ≤ (x153_3 : Int) := dA
                have q241 : x153_3 < (x0_3.length : Int) := dA
                obtain ⟨ad241, A241_0, c241_0, e241, hx241_0, hl241_0, hi241_0⟩ := at_L1 (Kd.S_reads' HO_0.out).2.2 x153_3 p241 q241
                obtain rfl : ad205 = ad241 := (by injection e241)
                obtain ⟨ce241, hce241, hMe241, hcc241⟩ := Kd.S_get HO_0.out [] x153_3 p241 (by first | exact q241 | exact dA | (have e_ := (Kd.S_reads' HO_0.out).1; omega))
                obtain ⟨ve241_0, rfl, ge241_0⟩ := hMe241
                have hv241_0 := hcc241 0 _ rfl
                rw [Nat.add_zero, show ((Kd.slice 5 (Kd.int .u8))).sz = 1 from rfl, Nat.mul_one] at hv241_0
                replace hv241_0 := Option.some.inj (hv241_0.symm.trans hx241_0)
                rw [hv241_0] at ge241_0
                have HL241_0 := Aside0.mk (show Kd.R (Kd.int .u8) 5 _ _ _ _ (rd_L1 x0_3 x153_3) from ge241_0)
                clear hv241_0 ge241_0
                have HX241_0 := Aside0.mk hx241_0
                clear hcc241 hce241
                have HR241_0 := Aside0.mk hi241_0
                have HC241_0 := Aside0.mk hl241_0
                clear hi241_0 hl241_0
                replace p241 := eq_true p241
                replace q241 := eq_true q241
                have ea_ := Option.some.inj (hx239_0.symm.trans hx241_0)
                injection ea_ with ea_ en_ ec_
                subst ea_
                subst ec_
                clear en_
                have p242 : 0 ≤ (x149_2 : Int) := dA
                have q242 : x149_2 < ((rd_L1 x0_3 x153_3).length : Int) := dA
                obtain ⟨ad242, e242, hx242_0⟩ := Kd.at_int (by repeat (first | (with_reducible exact HR241_0.out) | (with_reducible refine Kd.C_alloc ?_ _) | (with_reducible refine Kd.C_drewN ?_ _) | (with_reducible refine Kd.C_drew ?_) | exact HR241_0.out)) x149_2 p242 q242
                cases e242
                replace p242 := eq_true p242
                replace q242 := eq_true q242
                go_wp2
                go_loopg [172] k3 (fun kq v172 w' => ∃ (x0_4 : List (List Int)) (x172_4 : Int), v172 = .int .i64 x172_4 ∧ Aside0 (reedsolomon_matrix_gaussianElimination.l7 kq x0_4 ((rd_L1 l0 0).length : Int) x149_2 x153_3 (rd (rd_L1 x0_3 x153_3) x149_2) (l0.length : Int) x149_2 x149_2 x153_3 ((rd_L1 l0 0).length : Int) x172_4 = some (r1, r2)) ∧ Aside0 (kq ≤ k3) ∧ Aside0 (Kd.S (Kd.slice 5 (Kd.int .u8)) 22 w' w0.heap.size (fun k_ => (P0_ k_ ∨ w.heap.size ≤ k_)) (.slice (some ad205) x0_3.length co3) x0_4) ∧ Aside0 (Kept w w' (fun k_ => P0_ k_)) ∧ Aside0 (Below w0.heap.size w0 w'))
                case atStart => exact ⟨(x0_3), (0), (by first | rfl | (simp; done) | (simp [*]; done)), H', ⟨Nat.le_refl _⟩, ⟨by (try simp only [hl0_1]); (try simp only [hl0_2]); (try simp only [hl0_3]); (with_reducible repeat (first | apply Kd.S_alloc | apply Kd.S_drewN | apply Kd.S_drew)); exact HO_0.out⟩, ⟨by repeat (first | (with_reducible first | exact HK.out | apply Kept.alloc | apply Kept.drewN | apply Kept.drew) | exact HK.out)⟩, ⟨bB⟩⟩
                case round =>
                 clear H'
                 try clear c1
                 try clear c2
                 try clear c2b0
                 try clear c2b1
                 try clear p2
                 try clear q2
                 try clear hx2
                 try clear qi2
                 try clear c3
                 try clear p3
                 try clear q3
                 try clear hx3
                 try clear hf3
                 try clear c4
                 try clear c4b0
                 try clear c5
                 try clear c5b0
                 try clear p5
                 try clear q5
                 try clear hx5
                 try clear hf5
                 try clear c6
                 try clear c6b0
                 try clear p6
                 try clear c7
                 try clear c7b0
                 try clear c9
                 try clear c9b0
                 try clear c9b1
                 try clear c10
                 try clear c10b0
                 try clear c11
                 try clear c11b0
                 try clear c12
                 try clear c12b0
                 try clear c13
                 try clear c13b0
                 try clear c14
                 try clear c14b0
                 try clear c15
                 try clear c15b0
                 try clear c15b1
                 try clear c19
                 try clear c19b0
                 try clear c20
                 try clear c20b0
                 try clear p20
                 try clear q20
                 try clear hx20
                 try clear qi20
                 try clear c21
                 try clear c21b0
                 try clear p21
                 try clear q21
                 try clear hx21
                 try clear c22
                 try clear c22b0
                 try clear c22b1
                 try clear p22
                 try clear q22
                 try clear hx22
                 try clear c23
                 try clear p23
                 try clear q23
                 try clear hx23
                 try clear c24
                 try clear c24b0
                 try clear c24b1
                 try clear p24
                 try clear q24
                 try clear hx24
                 try clear c26
                 try clear c26b0
                 try clear c27
                 try clear c27b0
                 try clear c28
                 try clear c28b0
                 try clear c29
                 try clear c29b0
                 try clear c30
                 try clear c30b0
                 try clear p32
                 try clear q32
                 try clear hx32
                 try clear hf32
                 try clear c34
                 try clear q34
                 try clear c36
                 try clear c36b0
                 try clear c37
                 try clear c37b0
                 try clear c38
                 try clear c38b0
                 try clear c39
                 try clear c39b0
                 try clear c40
                 try clear c40b0
                 try clear c41
                 try clear c41b0
                 try clear c41b1
                 try clear c42
                 try clear c42b0
                 try clear c43
                 try clear c43b0
                 try clear c44
                 try clear c44b0
                 try clear c45
                 try clear c45b0
                 try clear c46
                 try clear c46b0
                 try clear c47
                 try clear c47b0
                 try clear c48
                 try clear c48b0
                 try clear c49
                 try clear c49b0
                 try clear p51
                 try clear q51
                 try clear hx51
                 try clear hf51
                 try clear c53
                 try clear q53
                 try clear c55
                 try clear c55b0
                 try clear c56
                 try clear c56b0
                 try clear c57
                 try clear c57b0
                 try clear c58
                 try clear c58b0
                 try clear c59
                 try clear c59b0
                 try clear c60
                 try clear c60b0
                 try clear c61
                 try clear c61b0
                 try clear c61b1
                 try clear hx205_0
                 try clear hx206_0
                 try clear hx207_0
                 try clear hx208_0
                 try clear hx209_0
                 try clear hx213_0
                 try clear hx214_0
                 try clear hx215_0
                 try clear hx216_0
                 try clear hx217_0
                 try clear hx218_0
                 try clear hx220_0
                 try clear hx221_0
                 try clear hx222_0
                 try clear hx227_0
                 try clear hx228_0
                 try clear hx229_0
                 try clear hx230_0
                 try clear hx231_0
                 try clear hx232_0
                 try clear hx233_0
                 try clear hx234_0
                 try clear hx239_0
                 try clear hx240_0
                 try clear hx241_0
                 try clear hx242_0
                 try clear hx32_0
                 try clear hx51_0
                 try clear p2
                 try clear p20
                 try clear p205
                 try clear p206
                 try clear p207
                 try clear p208
                 try clear p209
                 try clear p21
                 try clear p213
                 try clear p214
                 try clear p215
                 try clear p216
                 try clear p217
                 try clear p218
                 try clear p22
                 try clear p220
                 try clear p221
                 try clear p222
                 try clear p227
                 try clear p228
                 try clear p229
                 try clear p23
                 try clear p230
                 try clear p231
                 try clear p232
                 try clear p233
                 try clear p234
                 try clear p239
                 try clear p240
                 try clear p241
                 try clear p242
                 try clear p3
                 try clear p32
                 try clear p5
                 try clear p51
                 try clear p6
                 try clear q2
                 try clear q20
                 try clear q205
                 try clear q206
                 try clear q207
                 try clear q208
                 try clear q209
                 try clear q21
                 try clear q212
                 try clear q213
                 try clear q214
                 try clear q215
                 try clear q216
                 try clear q217
                 try clear q218
                 try clear q22
                 try clear q220
                 try clear q221
                 try clear q222
                 try clear q227
                 try clear q228
                 try clear q229
                 try clear q23
                 try clear q230
                 try clear q231
                 try clear q232
                 try clear q233
                 try clear q234
                 try clear q239
                 try clear q240
                 try clear q241
                 try clear q242
                 try clear q3
                 try clear q32
                 try clear q34
                 try clear q5
                 try clear q51
                 try clear q53
                 obtain ⟨x0_4, x172_4, rfl, HA, HK4, HO_0, HK, HB⟩ := hrel
                 have hl0_4 := (Kd.S_reads' HO_0.out).1
                 rw [hl0_4] at HO_0
                 (try simp only [hl0_4])
                 cases gk with
                 | zero => exact absurd HA.out (by simp [reedsolomon_matrix_gaussianElimination.l7])
                 | succ k4 =>
                  have H := HA.out
                  clear HA
                  simp only [reedsolomon_matrix_gaussianElimination.l7] at H
                  by_cases c62 : x172_4 < ((rd_L1 l0 0).length : Int)
                  ·rw [if_pos c62] at H
                   have c62b0 : decide (x172_4 < ((rd_L1 l0 0).length : Int)) = true := decide_eq_true c62
                   (try (have c62b0hl0_1 := c62b0; rw [hl0_1] at c62b0hl0_1))
                   (try (have c62b0hl0_2 := c62b0; simp only [hl0_1, hl0_2] at c62b0hl0_2))
                   (try (have c62b0hl0_3 := c62b0; simp only [hl0_1, hl0_2, hl0_3] at c62b0hl0_3))
                   (try (have c62b0hl0_4 := c62b0; simp only [hl0_1, hl0_2, hl0_3, hl0_4] at c62b0hl0_4))
                   clear c62
                   by_cases c63 : 0 ≤ x153_3
                   ·rw [if_pos c63] at H
                    have c63b0 : decide (0 ≤ x153_3) = true := decide_eq_true c63
                    clear c63
                    by_cases c64 : x153_3 < (x0_4.length : Int)
                    ·rw [if_pos c64] at H
                     have c64b0 : decide (x153_3 < (x0_4.length : Int)) = true := decide_eq_true c64
                     (try (have c64b0hl0_1 := c64b0; rw [hl0_1] at c64b0hl0_1))
                     (try (have c64b0hl0_2 := c64b0; simp only [hl0_1, hl0_2] at c64b0hl0_2))
                     (try (have c64b0hl0_3 := c64b0; simp only [hl0_1, hl0_2, hl0_3] at c64b0hl0_3))
                     (try (have c64b0hl0_4 := c64b0; simp only [hl0_1, hl0_2, hl0_3, hl0_4] at c64b0hl0_4))
                     clear c64
                     by_cases c65 : 0 ≤ x172_4
                     ·rw [if_pos c65] at H
                      have c65b0 : decide (0 ≤ x172_4) = true := decide_eq_true c65
                      clear c65
                      by_cases c66 : x172_4 < ((rd_L1 x0_4 x153_3).length : Int)
                      ·rw [if_pos c66] at H
                       have c66b0 : decide (x172_4 < ((rd_L1 x0_4 x153_3).length : Int)) = true := decide_eq_true c66
                       (try (have c66b0hl0_1 := c66b0; rw [hl0_1] at c66b0hl0_1))
                       (try (have c66b0hl0_2 := c66b0; simp only [hl0_1, hl0_2] at c66b0hl0_2))
                       (try (have c66b0hl0_3 := c66b0; simp only [hl0_1, hl0_2, hl0_3] at c66b0hl0_3))
                       (try (have c66b0hl0_4 := c66b0; simp only [hl0_1, hl0_2, hl0_3, hl0_4] at c66b0hl0_4))
                       clear c66
                       by_cases c67 : 0 ≤ x149_2
                       ·rw [if_pos c67] at H
                        have c67b0 : decide (0 ≤ x149_2) = true := decide_eq_true c67
                        clear c67
                        by_cases c68 : x149_2 < (x0_4.length : Int)
                        ·rw [if_pos c68] at H
                         have c68b0 : decide (x149_2 < (x0_4.length : Int)) = true := decide_eq_true c68
                         (try (have c68b0hl0_1 := c68b0; rw [hl0_1] at c68b0hl0_1))
                         (try (have c68b0hl0_2 := c68b0; simp only [hl0_1, hl0_2] at c68b0hl0_2))
                         (try (have c68b0hl0_3 := c68b0; simp only [hl0_1, hl0_2, hl0_3] at c68b0hl0_3))
                         (try (have c68b0hl0_4 := c68b0; simp only [hl0_1, hl0_2, hl0_3, hl0_4] at c68b0hl0_4))
                         clear c68
                         by_cases c69 : x172_4 < ((rd_L1 x0_4 x149_2).length : Int)
                         ·rw [if_pos c69] at H
                          have c69b0 : decide (x172_4 < ((rd_L1 x0_4 x149_2).length : Int)) = true := decide_eq_true c69
                          (try (have c69b0hl0_1 := c69b0; rw [hl0_1] at c69b0hl0_1))
                          (try (have c69b0hl0_2 := c69b0; simp only [hl0_1, hl0_2] at c69b0hl0_2))
                          (try (have c69b0hl0_3 := c69b0; simp only [hl0_1, hl0_2, hl0_3] at c69b0hl0_3))
                          (try (have c69b0hl0_4 := c69b0; simp only [hl0_1, hl0_2, hl0_3, hl0_4] at c69b0hl0_4))
                          clear c69
                          replace H := Option.bind_eq_some_iff.mp H
                          obtain ⟨t247, A700, H⟩ := H
                          replace H : (reedsolomon_matrix_gaussianElimination.l7 k4 (x0_4.set (x153_3 : Int).toNat ((rd_L1 x0_4 x153_3).set (x172_4 : Int).toNat (Go.bits .xor .u8 (rd (rd_L1 x0_4 x153_3) x172_4) t247))) ((rd_L1 l0 0).length : Int) x149_2 x153_3 (rd (rd_L1 x0_3 x153_3) x149_2) (l0.length : Int) x149_2 x149_2 x153_3 ((rd_L1 l0 0).length : Int) (wrap64 (x172_4 + 1))) = some (r1, r2) := H
                          have A70 := Aside0.mk A700
                          clear A700
                          obtain ⟨y248, hy248⟩ : ∃ y_ : List Int, y_ = ((rd_L1 x0_4 x153_3).set (x172_4 : Int).toNat (Go.bits .xor .u8 (rd (rd_L1 x0_4 x153_3) x172_4) t247)) := ⟨_, rfl⟩
                          replace H : (reedsolomon_matrix_gaussianElimination.l7 k4 (x0_4.set (x153_3 : Int).toNat y248) ((rd_L1 l0 0).length : Int) x149_2 x153_3 (rd (rd_L1 x0_3 x153_3) x149_2) (l0.length : Int) x149_2 x149_2 x153_3 ((rd_L1 l0 0).length : Int) (wrap64 (x172_4 + 1))) = some (r1, r2) := by first | (rw [hy248]; with_reducible exact H) | (have H2_ := (Option.bind_some _ _).symm.trans H; rw [hy248]; with_reducible exact H2_) | (have H2_ := (Option.bind_some _ _).symm.trans H; with_reducible exact H2_) | with_reducible exact H | (rw [hy248]; exact H) | exact H
                          have Ny248 := Aside0.mk hy248
                          clear hy248
                          obtain ⟨y250, hy250⟩ : ∃ y_ : List (List Int), y_ = (x0_4.set (x153_3 : Int).toNat y248) := ⟨_, rfl⟩
                          replace H : (reedsolomon_matrix_gaussianElimination.l7 k4 y250 ((rd_L1 l0 0).length : Int) x149_2 x153_3 (rd (rd_L1 x0_3 x153_3) x149_2) (l0.length : Int) x149_2 x149_2 x153_3 ((rd_L1 l0 0).length : Int) (wrap64 (x172_4 + 1))) = some (r1, r2) := by first | (rw [hy250]; with_reducible exact H) | (have H2_ := (Option.bind_some _ _).symm.trans H; rw [hy250]; with_reducible exact H2_) | (have H2_ := (Option.bind_some _ _).symm.trans H; with_reducible exact H2_) | with_reducible exact H | (rw [hy250]; exact H) | exact H
                          have Ny250 := Aside0.mk hy250
                          clear hy250
                          have H' := Aside0.mk H
                          clear H
                          try go_wp2
                          have n0_ := Aside0.mk (Kd.S_drew HO_0.out)
                          have n1_ := Aside0.mk (Kept.drew HK.out)
                          have n2_ := Aside0.mk (below_drew1 HB.out)
                          clear HO_0
                          clear HK
                          clear HB
                          have HO_0 := n0_
                          have HK := n1_
                          have HB := n2_
                          clear n0_ n1_ n2_
                          have p243 : 0 ≤ (x153_3 : Int) := dA
                          have q243 : x153_3 < (x0_4.length : Int) := dA
                          obtain ⟨ad243, A243_0, c243_0, e243, hx243_0, hl243_0, hi243_0⟩ := at_L1 (Kd.S_reads' HO_0.out).2.2 x153_3 p243 q243
                          obtain rfl : ad205 = ad243 := (by injection e243)
                          obtain ⟨ce243, hce243, hMe243, hcc243⟩ := Kd.S_get HO_0.out [] x153_3 p243 (by first | exact q243 | exact dA | (have e_ := (Kd.S_reads' HO_0.out).1; omega))
                          obtain ⟨ve243_0, rfl, ge243_0⟩ := hMe243
                          have hv243_0 := hcc243 0 _ rfl
                          rw [Nat.add_zero, show ((Kd.slice 5 (Kd.int .u8))).sz = 1 from rfl, Nat.mul_one] at hv243_0
                          replace hv243_0 := Option.some.inj (hv243_0.symm.trans hx243_0)
                          rw [hv243_0] at ge243_0
                          have HL243_0 := Aside0.mk (show Kd.R (Kd.int .u8) 5 _ _ _ _ (rd_L1 x0_4 x153_3) from ge243_0)
                          clear hv243_0 ge243_0
                          have HX243_0 := Aside0.mk hx243_0
                          clear hcc243 hce243
                          have HR243_0 := Aside0.mk hi243_0
                          have HC243_0 := Aside0.mk hl243_0
                          clear hi243_0 hl243_0
                          replace p243 := eq_true p243
                          replace q243 := eq_true q243
                          have p244 : 0 ≤ (x172_4 : Int) := dA
                          have q244 : x172_4 < ((rd_L1 x0_4 x153_3).length : Int) := dA
                          obtain ⟨ad244, e244, hx244_0⟩ := Kd.at_int (by repeat (first | (with_reducible exact HR243_0.out) | (with_reducible refine Kd.C_alloc ?_ _) | (with_reducible refine Kd.C_drewN ?_ _) | (with_reducible refine Kd.C_drew ?_) | exact HR243_0.out)) x172_4 p244 q244
                          cases e244
                          replace p244 := eq_true p244
                          replace q244 := eq_true q244
                          have p245 : 0 ≤ (x149_2 : Int) := dA
                          have q245 : x149_2 < (x0_4.length : Int) := dA
                          obtain ⟨ad245, A245_0, c245_0, e245, hx245_0, hl245_0, hi245_0⟩ := at_L1 (Kd.S_reads' HO_0.out).2.2 x149_2 p245 q245
                          obtain rfl : ad205 = ad245 := (by injection e245)
                          obtain ⟨ce245, hce245, hMe245, hcc245⟩ := Kd.S_get HO_0.out [] x149_2 p245 (by first | exact q245 | exact dA | (have e_ := (Kd.S_reads' HO_0.out).1; omega))
                          obtain ⟨ve245_0, rfl, ge245_0⟩ := hMe245
                          have hv245_0 := hcc245 0 _ rfl
                          rw [Nat.add_zero, show ((Kd.slice 5 (Kd.int .u8))).sz = 1 from rfl, Nat.mul_one] at hv245_0
                          replace hv245_0 := Option.some.inj (hv245_0.symm.trans hx245_0)
                          rw [hv245_0] at ge245_0
                          have HL245_0 := Aside0.mk (show Kd.R (Kd.int .u8) 5 _ _ _ _ (rd_L1 x0_4 x149_2) from ge245_0)
                          clear hv245_0 ge245_0
                          have HX245_0 := Aside0.mk hx245_0
                          clear hcc245 hce245
                          have HR245_0 := Aside0.mk hi245_0
                          have HC245_0 := Aside0.mk hl245_0
                          clear hi245_0 hl245_0
                          replace p245 := eq_true p245
                          replace q245 := eq_true q245
                          have p246 : 0 ≤ (x172_4 : Int) := dA
                          have q246 : x172_4 < ((rd_L1 x0_4 x149_2).length : Int) := dA
                          obtain ⟨ad246, e246, hx246_0⟩ := Kd.at_int (by repeat (first | (with_reducible exact HR245_0.out) | (with_reducible refine Kd.C_alloc ?_ _) | (with_reducible refine Kd.C_drewN ?_ _) | (with_reducible refine Kd.C_drew ?_) | exact HR245_0.out)) x172_4 p246 q246
                          cases e246
                          replace p246 := eq_true p246
                          replace q246 := eq_true q246
                          refine start_ (n := 19) (S := fun w' => w'.cell? (ad205.add (x153_3).toNat) = some (.slice (some ad244) (rd_L1 x0_4 x153_3).length c243_0) ∧ w'.cell? (ad244.add (x172_4).toNat) = some (.int .u8 (rd (rd_L1 x0_4 x153_3) x172_4)) ∧ w'.cell? (ad205.add (x149_2).toNat) = some (.slice (some ad246) (rd_L1 x0_4 x149_2).length c245_0) ∧ w'.cell? (ad246.add (x172_4).toNat) = some (.int .u8 (rd (rd_L1 x0_4 x149_2) x172_4))) (ds := [18]) #[false, false, false, false, false, false, false, false, false, false, false, false, false, false, false, false, false, false, false] (by kernel_rfl) rfl rfl ⟨hx243_0, hx244_0, hx245_0, hx246_0⟩ (fun hHeld => ?_); refine with_tabW reedsolomon_matrix_gaussianElimination.tab45 reedsolomon_matrix_gaussianElimination.bits45 (fun HT_ HW_ => ?_)
                          generalize wr.drew = w72 at HO_0 HK HB HL243_0 HL245_0 HR243_0 HR245_0 HX243_0 HX245_0 hx243_0 hx244_0 hx245_0 hx246_0 hHeld ⊢
                          refine pure_ (i := 0) (N := some 175) (v := ?_) (a' := ?_) #[true, false, false, false, false, false, false, false, false, false, false, false, false, false, false, false, false, false, false] rfl rfl (any_of HT_.out (by kernel_rfl)) (fun _ _ _ h => h) (Or.inl ⟨by rfl, ?_⟩) ?_ ?_
                          rotate_left
                          ·intro w'
                           go_simp
                           with_reducible rfl
                          rotate_left
                          ·simp only [Act.put, List.setIfInBounds_toArray, List.set_cons_zero, List.set_cons_succ, i64_w, i32_w]
                           rfl
                          refine pure_ (i := 1) (N := some 176) (v := ?_) (a' := ?_) #[true, true, false, false, false, false, false, false, false, false, false, false, false, false, false, false, false, false, false] rfl rfl (any_of HT_.out (by kernel_rfl)) (fun _ _ _ h => h) (Or.inl ⟨by rfl, ?_⟩) ?_ ?_
                          rotate_left
                          ·intro w'
                           go_simp
                           with_reducible rfl
                          rotate_left
                          ·simp only [Act.put, List.setIfInBounds_toArray, List.set_cons_zero, List.set_cons_succ, i64_w, i32_w]
                           rfl
                          refine pure_ (i := 2) (N := some 177) (v := ?_) (a' := ?_) #[true, true, true, false, false, false, false, false, false, false, false, false, false, false, false, false, false, false, false] rfl rfl (any_of HT_.out (by kernel_rfl)) (fun _ _ _ h => h) (Or.inl ⟨by rfl, ?_⟩) ?_ ?_
                          rotate_left
                          ·intro w'
                           go_simp
                           with_reducible rfl
                          rotate_left
                          ·simp only [Act.put, List.setIfInBounds_toArray, List.set_cons_zero, List.set_cons_succ, i64_w, i32_w]
                           rfl
                          refine pure_ (i := 4) (N := some 179) (v := ?_) (a' := ?_) #[true, true, true, false, true, false, false, false, false, false, false, false, false, false, false, false, false, false, false] rfl rfl (any_of HT_.out (by kernel_rfl)) (fun _ _ _ h => h) (Or.inl ⟨by rfl, ?_⟩) ?_ ?_
                          rotate_left
                          ·intro w'
                           go_simp
                           with_reducible rfl
                          rotate_left
                          ·simp only [Act.put, List.setIfInBounds_toArray, List.set_cons_zero, List.set_cons_succ, i64_w, i32_w]
                           rfl
                          refine pure_ (i := 7) (N := some 182) (v := ?_) (a' := ?_) #[true, true, true, false, true, false, false, true, false, false, false, false, false, false, false, false, false, false, false] rfl rfl (any_of HT_.out (by kernel_rfl)) (fun _ _ _ h => h) (Or.inl ⟨by rfl, ?_⟩) ?_ ?_
                          rotate_left
                          ·intro w'
                           go_simp
                           with_reducible rfl
                          rotate_left
                          ·simp only [Act.put, List.setIfInBounds_toArray, List.set_cons_zero, List.set_cons_succ, i64_w, i32_w]
                           rfl
                          refine pure_ (i := 8) (N := some 183) (v := ?_) (a' := ?_) #[true, true, true, false, true, false, false, true, true, false, false, false, false, false, false, false, false, false, false] rfl rfl (any_of HT_.out (by kernel_rfl)) (fun _ _ _ h => h) (Or.inl ⟨by rfl, ?_⟩) ?_ ?_
                          rotate_left
                          ·intro w'
                           go_simp
                           with_reducible rfl
                          rotate_left
                          ·simp only [Act.put, List.setIfInBounds_toArray, List.set_cons_zero, List.set_cons_succ, i64_w, i32_w]
                           rfl
                          refine pure_ (i := 9) (N := some 184) (v := ?_) (a' := ?_) #[true, true, true, false, true, false, false, true, true, true, false, false, false, false, false, false, false, false, false] rfl rfl (any_of HT_.out (by kernel_rfl)) (fun _ _ _ h => h) (Or.inl ⟨by rfl, ?_⟩) ?_ ?_
                          rotate_left
                          ·intro w'
                           go_simp
                           with_reducible rfl
                          rotate_left
                          ·simp only [Act.put, List.setIfInBounds_toArray, List.set_cons_zero, List.set_cons_succ, i64_w, i32_w]
                           rfl
                          refine pure_ (i := 10) (N := some 185) (v := ?_) (a' := ?_) #[true, true, true, false, true, false, false, true, true, true, true, false, false, false, false, false, false, false, false] rfl rfl (any_of HT_.out (by kernel_rfl)) (fun _ _ _ h => h) (Or.inl ⟨by rfl, ?_⟩) ?_ ?_
                          rotate_left
                          ·intro w'
                           go_simp
                           with_reducible rfl
                          rotate_left
                          ·simp only [Act.put, List.setIfInBounds_toArray, List.set_cons_zero, List.set_cons_succ, i64_w, i32_w]
                           rfl
                          refine pure_ (i := 12) (N := some 187) (v := ?_) (a' := ?_) #[true, true, true, false, true, false, false, true, true, true, true, false, true, false, false, false, false, false, false] rfl rfl (any_of HT_.out (by kernel_rfl)) (fun _ _ _ h => h) (Or.inl ⟨by rfl, ?_⟩) ?_ ?_
                          rotate_left
                          ·intro w'
                           go_simp
                           with_reducible rfl
                          rotate_left
                          ·simp only [Act.put, List.setIfInBounds_toArray, List.set_cons_zero, List.set_cons_succ, i64_w, i32_w]
                           rfl
                          refine take_ (i := 3) (N := some 178) (v := ?_) (a' := ?_) #[true, true, true, true, true, false, false, true, true, true, true, false, true, false, false, false, false, false, false] rfl rfl (take_ofW HT_.out HW_.out (by kernel_rfl)) (fun _ _ _ h => h) (Or.inl ⟨by rfl, ?_⟩) hHeld ?_ ?_
                          rotate_left
                          ·rintro w' ⟨s0, s1, s2, s3⟩
                           go_simp
                           with_reducible rfl
                          rotate_left
                          ·simp only [Act.put, List.setIfInBounds_toArray, List.set_cons_zero, List.set_cons_succ, i64_w, i32_w]
                           rfl
                          refine pure_ (i := 5) (N := some 180) (v := ?_) (a' := ?_) #[true, true, true, true, true, true, false, true, true, true, true, false, true, false, false, false, false, false, false] rfl rfl (any_of HT_.out (by kernel_rfl)) (fun _ _ _ h => h) (Or.inl ⟨by rfl, ?_⟩) ?_ ?_
                          rotate_left
                          ·intro w'
                           go_simp
                           with_reducible rfl
                          rotate_left
                          ·simp only [Act.put, List.setIfInBounds_toArray, List.set_cons_zero, List.set_cons_succ, i64_w, i32_w]
                           rfl
                          refine take_ (i := 6) (N := some 181) (v := ?_) (a' := ?_) #[true, true, true, true, true, true, true, true, true, true, true, false, true, false, false, false, false, false, false] rfl rfl (take_ofW HT_.out HW_.out (by kernel_rfl)) (fun _ _ _ h => h) (Or.inl ⟨by rfl, ?_⟩) hHeld ?_ ?_
                          rotate_left
                          ·rintro w' ⟨s0, s1, s2, s3⟩
                           go_simp
                           with_reducible rfl
                          rotate_left
                          ·simp only [Act.put, List.setIfInBounds_toArray, List.set_cons_zero, List.set_cons_succ, i64_w, i32_w]
                           rfl
                          refine take_ (i := 11) (N := some 186) (v := ?_) (a' := ?_) #[true, true, true, true, true, true, true, true, true, true, true, true, true, false, false, false, false, false, false] rfl rfl (take_ofW HT_.out HW_.out (by kernel_rfl)) (fun _ _ _ h => h) (Or.inl ⟨by rfl, ?_⟩) hHeld ?_ ?_
                          rotate_left
                          ·rintro w' ⟨s0, s1, s2, s3⟩
                           go_simp
                           with_reducible rfl
                          rotate_left
                          ·simp only [Act.put, List.setIfInBounds_toArray, List.set_cons_zero, List.set_cons_succ, i64_w, i32_w]
                           rfl
                          refine pure_ (i := 13) (N := some 188) (v := ?_) (a' := ?_) #[true, true, true, true, true, true, true, true, true, true, true, true, true, true, false, false, false, false, false] rfl rfl (any_of HT_.out (by kernel_rfl)) (fun _ _ _ h => h) (Or.inl ⟨by rfl, ?_⟩) ?_ ?_
                          rotate_left
                          ·intro w'
                           go_simp
                           with_reducible rfl
                          rotate_left
                          ·simp only [Act.put, List.setIfInBounds_toArray, List.set_cons_zero, List.set_cons_succ, i64_w, i32_w]
                           rfl
                          refine take_ (i := 14) (N := some 189) (v := ?_) (a' := ?_) #[true, true, true, true, true, true, true, true, true, true, true, true, true, true, true, false, false, false, false] rfl rfl (take_ofW HT_.out HW_.out (by kernel_rfl)) (fun _ _ _ h => h) (Or.inl ⟨by rfl, ?_⟩) hHeld ?_ ?_
                          rotate_left
                          ·rintro w' ⟨s0, s1, s2, s3⟩
                           go_simp
                           with_reducible rfl
                          rotate_left
                          ·simp only [Act.put, List.setIfInBounds_toArray, List.set_cons_zero, List.set_cons_succ, i64_w, i32_w]
                           rfl
                          refine one_ (i := 15) (N := some 190) #[true, true, true, true, true, true, true, true, true, true, true, true, true, true, true, true, false, false, false] rfl rfl (one_of HT_.out (by kernel_rfl)) (by decide) (fun K hK => ?_)
                          refine goes_ Tryd.func47 (by kernel_rfl) rfl #[.int .u8 (rd (rd_L1 x0_3 x153_3) x149_2), .int .u8 (rd (rd_L1 x0_4 x149_2) x172_4)] (by rfl) rfl rfl aV ?_
                          with_reducible refine (reedsolomon_galMultiply.calls (rd (rd_L1 x0_3 x153_3) x149_2) (rd (rd_L1 x0_4 x149_2) x172_4) t247 _ ?side1 A70.out).mono ?_
                          (case side1 => exact TabOK.below HT.out bB)
                          rintro e w' ⟨rfl, ⟨nd, rfl⟩⟩
                          refine ⟨_, rfl, ?_⟩
                          have p71 : 0 ≤ (x172_4 : Int) := dA
                          have q71 : (x172_4 : Int) < (((rd_L1 x0_4 x153_3).length : Int) : Int) := dA
                          obtain ⟨go71, co71, eo71, gb71, gl71, cl71, HG71⟩ := Kd.R_form HL243_0.out (by omega)
                          (first | cases eo71 | (injection eo71 with ea_ en_ ec_; (first | subst ea_ | (injection ea_ with ea_; subst ea_)); subst ec_; clear en_))
                          have GB71 := Aside0.mk gb71
                          have GG71 := Aside0.mk HG71
                          clear gb71 gl71 HG71
                          have HMgo71 := Aside0.mk (show (P0_ go71 ∨ w.heap.size ≤ go71) from (HL243_0.out.1 _ rfl).1)
                          (first | simp only [add_plain] at hx244_0 | skip)
                          obtain ⟨hx71_0, hf71_0⟩ := Kd.R_celln 0 HL243_0.out (x172_4 : Int) p71 q71
                          replace p71 := eq_true p71
                          replace q71 := eq_true q71
                          have hq73 : (x153_3 : Int) < (x0_4.length : Int) := (by have h_ : (x153_3 : Int) < ((x0_4.length : Int) : Int) := dA; first | exact h_ | (have e_ := (Kd.S_reads' HO_0.out).1; omega) | simpa only [List.length_set, List.length_set] using h_)
                          obtain ⟨oki73, ce73, hcl73, hM73, hcc73, hok73, hbk73⟩ := Kd.S_borrow HO_0.out [] (x153_3 : Int) dA hq73
                          obtain ⟨ve73_0, rfl, ge73_0⟩ := hM73
                          have hv73 := hcc73 0 _ rfl
                          rw [Nat.add_zero, show ((Kd.slice 5 (Kd.int .u8))).sz = 1 from rfl, Nat.mul_one] at hv73
                          replace hv73 := Option.some.inj (hv73.symm.trans HX243_0.out)
                          subst hv73
                          clear hcc73 hcl73
                          replace ge73_0 := (show Kd.R (Kd.int .u8) 5 _ _ _ _ (rd_L1 x0_4 x153_3) from ge73_0)
                          have HP73 := Kd.R_putg ge73_0 (x172_4 : Int) (Go.bits .xor .u8 (rd (rd_L1 x0_4 x153_3) x172_4) t247)
                          rw [← Ny248.out] at HP73
                          have HS73 := hbk73 HP73.2 (fun k_ e_ => by injection e_ with e_; subst e_; exact ge73_0.1 _ rfl) (x' := y248) (Kd.M_row HP73.1)
                          rw [← Ny250.out] at HS73
                          have HQ73 := Aside0.mk HS73
                          clear HP73 HS73 hbk73 hok73
                          refine hK.out _ _ ⟨hHeld.1, hHeld.2.1, hHeld.2.2.1, hHeld.2.2.2⟩ (fun hHeld => ?_)
                          clear hK K
                          refine norm_ (a' := ?_) ?_ ?_
                          rotate_left
                          ·show Act.put _ (some 190) _ = _
                           simp only [Act.put, List.setIfInBounds_toArray, List.set_cons_zero, List.set_cons_succ, i64_w, i32_w]
                           rfl
                          refine pure_ (i := 16) (N := some 191) (v := ?_) (a' := ?_) #[true, true, true, true, true, true, true, true, true, true, true, true, true, true, true, true, true, false, false] rfl rfl (any_of HT_.out (by kernel_rfl)) (fun _ _ _ h => h) (Or.inl ⟨by rfl, ?_⟩) ?_ ?_
                          rotate_left
                          ·intro w'
                           go_simp
                           with_reducible rfl
                          rotate_left
                          ·simp only [Act.put, List.setIfInBounds_toArray, List.set_cons_zero, List.set_cons_succ, i64_w, i32_w]
                           rfl
                          refine pure_ (i := 17) (N := some 192) (v := ?_) (a' := ?_) #[true, true, true, true, true, true, true, true, true, true, true, true, true, true, true, true, true, true, false] rfl rfl (any_of HT_.out (by kernel_rfl)) (fun _ _ _ h => h) (Or.inl ⟨by rfl, ?_⟩) ?_ ?_
                          rotate_left
                          ·intro w'
                           go_simp
                           with_reducible rfl
                          rotate_left
                          ·simp only [Act.put, List.setIfInBounds_toArray, List.set_cons_zero, List.set_cons_succ, i64_w, i32_w]
                           rfl
                          refine last_ (i := 18) (N := none) #[true, true, true, true, true, true, true, true, true, true, true, true, true, true, true, true, true, true, true] rfl rfl (one_of HT_.out (by kernel_rfl)) (by decide) (fun K hK => ?_)
                          refine skip_ (w1 := ?_) (by rfl) rfl ?_ ?_
                          rotate_left
                          ·go_simp
                           rfl
                          refine hK.out _ _ ?_
                          clear hK K
                          refine done_ (done_of HT_.out (by kernel_rfl)) ?_
                          try go_wp2
                          (try simp only [← hl0_4])
                          go_roundg k4
                          case measure => have := HK1.out; have := HK2.out; have := HK3.out; have := HK4.out; omega
                          case rel => exact ⟨(y250), (wrap64 (x172_4 + 1)), (by first | rfl | (simp; done) | (simp [*]; done)), H', ⟨by have := HK1.out; have := HK2.out; have := HK3.out; have := HK4.out; omega⟩, ⟨by (try simp only [hl0_1]); (try simp only [hl0_2]); (try simp only [hl0_3]); (try simp only [hl0_4]); (with_reducible repeat (first | apply Kd.S_alloc | apply Kd.S_drewN | apply Kd.S_drew)); exact HQ73.out⟩, ⟨by repeat (first | (with_reducible first | exact HK.out | apply Kept.alloc | apply Kept.drewN | apply Kept.drew | refine Kept.setCell ?_ HMgo71.out _) | exact HK.out)⟩, ⟨by repeat (first | (with_reducible first | exact HB.out | apply below_alloc | apply pw_below_drewN | apply below_drew1 | refine below_set ?_ GB71.out) | exact HB.out)⟩⟩
                         ·rw [if_neg c69] at H
                          exact absurd H (by simp)
                        ·rw [if_neg c68] at H
                         exact absurd H (by simp)
                       ·rw [if_neg c67] at H
                        exact absurd H (by simp)
                      ·rw [if_neg c66] at H
                       exact absurd H (by simp)
                     ·rw [if_neg c65] at H
                      exact absurd H (by simp)
                    ·rw [if_neg c64] at H
                     exact absurd H (by simp)
                   ·rw [if_neg c63] at H
                    exact absurd H (by simp)
                  ·rw [if_neg c62] at H
                   have c62b0 : decide (x172_4 < ((rd_L1 l0 0).length : Int)) = false := decide_eq_false c62
                   (try (have c62b0hl0_1 := c62b0; rw [hl0_1] at c62b0hl0_1))
                   (try (have c62b0hl0_2 := c62b0; simp only [hl0_1, hl0_2] at c62b0hl0_2))
                   (try (have c62b0hl0_3 := c62b0; simp only [hl0_1, hl0_2, hl0_3] at c62b0hl0_3))
                   (try (have c62b0hl0_4 := c62b0; simp only [hl0_1, hl0_2, hl0_3, hl0_4] at c62b0hl0_4))
                   clear c62
                   have H' := Aside0.mk H
                   clear H
                   go_wp2
                   (try simp only [← hl0_3, ← hl0_4])
                   go_roundg k4
                   case measure => have := HK1.out; have := HK2.out; have := HK3.out; have := HK4.out; omega
                   case rel => exact ⟨(x0_4), (wrap64 (x153_3 + 1)), (by first | rfl | (simp; done) | (simp [*]; done)), H', ⟨by have := HK1.out; have := HK2.out; have := HK3.out; have := HK4.out; omega⟩, ⟨by (try simp only [hl0_1]); (try simp only [hl0_2]); (try simp only [hl0_3]); (try simp only [hl0_4]); (with_reducible repeat (first | apply Kd.S_alloc | apply Kd.S_drewN | apply Kd.S_drew)); exact HO_0.out⟩, ⟨by repeat (first | (with_reducible first | exact HK.out | apply Kept.alloc | apply Kept.drewN | apply Kept.drew) | exact HK.out)⟩, ⟨bB⟩⟩
              ·rw [if_neg c60] at H
               exact absurd H (by simp)
             ·rw [if_neg c59] at H
              exact absurd H (by simp)
            ·rw [if_neg c58] at H
             exact absurd H (by simp)
           ·rw [if_neg c57] at H
            exact absurd H (by simp)
          ·rw [if_neg c56] at H
           have c56b0 : decide (x153_3 < x149_2) = false := decide_eq_false c56
           clear c56
           have H' := Aside0.mk H
           clear H
           go_wp2
           (try simp only [← hl0_2, ← hl0_3])
           go_roundg k3
           case measure => have := HK1.out; have := HK2.out; have := HK3.out; omega
           case rel => exact ⟨(x0_3), (wrap64 (x149_2 + 1)), (by first | rfl | (simp; done) | (simp [*]; done)), H', ⟨by have := HK1.out; have := HK2.out; have := HK3.out; omega⟩, ⟨by (try simp only [hl0_1]); (try simp only [hl0_2]); (try simp only [hl0_3]); (with_reducible repeat (first | apply Kd.S_alloc | apply Kd.S_drewN | apply Kd.S_drew)); exact HO_0.out⟩, ⟨by repeat (first | (with_reducible first | exact HK.out | apply Kept.alloc | apply Kept.drewN | apply Kept.drew) | exact HK.out)⟩, ⟨bB⟩⟩
       ·rw [if_neg c55] at H
        have c55b0 : decide (x149_2 < (l0.length : Int)) = false := decide_eq_false c55
        (try (have c55b0hl0_1 := c55b0; rw [hl0_1] at c55b0hl0_1))
        (try (have c55b0hl0_2 := c55b0; simp only [hl0_1, hl0_2] at c55b0hl0_2))
        clear c55
        simp only [Option.some.injEq, Prod.mk.injEq] at H
        obtain ⟨rfl, rfl⟩ := H
        go_wp2
        go_ret
        exact ⟨(fun _ => 0), (fun _ => .nilIface), by first | rfl | (simp [errW_none, errW_some] <;> rfl) | (simp [*, errW_none, errW_some] <;> rfl), (by first | exact (by (with_reducible repeat (first | apply Kd.S_alloc | apply Kd.S_drewN | apply Kd.S_drew)); exact HO_0.out) | (simp only [hl0_1, hl0_2]; exact (by (with_reducible repeat (first | apply Kd.S_alloc | apply Kd.S_drewN | apply Kd.S_drew)); exact HO_0.out))), by repeat (first | (with_reducible first | exact HB.out | apply below_alloc | apply pw_below_drewN | apply below_drew1) | exact HB.out), by repeat (first | (with_reducible first | exact HK.out | apply Kept.alloc | apply Kept.drewN | apply Kept.drew) | exact HK.out)⟩
 ·rw [if_neg c2] at H
  exact absurd H (by simp)

end Go.Proofs.YtipbhclpeogcmaaDoor.M

