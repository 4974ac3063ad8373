-- Written by a program of ours (wip/xp) out of the translation; Lean checks it.
import Derived.Test.YtipbhclpeogcmaaDoorSq
import Derived.Test.YtipbhclpeogcmaaDoorMm1
import Derived.Test.YtipbhclpeogcmaaDoorMm2
import Derived.Test.YtipbhclpeogcmaaDoorMm3
namespace Go.Proofs.YtipbhclpeogcmaaDoor.M
open Go.RowKit Go.Proofs.YtipbhclpeogcmaaDoorW.PrintWords Go.Proofs.YtipbhclpeogcmaaDoorW.PrintLast Go.Proofs.YtipbhclpeogcmaaDoorW.PrintMore
attribute [local go_sem] max2_int min2_int max_two min_two max_three min_three max_four min_four   -- for this text's walks alone
set_option linter.unusedVariables false
set_option linter.unusedSimpArgs false

/-! ### reedsolomon_matrix_SubMatrix: function 62 -/
mutual
def reedsolomon_matrix_SubMatrix.l0 : Nat → List (List Int) → Int → Int → Int → Int → List (List Int) → Int → Option ((List (List Int)) × Option Int)
 | 0, _, _, _, _, _, _, _ => none
 | k + 1, x0, x1, x2, x3, x4, x12, x14 => if x14 < x3 then (reedsolomon_matrix_SubMatrix.l1 k x0 x1 x2 x3 x4 x12 x14 x2) else (some (x12, none))
def reedsolomon_matrix_SubMatrix.l1 : Nat → List (List Int) → Int → Int → Int → Int → List (List Int) → Int → Int → Option ((List (List Int)) × Option Int)
 | 0, _, _, _, _, _, _, _, _ => none
 | k + 1, x0, x1, x2, x3, x4, x12, x14, x15 => if x15 < x4 then (if 0 ≤ (wrap64 (x14 - x1)) then (if (wrap64 (x14 - x1)) < (x12.length : Int) then (if 0 ≤ x14 then (if x14 < (x0.length : Int) then (if 0 ≤ x15 then (if x15 < ((rd_L1 x0 x14).length : Int) then (if 0 ≤ (wrap64 (x15 - x2)) then (if (wrap64 (x15 - x2)) < ((rd_L1 x12 (wrap64 (x14 - x1))).length : Int) then (reedsolomon_matrix_SubMatrix.l1 k x0 x1 x2 x3 x4 (x12.set ((wrap64 (x14 - x1)) : Int).toNat ((rd_L1 x12 (wrap64 (x14 - x1))).set ((wrap64 (x15 - x2)) : Int).toNat (rd (rd_L1 x0 x14) x15))) x14 (wrap64 (x15 + 1))) else (none)) else (none)) else (none)) else (none)) else (none)) else (none)) else (none)) else (none)) else (reedsolomon_matrix_SubMatrix.l0 k x0 x1 x2 x3 x4 x12 (wrap64 (x14 + 1)))
end
def reedsolomon_matrix_SubMatrix.f (k : Nat) (l0 : List (List Int)) (a1 : Int) (a2 : Int) (a3 : Int) (a4 : Int) : Option ((List (List Int)) × Option Int) := (reedsolomon_newMatrix.f k (wrap64 (a3 - a1)) (wrap64 (a4 - a2))).bind fun bt251 => (if bt251.2.isNone = true then (reedsolomon_matrix_SubMatrix.l0 k l0 a1 a2 a3 a4 bt251.1 a1) else (some (([] : List (List Int)), some (bt251.2.getD 0))))
theorem reedsolomon_matrix_SubMatrix.mono_l : ∀ k, (∀ y0 y1 y2 y3 y4 y5 y6, LeO (reedsolomon_matrix_SubMatrix.l0 k y0 y1 y2 y3 y4 y5 y6) (reedsolomon_matrix_SubMatrix.l0 (k + 1) y0 y1 y2 y3 y4 y5 y6)) ∧ (∀ y0 y1 y2 y3 y4 y5 y6 y7, LeO (reedsolomon_matrix_SubMatrix.l1 k y0 y1 y2 y3 y4 y5 y6 y7) (reedsolomon_matrix_SubMatrix.l1 (k + 1) y0 y1 y2 y3 y4 y5 y6 y7))
 | 0 => ⟨fun _ _ _ _ _ _ _ r h => by simp [reedsolomon_matrix_SubMatrix.l0] at h, fun _ _ _ _ _ _ _ _ r h => by simp [reedsolomon_matrix_SubMatrix.l1] at h⟩
 | k + 1 => by
  obtain ⟨ih0, ih1⟩ := reedsolomon_matrix_SubMatrix.mono_l k
  refine ⟨?_, ?_⟩
  ·intro y0 y1 y2 y3 y4 y5 y6
   unfold reedsolomon_matrix_SubMatrix.l0
   repeat' first
   | (with_reducible exact ih0 _ _ _ _ _ _ _)
   | (with_reducible exact ih1 _ _ _ _ _ _ _ _)
   | (with_reducible exact reedsolomon_newMatrix.mono _ _ _)
   | (with_reducible exact LeO.refl _)
   | (with_reducible exact LeO.none _)
   | (with_reducible refine LeO.ite ?_ ?_)
   | (with_reducible refine LeO.bind ?_ (fun _ => ?_))
   | exact ih0 _ _ _ _ _ _ _
   | exact ih1 _ _ _ _ _ _ _ _
   | exact reedsolomon_newMatrix.mono _ _ _
   | exact LeO.none _
   | refine LeO.ite ?_ ?_
   | refine LeO.bind ?_ (fun _ => ?_)
  ·intro y0 y1 y2 y3 y4 y5 y6 y7
   unfold reedsolomon_matrix_SubMatrix.l1
   repeat' first
   | (with_reducible exact ih0 _ _ _ _ _ _ _)
   | (with_reducible exact ih1 _ _ _ _ _ _ _ _)
   | (with_reducible exact reedsolomon_newMatrix.mono _ _ _)
   | (with_reducible exact LeO.refl _)
   | (with_reducible exact LeO.none _)
   | (with_reducible refine LeO.ite ?_ ?_)
   | (with_reducible refine LeO.bind ?_ (fun _ => ?_))
   | exact ih0 _ _ _ _ _ _ _
   | exact ih1 _ _ _ _ _ _ _ _
   | exact reedsolomon_newMatrix.mono _ _ _
   | exact LeO.none _
   | refine LeO.ite ?_ ?_
   | refine LeO.bind ?_ (fun _ => ?_)
theorem reedsolomon_matrix_SubMatrix.mono : ∀ a0 a1 a2 a3 a4 k, LeO (reedsolomon_matrix_SubMatrix.f k a0 a1 a2 a3 a4) (reedsolomon_matrix_SubMatrix.f (k + 1) a0 a1 a2 a3 a4) := by
 intro a0 a1 a2 a3 a4 k
 obtain ⟨ih0, ih1⟩ := reedsolomon_matrix_SubMatrix.mono_l k
 unfold reedsolomon_matrix_SubMatrix.f
 repeat' first
   | (with_reducible exact ih0 _ _ _ _ _ _ _)
   | (with_reducible exact ih1 _ _ _ _ _ _ _ _)
   | (with_reducible exact reedsolomon_newMatrix.mono _ _ _)
   | (with_reducible exact LeO.refl _)
   | (with_reducible exact LeO.none _)
   | (with_reducible refine LeO.ite ?_ ?_)
   | (with_reducible refine LeO.bind ?_ (fun _ => ?_))
   | exact ih0 _ _ _ _ _ _ _
   | exact ih1 _ _ _ _ _ _ _ _
   | exact reedsolomon_newMatrix.mono _ _ _
   | exact LeO.none _
   | refine LeO.ite ?_ ?_
   | refine LeO.bind ?_ (fun _ => ?_)
def reedsolomon_matrix_SubMatrix.T10 : Bool × List (List Nat × List Nat) := (true, [([], []), ([], []), ([], []), ([1, 2], [1, 2]), ([0, 3], [0, 3]), ([4], [4]), ([], []), ([], []), ([6, 7], [6, 7]), ([], []), ([], []), ([9, 10], [9, 10]), ([11], [11]), ([], []), ([12, 13], [12, 13]), ([14], [14]), ([5, 8, 0, 1, 2, 3, 4, 5, 6, 7, 8, 9, 10, 11, 12, 13, 14, 15], [5, 8]), ([16, 15, 0, 1, 2, 3, 4, 5, 6, 7, 8, 9, 10, 11, 12, 13, 14, 15], [15, 16])])
def reedsolomon_matrix_SubMatrix.B10 : List Nat := [0, 0, 0, 6, 15, 31, 0, 0, 192, 0, 0, 1536, 3584, 0, 15872, 32256, 65535, 131071]
theorem reedsolomon_matrix_SubMatrix.tab10 : rtab .any (opsOf Tryd.f62 10) = reedsolomon_matrix_SubMatrix.T10 := by kernel_rfl
theorem reedsolomon_matrix_SubMatrix.bits10 : waitsOk reedsolomon_matrix_SubMatrix.T10.2 reedsolomon_matrix_SubMatrix.B10 = true := by kernel_rfl
set_option maxHeartbeats 8000000 in
set_option maxRecDepth 100000 in
theorem reedsolomon_matrix_SubMatrix.calls (k : Nat) (A0 : Option Addr) (c0 : Nat) (l0 : List (List Int)) (a1 : Int) (a2 : Int) (a3 : Int) (a4 : Int) (r1 : List (List Int)) (r2 : Option Int) (w : World) (hT : TabOK w) (hr0 : Kd.C (Kd.slice 5 (Kd.int .u8)) w A0 l0.length l0) (hc0 : l0.length ≤ c0) (h : reedsolomon_matrix_SubMatrix.f k l0 a1 a2 a3 a4 = some (r1, r2)) :
  Calls Tryd.prog 62 #[.slice A0 l0.length c0, .int .i64 a1, .int .i64 a2, .int .i64 a3, .int .i64 a4] w fun e w' => ∃ (T_ : Int → TypeId) (X_ : Int → Value), ∃ v0_ : Value, e = .returned (.tuple #[v0_, errW T_ X_ r2]) ∧ Kd.S (Kd.slice 5 (Kd.int .u8)) 22 w' w.heap.size (fun _ => True) v0_ r1 ∧ Below w.heap.size w w' := by
 have hu60 := Tryd.underlying60
 have HT := Aside0.mk hT
 clear hT
 have HR0 := Aside0.mk hr0
 have HC0 := Aside0.mk hc0
 clear hr0 hc0
 have HB := Aside0.mk (Below.refl w.heap.size w)
 have H : ((reedsolomon_newMatrix.f k (wrap64 (a3 - a1)) (wrap64 (a4 - a2))).bind fun bt251 => (if bt251.2.isNone = true then (reedsolomon_matrix_SubMatrix.l0 k l0 a1 a2 a3 a4 bt251.1 a1) else (some (([] : List (List Int)), some (bt251.2.getD 0))))) = some (r1, r2) := h
 clear h
 replace H := Option.bind_eq_some_iff.mp H
 obtain ⟨⟨t251, t252⟩, A60, H⟩ := H
 replace H : (if t252.isNone = true then (reedsolomon_matrix_SubMatrix.l0 k l0 a1 a2 a3 a4 t251 a1) else (some (([] : List (List Int)), some (t252.getD 0)))) = some (r1, r2) := H
 have A6 := Aside0.mk A60
 clear A60
 rcases t252 with _ | q255
 ·have H1 : (reedsolomon_matrix_SubMatrix.l0 k l0 a1 a2 a3 a4 t251 a1) = some (r1, r2) := by rw [if_pos (show (none : Option Int).isNone = true by rfl)] at H; exact H
  clear H
  have H := H1
  clear H1
  try simp only [errW_none, errW_some]
  have H' := Aside0.mk H
  clear H
  go_enter Tryd.func62, Tryd.ntmps62
  go_wp2_with (first | ((with_reducible refine gate_callee (f := 57) rfl ?_); refine goesL_ (some 23) rfl rfl Tryd.func57 (by kernel_rfl) rfl #[.int .i64 (wrap64 (a3 - a1)), .int .i64 (wrap64 (a4 - a2))] rfl aV ?_; (with_reducible refine (reedsolomon_newMatrix.calls k (wrap64 (a3 - a1)) (wrap64 (a4 - a2)) t251 none _ ?side1 A6.out).mono ?_); (case side1 => exact TabOK.below HT.out bB); rintro e w7 ⟨Tt252, Xt252, v253, rfl, ho0, hb⟩; refine ⟨_, rfl, ?_⟩; have n0_ := Aside0.mk (Kd.S_lower ho0 (below_size bB)); have n1_ := Aside0.mk (below_step bB hb); clear HB; have HO254 := n0_; have HB := n1_; clear n0_ n1_; (try clear hb); (try clear hb2); (try clear hk); (try clear hi); (try clear ho0); (try simp only [errW_none, errW_some])))
  go_loopg [14] k (fun kq v14 w' => ∃ (x12_1 : List (List Int)) (x14_1 : Int), v14 = .int .i64 x14_1 ∧ Aside0 (reedsolomon_matrix_SubMatrix.l0 kq l0 a1 a2 a3 a4 x12_1 x14_1 = some (r1, r2)) ∧ Aside0 (kq ≤ k) ∧ Aside0 (Kd.S (Kd.slice 5 (Kd.int .u8)) 22 w' w.heap.size (fun _ => True) v253 x12_1) ∧ Aside0 (Below w.heap.size w w'))
  case atStart => exact ⟨(t251), (a1), (by first | rfl | (simp; done) | (simp [*]; done)), H', ⟨Nat.le_refl _⟩, ⟨by (with_reducible repeat (first | apply Kd.S_alloc | apply Kd.S_drewN | apply Kd.S_drew)); exact HO254.out⟩, ⟨bB⟩⟩
  case round =>
   clear H'
   try clear p2
   try clear q2
   try clear c5
   try clear c6
   try clear p6
   try clear q255
   obtain ⟨x12_1, x14_1, rfl, HA, HK1, HO_12, HB⟩ := hrel
   cases gk with
   | zero => exact absurd HA.out (by simp [reedsolomon_matrix_SubMatrix.l0])
   | succ k1 =>
    have H := HA.out
    clear HA
    simp only [reedsolomon_matrix_SubMatrix.l0] at H
    by_cases c8 : x14_1 < a3
    ·rw [if_pos c8] at H
     have c8b0 : decide (x14_1 < a3) = true := decide_eq_true c8
     clear c8
     have H' := Aside0.mk H
     clear H
     go_wp2
     go_loopg [15] k1 (fun kq v15 w' => ∃ (x12_2 : List (List Int)) (x15_2 : Int), v15 = .int .i64 x15_2 ∧ Aside0 (reedsolomon_matrix_SubMatrix.l1 kq l0 a1 a2 a3 a4 x12_2 x14_1 x15_2 = some (r1, r2)) ∧ Aside0 (kq ≤ k1) ∧ Aside0 (Kd.S (Kd.slice 5 (Kd.int .u8)) 22 w' w.heap.size (fun _ => True) v253 x12_2) ∧ Aside0 (Below w.heap.size w w'))
     case atStart => exact ⟨(x12_1), (a2), (by first | rfl | (simp; done) | (simp [*]; done)), H', ⟨Nat.le_refl _⟩, ⟨by (with_reducible repeat (first | apply Kd.S_alloc | apply Kd.S_drewN | apply Kd.S_drew)); exact HO_12.out⟩, ⟨bB⟩⟩
     case round =>
      clear H'
      try clear p2
      try clear q2
      try clear c5
      try clear c6
      try clear p6
      try clear c8
      try clear c8b0
      try clear p2
      try clear p6
      try clear q2
      try clear q255
      obtain ⟨x12_2, x15_2, rfl, HA, HK2, HO_12, HB⟩ := hrel
      cases gk with
      | zero => exact absurd HA.out (by simp [reedsolomon_matrix_SubMatrix.l1])
      | succ k2 =>
       have H := HA.out
       clear HA
       simp only [reedsolomon_matrix_SubMatrix.l1] at H
       by_cases c9 : x15_2 < a4
       ·rw [if_pos c9] at H
        have c9b0 : decide (x15_2 < a4) = true := decide_eq_true c9
        clear c9
        obtain ⟨ji10, hji10⟩ : ∃ j_ : Int, (wrap64 (x14_1 - a1)) = j_ := ⟨_, rfl⟩
        replace H : (if 0 ≤ (ji10) then (if (ji10) < (x12_2.length : Int) then (if 0 ≤ x14_1 then (if x14_1 < (l0.length : Int) then (if 0 ≤ x15_2 then (if x15_2 < ((rd_L1 l0 x14_1).length : Int) then (if 0 ≤ (wrap64 (x15_2 - a2)) then (if (wrap64 (x15_2 - a2)) < ((rd_L1 x12_2 (ji10)).length : Int) then (reedsolomon_matrix_SubMatrix.l1 k2 l0 a1 a2 a3 a4 (x12_2.set ((ji10) : Int).toNat ((rd_L1 x12_2 (ji10)).set ((wrap64 (x15_2 - a2)) : Int).toNat (rd (rd_L1 l0 x14_1) x15_2))) x14_1 (wrap64 (x15_2 + 1))) else (none)) else (none)) else (none)) else (none)) else (none)) else (none)) else (none)) else (none)) = some (r1, r2) := by first | (rw [hji10] at H; exact H) | (simp only [hji10] at H ⊢; exact H)
        have hji10w : (IntKind.i64.wrap (x14_1 - a1)) = ji10 := (i64_w _).trans hji10
        by_cases c11 : 0 ≤ (ji10)
        ·rw [if_pos c11] at H
         have c11b0 : decide (0 ≤ (ji10)) = true := decide_eq_true c11
         clear c11
         by_cases c12 : (ji10) < (x12_2.length : Int)
         ·rw [if_pos c12] at H
          have c12b0 : decide ((ji10) < (x12_2.length : Int)) = true := decide_eq_true c12
          clear c12
          by_cases c13 : 0 ≤ x14_1
          ·rw [if_pos c13] at H
           have c13b0 : decide (0 ≤ x14_1) = true := decide_eq_true c13
           clear c13
           by_cases c14 : x14_1 < (l0.length : Int)
           ·rw [if_pos c14] at H
            have c14b0 : decide (x14_1 < (l0.length : Int)) = true := decide_eq_true c14
            clear c14
            by_cases c15 : 0 ≤ x15_2
            ·rw [if_pos c15] at H
             have c15b0 : decide (0 ≤ x15_2) = true := decide_eq_true c15
             clear c15
             by_cases c16 : x15_2 < ((rd_L1 l0 x14_1).length : Int)
             ·rw [if_pos c16] at H
              have c16b0 : decide (x15_2 < ((rd_L1 l0 x14_1).length : Int)) = true := decide_eq_true c16
              clear c16
              obtain ⟨ji17, hji17⟩ : ∃ j_ : Int, (wrap64 (x15_2 - a2)) = j_ := ⟨_, rfl⟩
              replace H : (if 0 ≤ (ji17) then (if (ji17) < ((rd_L1 x12_2 (ji10)).length : Int) then (reedsolomon_matrix_SubMatrix.l1 k2 l0 a1 a2 a3 a4 (x12_2.set ((ji10) : Int).toNat ((rd_L1 x12_2 (ji10)).set ((ji17) : Int).toNat (rd (rd_L1 l0 x14_1) x15_2))) x14_1 (wrap64 (x15_2 + 1))) else (none)) else (none)) = some (r1, r2) := by first | (rw [hji17] at H; exact H) | (simp only [hji17] at H ⊢; exact H)
              have hji17w : (IntKind.i64.wrap (x15_2 - a2)) = ji17 := (i64_w _).trans hji17
              by_cases c18 : 0 ≤ (ji17)
              ·rw [if_pos c18] at H
               have c18b0 : decide (0 ≤ (ji17)) = true := decide_eq_true c18
               clear c18
               by_cases c19 : (ji17) < ((rd_L1 x12_2 (ji10)).length : Int)
               ·rw [if_pos c19] at H
                have c19b0 : decide ((ji17) < ((rd_L1 x12_2 (ji10)).length : Int)) = true := decide_eq_true c19
                clear c19
                obtain ⟨y259, hy259⟩ : ∃ y_ : List Int, y_ = ((rd_L1 x12_2 (ji10)).set ((ji17) : Int).toNat (rd (rd_L1 l0 x14_1) x15_2)) := ⟨_, rfl⟩
                replace H : (reedsolomon_matrix_SubMatrix.l1 k2 l0 a1 a2 a3 a4 (x12_2.set ((ji10) : Int).toNat y259) x14_1 (wrap64 (x15_2 + 1))) = some (r1, r2) := by first | (rw [hy259]; with_reducible exact H) | (have H2_ := (Option.bind_some _ _).symm.trans H; rw [hy259]; with_reducible exact H2_) | (have H2_ := (Option.bind_some _ _).symm.trans H; with_reducible exact H2_) | with_reducible exact H | (rw [hy259]; exact H) | exact H
                have Ny259 := Aside0.mk hy259
                clear hy259
                obtain ⟨y261, hy261⟩ : ∃ y_ : List (List Int), y_ = (x12_2.set ((ji10) : Int).toNat y259) := ⟨_, rfl⟩
                replace H : (reedsolomon_matrix_SubMatrix.l1 k2 l0 a1 a2 a3 a4 y261 x14_1 (wrap64 (x15_2 + 1))) = some (r1, r2) := by first | (rw [hy261]; with_reducible exact H) | (have H2_ := (Option.bind_some _ _).symm.trans H; rw [hy261]; with_reducible exact H2_) | (have H2_ := (Option.bind_some _ _).symm.trans H; with_reducible exact H2_) | with_reducible exact H | (rw [hy261]; exact H) | exact H
                have Ny261 := Aside0.mk hy261
                clear hy261
                have H' := Aside0.mk H
                clear H
                try go_wp2
                have n0_ := Aside0.mk (Kd.S_drew HO_12.out)
                have n1_ := Aside0.mk (below_drew1 HB.out)
                clear HO_12
                clear HB
                have HO_12 := n0_
                have HB := n1_
                clear n0_ n1_
                obtain ⟨Ao22, co22, eo22⟩ := Kd.S_slice HO_12.out
                (first | subst eo22 | (injection eo22 with f1_ f2_ f3_; have f4_ := f1_.symm; have f5_ := f3_.symm; clear f1_ f2_ f3_; subst f4_; subst f5_))
                have p256 : 0 ≤ ((ji10) : Int) := dA
                have q256 : (ji10) < (x12_2.length : Int) := dA
                obtain ⟨ad256, A256_0, c256_0, e256, hx256_0, hl256_0, hi256_0⟩ := at_L1 (Kd.S_reads' HO_12.out).2.2 (ji10) p256 q256
                cases e256
                obtain ⟨ce256, hce256, hMe256, hcc256⟩ := Kd.S_get HO_12.out [] (ji10) p256 (by first | exact q256 | exact dA | (have e_ := (Kd.S_reads' HO_12.out).1; omega))
                obtain ⟨ve256_0, rfl, ge256_0⟩ := hMe256
                have hv256_0 := hcc256 0 _ rfl
                rw [Nat.add_zero, show ((Kd.slice 5 (Kd.int .u8))).sz = 1 from rfl, Nat.mul_one] at hv256_0
                replace hv256_0 := Option.some.inj (hv256_0.symm.trans hx256_0)
                rw [hv256_0] at ge256_0
                have HL256_0 := Aside0.mk (show Kd.R (Kd.int .u8) 5 _ _ _ _ (rd_L1 x12_2 (ji10)) from ge256_0)
                clear hv256_0 ge256_0
                have HX256_0 := Aside0.mk hx256_0
                clear hcc256 hce256
                have HR256_0 := Aside0.mk hi256_0
                have HC256_0 := Aside0.mk hl256_0
                clear hi256_0 hl256_0
                replace p256 := eq_true p256
                replace q256 := eq_true q256
                have p257 : 0 ≤ (x14_1 : Int) := dA
                have q257 : x14_1 < (l0.length : Int) := dA
                obtain ⟨ad257, A257_0, c257_0, e257, hx257_0, hl257_0, hi257_0⟩ := at_L1 HR0.out x14_1 p257 q257
                have hw257_0 := hx257_0
                cases e257
                replace hx257_0 := (HB.out.cell (World.block_lt_of_cell? w _ hx257_0)).trans hx257_0
                have HR257_0 := Aside0.mk hi257_0
                have HC257_0 := Aside0.mk hl257_0
                clear hi257_0 hl257_0
                replace p257 := eq_true p257
                replace q257 := eq_true q257
                have p258 : 0 ≤ (x15_2 : Int) := dA
                have q258 : x15_2 < ((rd_L1 l0 x14_1).length : Int) := dA
                obtain ⟨ad258, e258, hx258_0⟩ := Kd.at_int HR257_0.out x15_2 p258 q258
                have hw258_0 := hx258_0
                cases e258
                replace hx258_0 := (HB.out.cell (World.block_lt_of_cell? w _ hx258_0)).trans hx258_0
                replace p258 := eq_true p258
                replace q258 := eq_true q258
                have p20 : 0 ≤ ((ji17) : Int) := dA
                have q20 : ((ji17) : Int) < (((rd_L1 x12_2 (ji10)).length : Int) : Int) := dA
                obtain ⟨go20, co20, eo20, gb20, gl20, cl20, HG20⟩ := Kd.R_form HL256_0.out (by omega)
                (first | cases eo20 | (injection eo20 with ea_ en_ ec_; (first | subst ea_ | (injection ea_ with ea_; subst ea_)); subst ec_; clear en_))
                have GB20 := Aside0.mk gb20
                have GG20 := Aside0.mk HG20
                clear gb20 gl20 HG20
                obtain ⟨hx20_0, hf20_0⟩ := Kd.R_celln 0 HL256_0.out ((ji17) : Int) p20 q20
                replace p20 := eq_true p20
                replace q20 := eq_true q20
                have hq23 : ((ji10) : Int) < (x12_2.length : Int) := (by have h_ : ((ji10) : Int) < ((x12_2.length : Int) : Int) := dA; first | exact h_ | (have e_ := (Kd.S_reads' HO_12.out).1; omega) | simpa only [List.length_set, List.length_set] using h_)
                obtain ⟨oki23, ce23, hcl23, hM23, hcc23, hok23, hbk23⟩ := Kd.S_borrow HO_12.out [] ((ji10) : Int) dA hq23
                obtain ⟨ve23_0, rfl, ge23_0⟩ := hM23
                have hv23 := hcc23 0 _ rfl
                rw [Nat.add_zero, show ((Kd.slice 5 (Kd.int .u8))).sz = 1 from rfl, Nat.mul_one] at hv23
                replace hv23 := Option.some.inj (hv23.symm.trans HX256_0.out)
                subst hv23
                clear hcc23 hcl23
                replace ge23_0 := (show Kd.R (Kd.int .u8) 5 _ _ _ _ (rd_L1 x12_2 (ji10)) from ge23_0)
                have HP23 := Kd.R_putg ge23_0 ((ji17) : Int) (rd (rd_L1 l0 x14_1) x15_2)
                rw [← Ny259.out] at HP23
                have HS23 := hbk23 HP23.2 (fun k_ e_ => by injection e_ with e_; subst e_; exact ge23_0.1 _ rfl) (x' := y259) (Kd.M_row HP23.1)
                rw [← Ny261.out] at HS23
                have HQ23 := Aside0.mk HS23
                clear HP23 HS23 hbk23 hok23
                refine start_ (n := 18) (S := fun w' => w'.cell? (ad256.add ((ji10)).toNat) = some (.slice (some ⟨go20, 0, none⟩) (rd_L1 x12_2 (ji10)).length c256_0) ∧ w'.cell? (ad257.add (x14_1).toNat) = some (.slice (some ad258) (rd_L1 l0 x14_1).length c257_0) ∧ w'.cell? (ad258.add (x15_2).toNat) = some (.int .u8 (rd (rd_L1 l0 x14_1) x15_2))) (ds := [17]) #[false, false, false, false, false, false, false, false, false, false, false, false, false, false, false, false, false, false] (by kernel_rfl) rfl rfl ⟨hx256_0, ((HB.out.cell (World.block_lt_of_cell? w _ hw257_0)).trans hw257_0), ((HB.out.cell (World.block_lt_of_cell? w _ hw258_0)).trans hw258_0)⟩ (fun hHeld => ?_); refine with_tabW reedsolomon_matrix_SubMatrix.tab10 reedsolomon_matrix_SubMatrix.bits10 (fun HT_ HW_ => ?_)
                generalize wr.drew = w21 at HO_12 HB GG20 HL256_0 HQ23 HR256_0 HR257_0 HX256_0 hf20_0 hx20_0 hx256_0 hx257_0 hx258_0 hHeld ⊢
                refine pure_ (i := 0) (N := some 41) (v := ?_) (a' := ?_) #[true, false, false, false, false, false, false, false, false, false, false, false, false, false, false, false, false, false] rfl rfl (any_of HT_.out (by kernel_rfl)) (fun _ _ _ h => h) (Or.inl ⟨by rfl, ?_⟩) ?_ ?_
                rotate_left
                ·intro w'
                 go_simp
                 with_reducible rfl
                rotate_left
                ·simp only [Act.put, List.setIfInBounds_toArray, List.set_cons_zero, List.set_cons_succ, i64_w, i32_w]
                 rfl
                refine pure_ (i := 1) (N := some 42) (v := ?_) (a' := ?_) #[true, true, false, false, false, false, false, false, false, false, false, false, false, false, false, false, false, false] rfl rfl (any_of HT_.out (by kernel_rfl)) (fun _ _ _ h => h) (Or.inl ⟨by rfl, ?_⟩) ?_ ?_
                rotate_left
                ·intro w'
                 go_simp
                 with_reducible rfl
                rotate_left
                ·simp only [Act.put, List.setIfInBounds_toArray, List.set_cons_zero, List.set_cons_succ, i64_w, i32_w]
                 rfl
                refine pure_ (i := 2) (N := some 43) (v := ?_) (a' := ?_) #[true, true, true, false, false, false, false, false, false, false, false, false, false, false, false, false, false, false] rfl rfl (any_of HT_.out (by kernel_rfl)) (fun _ _ _ h => h) (Or.inl ⟨by rfl, ?_⟩) ?_ ?_
                rotate_left
                ·intro w'
                 go_simp
                 with_reducible rfl
                rotate_left
                ·simp only [Act.put, List.setIfInBounds_toArray, List.set_cons_zero, List.set_cons_succ, i64_w, i32_w]
                 rfl
                refine pure_ (i := 3) (N := some 44) (v := ?_) (a' := ?_) #[true, true, true, true, false, false, false, false, false, false, false, false, false, false, false, false, false, false] rfl rfl (any_of HT_.out (by kernel_rfl)) (fun _ _ _ h => h) (Or.inl ⟨by rfl, ?_⟩) ?_ ?_
                rotate_left
                ·intro w'
                 go_simp
                 with_reducible rfl
                rotate_left
                ·simp only [Act.put, List.setIfInBounds_toArray, List.set_cons_zero, List.set_cons_succ, i64_w, i32_w]
                 rfl
                refine pure_ (i := 4) (N := some 45) (v := ?_) (a' := ?_) #[true, true, true, true, true, false, false, false, false, false, false, false, false, false, false, false, false, false] rfl rfl (any_of HT_.out (by kernel_rfl)) (fun _ _ _ h => h) (Or.inl ⟨by rfl, ?_⟩) ?_ ?_
                rotate_left
                ·intro w'
                 go_simp
                 with_reducible rfl
                rotate_left
                ·simp only [Act.put, List.setIfInBounds_toArray, List.set_cons_zero, List.set_cons_succ, i64_w, i32_w]
                 rfl
                refine pure_ (i := 6) (N := some 47) (v := ?_) (a' := ?_) #[true, true, true, true, true, false, true, false, false, false, false, false, false, false, false, false, false, false] rfl rfl (any_of HT_.out (by kernel_rfl)) (fun _ _ _ h => h) (Or.inl ⟨by rfl, ?_⟩) ?_ ?_
                rotate_left
                ·intro w'
                 go_simp
                 with_reducible rfl
                rotate_left
                ·simp only [Act.put, List.setIfInBounds_toArray, List.set_cons_zero, List.set_cons_succ, i64_w, i32_w]
                 rfl
                refine pure_ (i := 7) (N := some 48) (v := ?_) (a' := ?_) #[true, true, true, true, true, false, true, true, false, false, false, false, false, false, false, false, false, false] rfl rfl (any_of HT_.out (by kernel_rfl)) (fun _ _ _ h => h) (Or.inl ⟨by rfl, ?_⟩) ?_ ?_
                rotate_left
                ·intro w'
                 go_simp
                 with_reducible rfl
                rotate_left
                ·simp only [Act.put, List.setIfInBounds_toArray, List.set_cons_zero, List.set_cons_succ, i64_w, i32_w]
                 rfl
                refine pure_ (i := 8) (N := some 49) (v := ?_) (a' := ?_) #[true, true, true, true, true, false, true, true, true, false, false, false, false, false, false, false, false, false] rfl rfl (any_of HT_.out (by kernel_rfl)) (fun _ _ _ h => h) (Or.inl ⟨by rfl, ?_⟩) ?_ ?_
                rotate_left
                ·intro w'
                 go_simp
                 with_reducible rfl
                rotate_left
                ·simp only [Act.put, List.setIfInBounds_toArray, List.set_cons_zero, List.set_cons_succ, i64_w, i32_w]
                 rfl
                refine pure_ (i := 9) (N := some 50) (v := ?_) (a' := ?_) #[true, true, true, true, true, false, true, true, true, true, false, false, false, false, false, false, false, false] rfl rfl (any_of HT_.out (by kernel_rfl)) (fun _ _ _ h => h) (Or.inl ⟨by rfl, ?_⟩) ?_ ?_
                rotate_left
                ·intro w'
                 go_simp
                 with_reducible rfl
                rotate_left
                ·simp only [Act.put, List.setIfInBounds_toArray, List.set_cons_zero, List.set_cons_succ, i64_w, i32_w]
                 rfl
                refine pure_ (i := 10) (N := some 51) (v := ?_) (a' := ?_) #[true, true, true, true, true, false, true, true, true, true, true, false, false, false, false, false, false, false] rfl rfl (any_of HT_.out (by kernel_rfl)) (fun _ _ _ h => h) (Or.inl ⟨by rfl, ?_⟩) ?_ ?_
                rotate_left
                ·intro w'
                 go_simp
                 with_reducible rfl
                rotate_left
                ·simp only [Act.put, List.setIfInBounds_toArray, List.set_cons_zero, List.set_cons_succ, i64_w, i32_w]
                 rfl
                refine pure_ (i := 11) (N := some 52) (v := ?_) (a' := ?_) #[true, true, true, true, true, false, true, true, true, true, true, true, false, false, false, false, false, false] rfl rfl (any_of HT_.out (by kernel_rfl)) (fun _ _ _ h => h) (Or.inl ⟨by rfl, ?_⟩) ?_ ?_
                rotate_left
                ·intro w'
                 go_simp
                 with_reducible rfl
                rotate_left
                ·simp only [Act.put, List.setIfInBounds_toArray, List.set_cons_zero, List.set_cons_succ, i64_w, i32_w]
                 rfl
                refine pure_ (i := 13) (N := some 54) (v := ?_) (a' := ?_) #[true, true, true, true, true, false, true, true, true, true, true, true, false, true, false, false, false, false] rfl rfl (any_of HT_.out (by kernel_rfl)) (fun _ _ _ h => h) (Or.inl ⟨by rfl, ?_⟩) ?_ ?_
                rotate_left
                ·intro w'
                 go_simp
                 with_reducible rfl
                rotate_left
                ·simp only [Act.put, List.setIfInBounds_toArray, List.set_cons_zero, List.set_cons_succ, i64_w, i32_w]
                 rfl
                refine take_ (i := 5) (N := some 46) (v := ?_) (a' := ?_) #[true, true, true, true, true, true, true, true, true, true, true, true, false, true, false, false, false, false] rfl rfl (take_ofW HT_.out HW_.out (by kernel_rfl)) (fun _ _ _ h => h) (Or.inl ⟨by rfl, ?_⟩) hHeld ?_ ?_
                rotate_left
                ·rintro w' ⟨s0, s1, s2⟩
                 go_simp
                 with_reducible rfl
                rotate_left
                ·simp only [Act.put, List.setIfInBounds_toArray, List.set_cons_zero, List.set_cons_succ, i64_w, i32_w]
                 rfl
                refine take_ (i := 12) (N := some 53) (v := ?_) (a' := ?_) #[true, true, true, true, true, true, true, true, true, true, true, true, true, true, false, false, false, false] rfl rfl (take_ofW HT_.out HW_.out (by kernel_rfl)) (fun _ _ _ h => h) (Or.inl ⟨by rfl, ?_⟩) hHeld ?_ ?_
                rotate_left
                ·rintro w' ⟨s0, s1, s2⟩
                 go_simp
                 with_reducible rfl
                rotate_left
                ·simp only [Act.put, List.setIfInBounds_toArray, List.set_cons_zero, List.set_cons_succ, i64_w, i32_w]
                 rfl
                refine pure_ (i := 14) (N := some 55) (v := ?_) (a' := ?_) #[true, true, true, true, true, true, true, true, true, true, true, true, true, true, true, false, false, false] rfl rfl (any_of HT_.out (by kernel_rfl)) (fun _ _ _ h => h) (Or.inl ⟨by rfl, ?_⟩) ?_ ?_
                rotate_left
                ·intro w'
                 go_simp
                 with_reducible rfl
                rotate_left
                ·simp only [Act.put, List.setIfInBounds_toArray, List.set_cons_zero, List.set_cons_succ, i64_w, i32_w]
                 rfl
                refine take_ (i := 15) (N := some 56) (v := ?_) (a' := ?_) #[true, true, true, true, true, true, true, true, true, true, true, true, true, true, true, true, false, false] rfl rfl (take_ofW HT_.out HW_.out (by kernel_rfl)) (fun _ _ _ h => h) (Or.inl ⟨by rfl, ?_⟩) hHeld ?_ ?_
                rotate_left
                ·rintro w' ⟨s0, s1, s2⟩
                 go_simp
                 with_reducible rfl
                rotate_left
                ·simp only [Act.put, List.setIfInBounds_toArray, List.set_cons_zero, List.set_cons_succ, i64_w, i32_w]
                 rfl
                refine pure_ (i := 16) (N := some 57) (v := ?_) (a' := ?_) #[true, true, true, true, true, true, true, true, true, true, true, true, true, true, true, true, true, false] rfl rfl (any_of HT_.out (by kernel_rfl)) (fun _ _ _ h => h) (Or.inl ⟨by rfl, ?_⟩) ?_ ?_
                rotate_left
                ·intro w'
                 go_simp
                 with_reducible rfl
                rotate_left
                ·simp only [Act.put, List.setIfInBounds_toArray, List.set_cons_zero, List.set_cons_succ, i64_w, i32_w]
                 rfl
                refine last_ (i := 17) (N := none) #[true, true, true, true, true, true, true, true, true, true, true, true, true, true, true, true, true, true] rfl rfl (one_of HT_.out (by kernel_rfl)) (by decide) (fun K hK => ?_)
                refine skip_ (w1 := ?_) (by rfl) rfl ?_ ?_
                rotate_left
                ·go_simp
                 rfl
                refine hK.out _ _ ?_
                clear hK K
                refine done_ (done_of HT_.out (by kernel_rfl)) ?_
                try go_wp2
                go_roundg k2
                case measure => have := HK1.out; have := HK2.out; omega
                case rel => exact ⟨(y261), (wrap64 (x15_2 + 1)), (by first | rfl | (simp; done) | (simp [*]; done)), H', ⟨by have := HK1.out; have := HK2.out; omega⟩, ⟨by (with_reducible repeat (first | apply Kd.S_alloc | apply Kd.S_drewN | apply Kd.S_drew)); exact HQ23.out⟩, ⟨by repeat (first | (with_reducible first | exact HB.out | apply below_alloc | apply pw_below_drewN | apply below_drew1 | refine below_set ?_ GB20.out) | exact HB.out)⟩⟩
               ·rw [if_neg c19] at H
                exact absurd H (by simp)
              ·rw [if_neg c18] at H
               exact absurd H (by simp)
             ·rw [if_neg c16] at H
              exact absurd H (by simp)
            ·rw [if_neg c15] at H
             exact absurd H (by simp)
           ·rw [if_neg c14] at H
            exact absurd H (by simp)
          ·rw [if_neg c13] at H
           exact absurd H (by simp)
         ·rw [if_neg c12] at H
          exact absurd H (by simp)
        ·rw [if_neg c11] at H
         exact absurd H (by simp)
       ·rw [if_neg c9] at H
        have c9b0 : decide (x15_2 < a4) = false := decide_eq_false c9
        clear c9
        have H' := Aside0.mk H
        clear H
        go_wp2
        go_roundg k2
        case measure => have := HK1.out; have := HK2.out; omega
        case rel => exact ⟨(x12_2), (wrap64 (x14_1 + 1)), (by first | rfl | (simp; done) | (simp [*]; done)), H', ⟨by have := HK1.out; have := HK2.out; omega⟩, ⟨by (with_reducible repeat (first | apply Kd.S_alloc | apply Kd.S_drewN | apply Kd.S_drew)); exact HO_12.out⟩, ⟨bB⟩⟩
    ·rw [if_neg c8] at H
     have c8b0 : decide (x14_1 < a3) = false := decide_eq_false c8
     clear c8
     simp only [Option.some.injEq, Prod.mk.injEq] at H
     obtain ⟨rfl, rfl⟩ := H
     go_wp2
     go_ret2
     exact ⟨(fun _ => 0), (fun _ => .nilIface), _, by first | rfl | (simp [errW_none, errW_some] <;> rfl) | (simp [*, errW_none, errW_some] <;> rfl), by (with_reducible repeat (first | apply Kd.S_alloc | apply Kd.S_drewN | apply Kd.S_drew)); exact HO_12.out, bB⟩
 ·have H1 : (some (([] : List (List Int)), some q255)) = some (r1, r2) := by rw [if_neg (show ¬ (some q255).isNone = true by simp)] at H; exact H
  clear H
  have H := H1
  clear H1
  try simp only [errW_none, errW_some]
  simp only [Option.some.injEq, Prod.mk.injEq] at H
  obtain ⟨rfl, rfl⟩ := H
  go_enter Tryd.func62, Tryd.ntmps62
  go_wp2_with (first | ((with_reducible refine gate_callee (f := 57) rfl ?_); refine goesL_ (some 23) rfl rfl Tryd.func57 (by kernel_rfl) rfl #[.int .i64 (wrap64 (a3 - a1)), .int .i64 (wrap64 (a4 - a2))] rfl aV ?_; (with_reducible refine (reedsolomon_newMatrix.calls k (wrap64 (a3 - a1)) (wrap64 (a4 - a2)) t251 (some q255) _ ?side1 A6.out).mono ?_); (case side1 => exact TabOK.below HT.out bB); rintro e w25 ⟨Tt252, Xt252, v253, rfl, ho0, hb⟩; refine ⟨_, rfl, ?_⟩; have n0_ := Aside0.mk (Kd.S_lower ho0 (below_size bB)); have n1_ := Aside0.mk (below_step bB hb); clear HB; have HO254 := n0_; have HB := n1_; clear n0_ n1_; (try clear hb); (try clear hb2); (try clear hk); (try clear hi); (try clear ho0); (try simp only [errW_none, errW_some])))
  go_ret2
  exact ⟨Tt252, Xt252, (.slice none 0 0), by first | rfl | (simp [errW_none, errW_some] <;> rfl) | (simp [*, errW_none, errW_some] <;> rfl), by first | exact Kd.V_nil _ _ _ _ _ | exact Kd.R_nil _ _ _ _ _ | exact Kd.S_nil _ _ _ _ _ | exact Kd.N_nil _ _ _ _ _ | exact Kd.Q_nil _ _ _ _ _, bB⟩


/-! ### reedsolomon_matrix_Invert: function 52 -/
def reedsolomon_matrix_Invert.f (k : Nat) (l0 : List (List Int)) : Option ((List (List Int)) × Option Int) := (reedsolomon_matrix_IsSquare.f l0).bind fun t262 => (if t262 = true then ((reedsolomon_identityMatrix.f k (l0.length : Int)).bind fun bt263 => ((reedsolomon_matrix_Augment.f k l0 bt263.1).bind fun bt267 => ((reedsolomon_matrix_gaussianElimination.f k bt267.1).bind fun bt271 => (if bt271.1.isNone = true then ((reedsolomon_matrix_SubMatrix.f k bt271.2 0 (l0.length : Int) (l0.length : Int) (wrap64 ((l0.length : Int) * 2))).bind fun bt274 => (some (bt274.1, bt274.2))) else (some (([] : List (List Int)), some (bt271.1.getD 0))))))) else (some (([] : List (List Int)), some 1)))
theorem reedsolomon_matrix_Invert.mono : ∀ a0 k, LeO (reedsolomon_matrix_Invert.f k a0) (reedsolomon_matrix_Invert.f (k + 1) a0) := by
 intro a0 k
 unfold reedsolomon_matrix_Invert.f
 repeat' first
   | (with_reducible exact reedsolomon_identityMatrix.mono _ _)
   | (with_reducible exact reedsolomon_matrix_Augment.mono _ _ _)
   | (with_reducible exact reedsolomon_matrix_SubMatrix.mono _ _ _ _ _ _)
   | (with_reducible exact reedsolomon_matrix_gaussianElimination.mono _ _)
   | (with_reducible exact LeO.refl _)
   | (with_reducible exact LeO.none _)
   | (with_reducible refine LeO.ite ?_ ?_)
   | (with_reducible refine LeO.bind ?_ (fun _ => ?_))
   | exact reedsolomon_identityMatrix.mono _ _
   | exact reedsolomon_matrix_Augment.mono _ _ _
   | exact reedsolomon_matrix_SubMatrix.mono _ _ _ _ _ _
   | exact reedsolomon_matrix_gaussianElimination.mono _ _
   | exact LeO.none _
   | refine LeO.ite ?_ ?_
   | refine LeO.bind ?_ (fun _ => ?_)
set_option maxHeartbeats 8000000 in
set_option maxRecDepth 100000 in
theorem reedsolomon_matrix_Invert.calls (k : Nat) (A0 : Option Addr) (c0 : Nat) (l0 : List (List Int)) (r1 : List (List Int)) (r2 : Option Int) (w : World) (hT : TabOK w) (hr0 : Kd.C (Kd.slice 5 (Kd.int .u8)) w A0 l0.length l0) (hc0 : l0.length ≤ c0) (h : reedsolomon_matrix_Invert.f k l0 = some (r1, r2)) :
  Calls Tryd.prog 52 #[.slice A0 l0.length c0] w fun e w' => ∃ (T_ : Int → TypeId) (X_ : Int → Value), ∃ v0_ : Value, e = .returned (.tuple #[v0_, errW T_ X_ r2]) ∧ Kd.S (Kd.slice 5 (Kd.int .u8)) 22 w' w.heap.size (fun _ => True) v0_ r1 ∧ Below w.heap.size w w' := by
 have hu60 := Tryd.underlying60
 obtain ⟨te1_, xe1_, he1_⟩ := hT.er 1 (by decide)
 have HE1_ := Aside0.mk he1_
 clear he1_
 have HT := Aside0.mk hT
 clear hT
 have HR0 := Aside0.mk hr0
 have HC0 := Aside0.mk hc0
 clear hr0 hc0
 have HB := Aside0.mk (Below.refl w.heap.size w)
 have H : ((reedsolomon_matrix_IsSquare.f l0).bind fun t262 => (if t262 = true then ((reedsolomon_identityMatrix.f k (l0.length : Int)).bind fun bt263 => ((reedsolomon_matrix_Augment.f k l0 bt263.1).bind fun bt267 => ((reedsolomon_matrix_gaussianElimination.f k bt267.1).bind fun bt271 => (if bt271.1.isNone = true then ((reedsolomon_matrix_SubMatrix.f k bt271.2 0 (l0.length : Int) (l0.length : Int) (wrap64 ((l0.length : Int) * 2))).bind fun bt274 => (some (bt274.1, bt274.2))) else (some (([] : List (List Int)), some (bt271.1.getD 0))))))) else (some (([] : List (List Int)), some 1)))) = some (r1, r2) := h
 clear h
 replace H := Option.bind_eq_some_iff.mp H
 obtain ⟨t262, A20, H⟩ := H
 replace H : (if t262 = true then ((reedsolomon_identityMatrix.f k (l0.length : Int)).bind fun bt263 => ((reedsolomon_matrix_Augment.f k l0 bt263.1).bind fun bt267 => ((reedsolomon_matrix_gaussianElimination.f k bt267.1).bind fun bt271 => (if bt271.1.isNone = true then ((reedsolomon_matrix_SubMatrix.f k bt271.2 0 (l0.length : Int) (l0.length : Int) (wrap64 ((l0.length : Int) * 2))).bind fun bt274 => (some (bt274.1, bt274.2))) else (some (([] : List (List Int)), some (bt271.1.getD 0))))))) else (some (([] : List (List Int)), some 1))) = some (r1, r2) := H
 have A2 := Aside0.mk A20
 clear A20
 by_cases c3 : t262 = true
 ·subst c3
  have H1 : ((reedsolomon_identityMatrix.f k (l0.length : Int)).bind fun bt263 => ((reedsolomon_matrix_Augment.f k l0 bt263.1).bind fun bt267 => ((reedsolomon_matrix_gaussianElimination.f k bt267.1).bind fun bt271 => (if bt271.1.isNone = true then ((reedsolomon_matrix_SubMatrix.f k bt271.2 0 (l0.length : Int) (l0.length : Int) (wrap64 ((l0.length : Int) * 2))).bind fun bt274 => (some (bt274.1, bt274.2))) else (some (([] : List (List Int)), some (bt271.1.getD 0))))))) = some (r1, r2) := by rw [if_pos rfl] at H; exact H
  clear H
  have H := H1
  clear H1
  replace H := Option.bind_eq_some_iff.mp H
  obtain ⟨⟨t263, t264⟩, A40, H⟩ := H
  replace H : ((reedsolomon_matrix_Augment.f k l0 t263).bind fun bt267 => ((reedsolomon_matrix_gaussianElimination.f k bt267.1).bind fun bt271 => (if bt271.1.isNone = true then ((reedsolomon_matrix_SubMatrix.f k bt271.2 0 (l0.length : Int) (l0.length : Int) (wrap64 ((l0.length : Int) * 2))).bind fun bt274 => (some (bt274.1, bt274.2))) else (some (([] : List (List Int)), some (bt271.1.getD 0)))))) = some (r1, r2) := H
  have A4 := Aside0.mk A40
  clear A40
  replace H := Option.bind_eq_some_iff.mp H
  obtain ⟨⟨t267, t268⟩, A50, H⟩ := H
  replace H : ((reedsolomon_matrix_gaussianElimination.f k t267).bind fun bt271 => (if bt271.1.isNone = true then ((reedsolomon_matrix_SubMatrix.f k bt271.2 0 (l0.length : Int) (l0.length : Int) (wrap64 ((l0.length : Int) * 2))).bind fun bt274 => (some (bt274.1, bt274.2))) else (some (([] : List (List Int)), some (bt271.1.getD 0))))) = some (r1, r2) := H
  have A5 := Aside0.mk A50
  clear A50
  replace H := Option.bind_eq_some_iff.mp H
  obtain ⟨⟨t271, t272⟩, A60, H⟩ := H
  replace H : (if t271.isNone = true then ((reedsolomon_matrix_SubMatrix.f k t272 0 (l0.length : Int) (l0.length : Int) (wrap64 ((l0.length : Int) * 2))).bind fun bt274 => (some (bt274.1, bt274.2))) else (some (([] : List (List Int)), some (t271.getD 0)))) = some (r1, r2) := H
  have A6 := Aside0.mk A60
  clear A60
  rcases t271 with _ | q273
  ·have H1 : ((reedsolomon_matrix_SubMatrix.f k t272 0 (l0.length : Int) (l0.length : Int) (wrap64 ((l0.length : Int) * 2))).bind fun bt274 => (some (bt274.1, bt274.2))) = some (r1, r2) := by rw [if_pos (show (none : Option Int).isNone = true by rfl)] at H; exact H
   clear H
   have H := H1
   clear H1
   try simp only [errW_none, errW_some]
   replace H := Option.bind_eq_some_iff.mp H
   obtain ⟨⟨t274, t275⟩, A70, H⟩ := H
   replace H : (some (t274, t275)) = some (r1, r2) := H
   have A7 := Aside0.mk A70
   clear A70
   simp only [Option.some.injEq, Prod.mk.injEq] at H
   obtain ⟨rfl, rfl⟩ := H
   go_enter Tryd.func52, Tryd.ntmps52
   go_wp2_with (first | (go_at_call 55; (with_reducible refine (reedsolomon_matrix_IsSquare.calls _ _ l0 true _ ?side1 ?side2 A2.out).mono ?_); (case side1 => repeat (first | exact HR0.out | (with_reducible refine Kd.C_alloc ?_ _) | (with_reducible refine Kd.C_drewN ?_ _) | (with_reducible refine Kd.C_drew ?_))); (case side2 => exact HC0.out); rintro e w' ⟨rfl, ⟨nd, rfl⟩⟩; (try first | exact ⟨rfl, _, World.drewN_drewN _ _ _⟩ | exact ⟨rfl, _, Eq.trans (World.drewN_drewN _ _ _) (congrArg (World.drewN _) (Nat.add_assoc _ _ _))⟩)) | (go_at_call 49; (with_reducible refine (reedsolomon_identityMatrix.calls k (l0.length : Int) t263 t264 _ ?side1 A4.out).mono ?_); (case side1 => exact TabOK.below HT.out bB); rintro e w8 ⟨Tt264, Xt264, v265, rfl, ho0, hb⟩; have n0_ := Aside0.mk (Kd.S_lower ho0 (below_size bB)); have n1_ := Aside0.mk (below_step bB hb); clear HB; have HO266 := n0_; have HB := n1_; clear n0_ n1_; (try clear hb); (try clear hb2); (try clear hk); (try clear hi); (try clear ho0); (try simp only [errW_none, errW_some]); obtain ⟨Ao9, co9, eo9⟩ := Kd.S_slice HO266.out; subst eo9) | (go_at_call 60; (with_reducible refine (reedsolomon_matrix_Augment.calls k _ _ l0 _ _ t263 t267 t268 _ ?side1 ?side2 ?side3 ?side4 ?side5 A5.out).mono ?_); (case side1 => exact TabOK.below HT.out bB); (case side2 => repeat (first | exact (Kd.C_below HR0.out HB.out) | (with_reducible refine Kd.C_alloc ?_ _) | (with_reducible refine Kd.C_drewN ?_ _) | (with_reducible refine Kd.C_drew ?_))); (case side3 => exact HC0.out); (case side4 => repeat (first | exact (Kd.S_reads' HO266.out).2.2 | (with_reducible refine Kd.C_alloc ?_ _) | (with_reducible refine Kd.C_drewN ?_ _) | (with_reducible refine Kd.C_drew ?_))); (case side5 => exact (Kd.S_reads' HO266.out).2.1); rintro e w10 ⟨Tt268, Xt268, v269, rfl, ho0, hb⟩; have n0_ := Aside0.mk (Kd.S_elder' (by (with_reducible repeat (first | apply Kd.S_alloc | apply Kd.S_drewN | apply Kd.S_drew)); exact HO266.out) (Kd.S_base ho0) hb); have n1_ := Aside0.mk (Kd.S_lower (Kd.S_new' ho0 (Kd.S_lt (by (with_reducible repeat (first | apply Kd.S_alloc | apply Kd.S_drewN | apply Kd.S_drew)); exact HO266.out))) (below_size bB)); have n2_ := Aside0.mk (below_step bB hb); clear HO266; clear HB; have HO266 := n0_; have HO270 := n1_; have HB := n2_; clear n0_ n1_ n2_; (try clear hb); (try clear hb2); (try clear hk); (try clear hi); (try clear ho0); (try simp only [errW_none, errW_some]); obtain ⟨Ao11, co11, eo11⟩ := Kd.S_slice HO270.out; subst eo11) | (go_at_call 61; (with_reducible refine (reedsolomon_matrix_gaussianElimination.calls k (fun k_ => (True ∧ some k_ ≠ (.slice Ao9 t263.length co9 : Value).ownBlock)) (.slice Ao11 t267.length co11) t267 none t272 w _ ?side1 ?side2 ?side3 A6.out).mono ?_); (case side1 => exact HT.out); (case side2 => repeat (first | (with_reducible first | exact HB.out | apply below_alloc | apply pw_below_drewN | apply below_drew1) | exact HB.out)); (case side3 => exact HO270.out); rintro e w12 ⟨Tt271, Xt271, rfl, hy0, hb, hkp⟩; have n0_ := Aside0.mk (Kd.S_mono (ok' := fun k_ => True) hy0 (fun _ _ => trivial)); have n1_ := Aside0.mk (hb); clear HO270; clear HB; clear HO266; have HO270 := n0_; have HB := n1_; clear n0_ n1_; (try clear hb); (try clear hkp); (try clear hy0); (try simp only [errW_none, errW_some])) | (go_at_call 62; refine calls_of_args (args' := #[.slice Ao11 t272.length co11, .int .i64 0, .int .i64 (l0.length : Int), .int .i64 (l0.length : Int), .int .i64 (wrap64 ((l0.length : Int) * 2))]) (by first | (rw [show t272.length = t267.length from (Kd.S_reads' HO270.out).1.symm] <;> rfl) | rfl) ?_; (with_reducible refine (reedsolomon_matrix_SubMatrix.calls k _ _ t272 0 (l0.length : Int) (l0.length : Int) (wrap64 ((l0.length : Int) * 2)) t274 t275 _ ?side1 ?side2 ?side3 A7.out).mono ?_); (case side1 => exact TabOK.below HT.out bB); (case side2 => repeat (first | exact (Kd.S_reads' HO270.out).2.2 | (with_reducible refine Kd.C_alloc ?_ _) | (with_reducible refine Kd.C_drewN ?_ _) | (with_reducible refine Kd.C_drew ?_))); (case side3 => rw [show t272.length = t267.length from (Kd.S_reads' HO270.out).1.symm]; exact (Kd.S_reads' HO270.out).2.1); rintro e w13 ⟨Tt275, Xt275, v276, rfl, ho0, hb⟩; have n0_ := Aside0.mk (Kd.S_elder' (by (with_reducible repeat (first | apply Kd.S_alloc | apply Kd.S_drewN | apply Kd.S_drew)); exact HO270.out) (Kd.S_base ho0) hb); have n1_ := Aside0.mk (Kd.S_lower (Kd.S_new' ho0 (Kd.S_lt (by (with_reducible repeat (first | apply Kd.S_alloc | apply Kd.S_drewN | apply Kd.S_drew)); exact HO270.out))) (below_size bB)); have n2_ := Aside0.mk (below_step bB hb); clear HO270; clear HB; have HO270 := n0_; have HO277 := n1_; have HB := n2_; clear n0_ n1_ n2_; (try clear hb); (try clear hb2); (try clear hk); (try clear hi); (try clear ho0); (try simp only [errW_none, errW_some])))
   repeat (go_quiet (first | (go_at_call 55; (with_reducible refine (reedsolomon_matrix_IsSquare.calls _ _ l0 true _ ?side1 ?side2 A2.out).mono ?_); (case side1 => repeat (first | exact HR0.out | (with_reducible refine Kd.C_alloc ?_ _) | (with_reducible refine Kd.C_drewN ?_ _) | (with_reducible refine Kd.C_drew ?_))); (case side2 => exact HC0.out); rintro e w' ⟨rfl, ⟨nd, rfl⟩⟩; (try first | exact ⟨rfl, _, World.drewN_drewN _ _ _⟩ | exact ⟨rfl, _, Eq.trans (World.drewN_drewN _ _ _) (congrArg (World.drewN _) (Nat.add_assoc _ _ _))⟩)) | (go_at_call 49; (with_reducible refine (reedsolomon_identityMatrix.calls k (l0.length : Int) t263 t264 _ ?side1 A4.out).mono ?_); (case side1 => exact TabOK.below HT.out bB); rintro e w8 ⟨Tt264, Xt264, v265, rfl, ho0, hb⟩; have n0_ := Aside0.mk (Kd.S_lower ho0 (below_size bB)); have n1_ := Aside0.mk (below_step bB hb); clear HB; have HO266 := n0_; have HB := n1_; clear n0_ n1_; (try clear hb); (try clear hb2); (try clear hk); (try clear hi); (try clear ho0); (try simp only [errW_none, errW_some]); obtain ⟨Ao9, co9, eo9⟩ := Kd.S_slice HO266.out; subst eo9) | (go_at_call 60; (with_reducible refine (reedsolomon_matrix_Augment.calls k _ _ l0 _ _ t263 t267 t268 _ ?side1 ?side2 ?side3 ?side4 ?side5 A5.out).mono ?_); (case side1 => exact TabOK.below HT.out bB); (case side2 => repeat (first | exact (Kd.C_below HR0.out HB.out) | (with_reducible refine Kd.C_alloc ?_ _) | (with_reducible refine Kd.C_drewN ?_ _) | (with_reducible refine Kd.C_drew ?_))); (case side3 => exact HC0.out); (case side4 => repeat (first | exact (Kd.S_reads' HO266.out).2.2 | (with_reducible refine Kd.C_alloc ?_ _) | (with_reducible refine Kd.C_drewN ?_ _) | (with_reducible refine Kd.C_drew ?_))); (case side5 => exact (Kd.S_reads' HO266.out).2.1); rintro e w10 ⟨Tt268, Xt268, v269, rfl, ho0, hb⟩; have n0_ := Aside0.mk (Kd.S_elder' (by (with_reducible repeat (first | apply Kd.S_alloc | apply Kd.S_drewN | apply Kd.S_drew)); exact HO266.out) (Kd.S_base ho0) hb); have n1_ := Aside0.mk (Kd.S_lower (Kd.S_new' ho0 (Kd.S_lt (by (with_reducible repeat (first | apply Kd.S_alloc | apply Kd.S_drewN | apply Kd.S_drew)); exact HO266.out))) (below_size bB)); have n2_ := Aside0.mk (below_step bB hb); clear HO266; clear HB; have HO266 := n0_; have HO270 := n1_; have HB := n2_; clear n0_ n1_ n2_; (try clear hb); (try clear hb2); (try clear hk); (try clear hi); (try clear ho0); (try simp only [errW_none, errW_some]); obtain ⟨Ao11, co11, eo11⟩ := Kd.S_slice HO270.out; subst eo11) | (go_at_call 61; (with_reducible refine (reedsolomon_matrix_gaussianElimination.calls k (fun k_ => (True ∧ some k_ ≠ (.slice Ao9 t263.length co9 : Value).ownBlock)) (.slice Ao11 t267.length co11) t267 none t272 w _ ?side1 ?side2 ?side3 A6.out).mono ?_); (case side1 => exact HT.out); (case side2 => repeat (first | (with_reducible first | exact HB.out | apply below_alloc | apply pw_below_drewN | apply below_drew1) | exact HB.out)); (case side3 => exact HO270.out); rintro e w12 ⟨Tt271, Xt271, rfl, hy0, hb, hkp⟩; have n0_ := Aside0.mk (Kd.S_mono (ok' := fun k_ => True) hy0 (fun _ _ => trivial)); have n1_ := Aside0.mk (hb); clear HO270; clear HB; clear HO266; have HO270 := n0_; have HB := n1_; clear n0_ n1_; (try clear hb); (try clear hkp); (try clear hy0); (try simp only [errW_none, errW_some])) | (go_at_call 62; refine calls_of_args (args' := #[.slice Ao11 t272.length co11, .int .i64 0, .int .i64 (l0.length : Int), .int .i64 (l0.length : Int), .int .i64 (wrap64 ((l0.length : Int) * 2))]) (by first | (rw [show t272.length = t267.length from (Kd.S_reads' HO270.out).1.symm] <;> rfl) | rfl) ?_; (with_reducible refine (reedsolomon_matrix_SubMatrix.calls k _ _ t272 0 (l0.length : Int) (l0.length : Int) (wrap64 ((l0.length : Int) * 2)) t274 t275 _ ?side1 ?side2 ?side3 A7.out).mono ?_); (case side1 => exact TabOK.below HT.out bB); (case side2 => repeat (first | exact (Kd.S_reads' HO270.out).2.2 | (with_reducible refine Kd.C_alloc ?_ _) | (with_reducible refine Kd.C_drewN ?_ _) | (with_reducible refine Kd.C_drew ?_))); (case side3 => rw [show t272.length = t267.length from (Kd.S_reads' HO270.out).1.symm]; exact (Kd.S_reads' HO270.out).2.1); rintro e w13 ⟨Tt275, Xt275, v276, rfl, ho0, hb⟩; have n0_ := Aside0.mk (Kd.S_elder' (by (with_reducible repeat (first | apply Kd.S_alloc | apply Kd.S_drewN | apply Kd.S_drew)); exact HO270.out) (Kd.S_base ho0) hb); have n1_ := Aside0.mk (Kd.S_lower (Kd.S_new' ho0 (Kd.S_lt (by (with_reducible repeat (first | apply Kd.S_alloc | apply Kd.S_drewN | apply Kd.S_drew)); exact HO270.out))) (below_size bB)); have n2_ := Aside0.mk (below_step bB hb); clear HO270; clear HB; have HO270 := n0_; have HO277 := n1_; have HB := n2_; clear n0_ n1_ n2_; (try clear hb); (try clear hb2); (try clear hk); (try clear hi); (try clear ho0); (try simp only [errW_none, errW_some]))); try go_wp2_with (first | (go_at_call 55; (with_reducible refine (reedsolomon_matrix_IsSquare.calls _ _ l0 true _ ?side1 ?side2 A2.out).mono ?_); (case side1 => repeat (first | exact HR0.out | (with_reducible refine Kd.C_alloc ?_ _) | (with_reducible refine Kd.C_drewN ?_ _) | (with_reducible refine Kd.C_drew ?_))); (case side2 => exact HC0.out); rintro e w' ⟨rfl, ⟨nd, rfl⟩⟩; (try first | exact ⟨rfl, _, World.drewN_drewN _ _ _⟩ | exact ⟨rfl, _, Eq.trans (World.drewN_drewN _ _ _) (congrArg (World.drewN _) (Nat.add_assoc _ _ _))⟩)) | (go_at_call 49; (with_reducible refine (reedsolomon_identityMatrix.calls k (l0.length : Int) t263 t264 _ ?side1 A4.out).mono ?_); (case side1 => exact TabOK.below HT.out bB); rintro e w8 ⟨Tt264, Xt264, v265, rfl, ho0, hb⟩; have n0_ := Aside0.mk (Kd.S_lower ho0 (below_size bB)); have n1_ := Aside0.mk (below_step bB hb); clear HB; have HO266 := n0_; have HB := n1_; clear n0_ n1_; (try clear hb); (try clear hb2); (try clear hk); (try clear hi); (try clear ho0); (try simp only [errW_none, errW_some]); obtain ⟨Ao9, co9, eo9⟩ := Kd.S_slice HO266.out; subst eo9) | (go_at_call 60; (with_reducible refine (reedsolomon_matrix_Augment.calls k _ _ l0 _ _ t263 t267 t268 _ ?side1 ?side2 ?side3 ?side4 ?side5 A5.out).mono ?_); (case side1 => exact TabOK.below HT.out bB); (case side2 => repeat (first | exact (Kd.C_below HR0.out HB.out) | (with_reducible refine Kd.C_alloc ?_ _) | (with_reducible refine Kd.C_drewN ?_ _) | (with_reducible refine Kd.C_drew ?_))); (case side3 => exact HC0.out); (case side4 => repeat (first | exact (Kd.S_reads' HO266.out).2.2 | (with_reducible refine Kd.C_alloc ?_ _) | (with_reducible refine Kd.C_drewN ?_ _) | (with_reducible refine Kd.C_drew ?_))); (case side5 => exact (Kd.S_reads' HO266.out).2.1); rintro e w10 ⟨Tt268, Xt268, v269, rfl, ho0, hb⟩; have n0_ := Aside0.mk (Kd.S_elder' (by (with_reducible repeat (first | apply Kd.S_alloc | apply Kd.S_drewN | apply Kd.S_drew)); exact HO266.out) (Kd.S_base ho0) hb); have n1_ := Aside0.mk (Kd.S_lower (Kd.S_new' ho0 (Kd.S_lt (by (with_reducible repeat (first | apply Kd.S_alloc | apply Kd.S_drewN | apply Kd.S_drew)); exact HO266.out))) (below_size bB)); have n2_ := Aside0.mk (below_step bB hb); clear HO266; clear HB; have HO266 := n0_; have HO270 := n1_; have HB := n2_; clear n0_ n1_ n2_; (try clear hb); (try clear hb2); (try clear hk); (try clear hi); (try clear ho0); (try simp only [errW_none, errW_some]); obtain ⟨Ao11, co11, eo11⟩ := Kd.S_slice HO270.out; subst eo11) | (go_at_call 61; (with_reducible refine (reedsolomon_matrix_gaussianElimination.calls k (fun k_ => (True ∧ some k_ ≠ (.slice Ao9 t263.length co9 : Value).ownBlock)) (.slice Ao11 t267.length co11) t267 none t272 w _ ?side1 ?side2 ?side3 A6.out).mono ?_); (case side1 => exact HT.out); (case side2 => repeat (first | (with_reducible first | exact HB.out | apply below_alloc | apply pw_below_drewN | apply below_drew1) | exact HB.out)); (case side3 => exact HO270.out); rintro e w12 ⟨Tt271, Xt271, rfl, hy0, hb, hkp⟩; have n0_ := Aside0.mk (Kd.S_mono (ok' := fun k_ => True) hy0 (fun _ _ => trivial)); have n1_ := Aside0.mk (hb); clear HO270; clear HB; clear HO266; have HO270 := n0_; have HB := n1_; clear n0_ n1_; (try clear hb); (try clear hkp); (try clear hy0); (try simp only [errW_none, errW_some])) | (go_at_call 62; refine calls_of_args (args' := #[.slice Ao11 t272.length co11, .int .i64 0, .int .i64 (l0.length : Int), .int .i64 (l0.length : Int), .int .i64 (wrap64 ((l0.length : Int) * 2))]) (by first | (rw [show t272.length = t267.length from (Kd.S_reads' HO270.out).1.symm] <;> rfl) | rfl) ?_; (with_reducible refine (reedsolomon_matrix_SubMatrix.calls k _ _ t272 0 (l0.length : Int) (l0.length : Int) (wrap64 ((l0.length : Int) * 2)) t274 t275 _ ?side1 ?side2 ?side3 A7.out).mono ?_); (case side1 => exact TabOK.below HT.out bB); (case side2 => repeat (first | exact (Kd.S_reads' HO270.out).2.2 | (with_reducible refine Kd.C_alloc ?_ _) | (with_reducible refine Kd.C_drewN ?_ _) | (with_reducible refine Kd.C_drew ?_))); (case side3 => rw [show t272.length = t267.length from (Kd.S_reads' HO270.out).1.symm]; exact (Kd.S_reads' HO270.out).2.1); rintro e w13 ⟨Tt275, Xt275, v276, rfl, ho0, hb⟩; have n0_ := Aside0.mk (Kd.S_elder' (by (with_reducible repeat (first | apply Kd.S_alloc | apply Kd.S_drewN | apply Kd.S_drew)); exact HO270.out) (Kd.S_base ho0) hb); have n1_ := Aside0.mk (Kd.S_lower (Kd.S_new' ho0 (Kd.S_lt (by (with_reducible repeat (first | apply Kd.S_alloc | apply Kd.S_drewN | apply Kd.S_drew)); exact HO270.out))) (below_size bB)); have n2_ := Aside0.mk (below_step bB hb); clear HO270; clear HB; have HO270 := n0_; have HO277 := n1_; have HB := n2_; clear n0_ n1_ n2_; (try clear hb); (try clear hb2); (try clear hk); (try clear hi); (try clear ho0); (try simp only [errW_none, errW_some]))))
   go_ret2
   exact ⟨Tt275, Xt275, _, by first | rfl | (simp [errW_none, errW_some] <;> rfl) | (simp [*, errW_none, errW_some] <;> rfl), by (with_reducible repeat (first | apply Kd.S_alloc | apply Kd.S_drewN | apply Kd.S_drew)); exact Kd.S_mono HO277.out (fun _ hk => trivial), bB⟩
  ·have H1 : (some (([] : List (List Int)), some q273)) = some (r1, r2) := by rw [if_neg (show ¬ (some q273).isNone = true by simp)] at H; exact H
   clear H
   have H := H1
   clear H1
   try simp only [errW_none, errW_some]
   simp only [Option.some.injEq, Prod.mk.injEq] at H
   obtain ⟨rfl, rfl⟩ := H
   go_enter Tryd.func52, Tryd.ntmps52
   go_wp2_with (first | (go_at_call 55; (with_reducible refine (reedsolomon_matrix_IsSquare.calls _ _ l0 true _ ?side1 ?side2 A2.out).mono ?_); (case side1 => repeat (first | exact HR0.out | (with_reducible refine Kd.C_alloc ?_ _) | (with_reducible refine Kd.C_drewN ?_ _) | (with_reducible refine Kd.C_drew ?_))); (case side2 => exact HC0.out); rintro e w' ⟨rfl, ⟨nd, rfl⟩⟩; (try first | exact ⟨rfl, _, World.drewN_drewN _ _ _⟩ | exact ⟨rfl, _, Eq.trans (World.drewN_drewN _ _ _) (congrArg (World.drewN _) (Nat.add_assoc _ _ _))⟩)) | (go_at_call 49; (with_reducible refine (reedsolomon_identityMatrix.calls k (l0.length : Int) t263 t264 _ ?side1 A4.out).mono ?_); (case side1 => exact TabOK.below HT.out bB); rintro e w14 ⟨Tt264, Xt264, v265, rfl, ho0, hb⟩; have n0_ := Aside0.mk (Kd.S_lower ho0 (below_size bB)); have n1_ := Aside0.mk (below_step bB hb); clear HB; have HO266 := n0_; have HB := n1_; clear n0_ n1_; (try clear hb); (try clear hb2); (try clear hk); (try clear hi); (try clear ho0); (try simp only [errW_none, errW_some]); obtain ⟨Ao15, co15, eo15⟩ := Kd.S_slice HO266.out; subst eo15) | (go_at_call 60; (with_reducible refine (reedsolomon_matrix_Augment.calls k _ _ l0 _ _ t263 t267 t268 _ ?side1 ?side2 ?side3 ?side4 ?side5 A5.out).mono ?_); (case side1 => exact TabOK.below HT.out bB); (case side2 => repeat (first | exact (Kd.C_below HR0.out HB.out) | (with_reducible refine Kd.C_alloc ?_ _) | (with_reducible refine Kd.C_drewN ?_ _) | (with_reducible refine Kd.C_drew ?_))); (case side3 => exact HC0.out); (case side4 => repeat (first | exact (Kd.S_reads' HO266.out).2.2 | (with_reducible refine Kd.C_alloc ?_ _) | (with_reducible refine Kd.C_drewN ?_ _) | (with_reducible refine Kd.C_drew ?_))); (case side5 => exact (Kd.S_reads' HO266.out).2.1); rintro e w16 ⟨Tt268, Xt268, v269, rfl, ho0, hb⟩; have n0_ := Aside0.mk (Kd.S_elder' (by (with_reducible repeat (first | apply Kd.S_alloc | apply Kd.S_drewN | apply Kd.S_drew)); exact HO266.out) (Kd.S_base ho0) hb); have n1_ := Aside0.mk (Kd.S_lower (Kd.S_new' ho0 (Kd.S_lt (by (with_reducible repeat (first | apply Kd.S_alloc | apply Kd.S_drewN | apply Kd.S_drew)); exact HO266.out))) (below_size bB)); have n2_ := Aside0.mk (below_step bB hb); clear HO266; clear HB; have HO266 := n0_; have HO270 := n1_; have HB := n2_; clear n0_ n1_ n2_; (try clear hb); (try clear hb2); (try clear hk); (try clear hi); (try clear ho0); (try simp only [errW_none, errW_some]); obtain ⟨Ao17, co17, eo17⟩ := Kd.S_slice HO270.out; subst eo17) | (go_at_call 61; (with_reducible refine (reedsolomon_matrix_gaussianElimination.calls k (fun k_ => (True ∧ some k_ ≠ (.slice Ao15 t263.length co15 : Value).ownBlock)) (.slice Ao17 t267.length co17) t267 (some q273) t272 w _ ?side1 ?side2 ?side3 A6.out).mono ?_); (case side1 => exact HT.out); (case side2 => repeat (first | (with_reducible first | exact HB.out | apply below_alloc | apply pw_below_drewN | apply below_drew1) | exact HB.out)); (case side3 => exact HO270.out); rintro e w18 ⟨Tt271, Xt271, rfl, hy0, hb, hkp⟩; have n0_ := Aside0.mk (Kd.S_mono (ok' := fun k_ => True) hy0 (fun _ _ => trivial)); have n1_ := Aside0.mk (hb); clear HO270; clear HB; clear HO266; have HO270 := n0_; have HB := n1_; clear n0_ n1_; (try clear hb); (try clear hkp); (try clear hy0); (try simp only [errW_none, errW_some])))
   repeat (go_quiet (first | (go_at_call 55; (with_reducible refine (reedsolomon_matrix_IsSquare.calls _ _ l0 true _ ?side1 ?side2 A2.out).mono ?_); (case side1 => repeat (first | exact HR0.out | (with_reducible refine Kd.C_alloc ?_ _) | (with_reducible refine Kd.C_drewN ?_ _) | (with_reducible refine Kd.C_drew ?_))); (case side2 => exact HC0.out); rintro e w' ⟨rfl, ⟨nd, rfl⟩⟩; (try first | exact ⟨rfl, _, World.drewN_drewN _ _ _⟩ | exact ⟨rfl, _, Eq.trans (World.drewN_drewN _ _ _) (congrArg (World.drewN _) (Nat.add_assoc _ _ _))⟩)) | (go_at_call 49; (with_reducible refine (reedsolomon_identityMatrix.calls k (l0.length : Int) t263 t264 _ ?side1 A4.out).mono ?_); (case side1 => exact TabOK.below HT.out bB); rintro e w14 ⟨Tt264, Xt264, v265, rfl, ho0, hb⟩; have n0_ := Aside0.mk (Kd.S_lower ho0 (below_size bB)); have n1_ := Aside0.mk (below_step bB hb); clear HB; have HO266 := n0_; have HB := n1_; clear n0_ n1_; (try clear hb); (try clear hb2); (try clear hk); (try clear hi); (try clear ho0); (try simp only [errW_none, errW_some]); obtain ⟨Ao15, co15, eo15⟩ := Kd.S_slice HO266.out; subst eo15) | (go_at_call 60; (with_reducible refine (reedsolomon_matrix_Augment.calls k _ _ l0 _ _ t263 t267 t268 _ ?side1 ?side2 ?side3 ?side4 ?side5 A5.out).mono ?_); (case side1 => exact TabOK.below HT.out bB); (case side2 => repeat (first | exact (Kd.C_below HR0.out HB.out) | (with_reducible refine Kd.C_alloc ?_ _) | (with_reducible refine Kd.C_drewN ?_ _) | (with_reducible refine Kd.C_drew ?_))); (case side3 => exact HC0.out); (case side4 => repeat (first | exact (Kd.S_reads' HO266.out).2.2 | (with_reducible refine Kd.C_alloc ?_ _) | (with_reducible refine Kd.C_drewN ?_ _) | (with_reducible refine Kd.C_drew ?_))); (case side5 => exact (Kd.S_reads' HO266.out).2.1); rintro e w16 ⟨Tt268, Xt268, v269, rfl, ho0, hb⟩; have n0_ := Aside0.mk (Kd.S_elder' (by (with_reducible repeat (first | apply Kd.S_alloc | apply Kd.S_drewN | apply Kd.S_drew)); exact HO266.out) (Kd.S_base ho0) hb); have n1_ := Aside0.mk (Kd.S_lower (Kd.S_new' ho0 (Kd.S_lt (by (with_reducible repeat (first | apply Kd.S_alloc | apply Kd.S_drewN | apply Kd.S_drew)); exact HO266.out))) (below_size bB)); have n2_ := Aside0.mk (below_step bB hb); clear HO266; clear HB; have HO266 := n0_; have HO270 := n1_; have HB := n2_; clear n0_ n1_ n2_; (try clear hb); (try clear hb2); (try clear hk); (try clear hi); (try clear ho0); (try simp only [errW_none, errW_some]); obtain ⟨Ao17, co17, eo17⟩ := Kd.S_slice HO270.out; subst eo17) | (go_at_call 61; (with_reducible refine (reedsolomon_matrix_gaussianElimination.calls k (fun k_ => (True ∧ some k_ ≠ (.slice Ao15 t263.length co15 : Value).ownBlock)) (.slice Ao17 t267.length co17) t267 (some q273) t272 w _ ?side1 ?side2 ?side3 A6.out).mono ?_); (case side1 => exact HT.out); (case side2 => repeat (first | (with_reducible first | exact HB.out | apply below_alloc | apply pw_below_drewN | apply below_drew1) | exact HB.out)); (case side3 => exact HO270.out); rintro e w18 ⟨Tt271, Xt271, rfl, hy0, hb, hkp⟩; have n0_ := Aside0.mk (Kd.S_mono (ok' := fun k_ => True) hy0 (fun _ _ => trivial)); have n1_ := Aside0.mk (hb); clear HO270; clear HB; clear HO266; have HO270 := n0_; have HB := n1_; clear n0_ n1_; (try clear hb); (try clear hkp); (try clear hy0); (try simp only [errW_none, errW_some]))); try go_wp2_with (first | (go_at_call 55; (with_reducible refine (reedsolomon_matrix_IsSquare.calls _ _ l0 true _ ?side1 ?side2 A2.out).mono ?_); (case side1 => repeat (first | exact HR0.out | (with_reducible refine Kd.C_alloc ?_ _) | (with_reducible refine Kd.C_drewN ?_ _) | (with_reducible refine Kd.C_drew ?_))); (case side2 => exact HC0.out); rintro e w' ⟨rfl, ⟨nd, rfl⟩⟩; (try first | exact ⟨rfl, _, World.drewN_drewN _ _ _⟩ | exact ⟨rfl, _, Eq.trans (World.drewN_drewN _ _ _) (congrArg (World.drewN _) (Nat.add_assoc _ _ _))⟩)) | (go_at_call 49; (with_reducible refine (reedsolomon_identityMatrix.calls k (l0.length : Int) t263 t264 _ ?side1 A4.out).mono ?_); (case side1 => exact TabOK.below HT.out bB); rintro e w14 ⟨Tt264, Xt264, v265, rfl, ho0, hb⟩; have n0_ := Aside0.mk (Kd.S_lower ho0 (below_size bB)); have n1_ := Aside0.mk (below_step bB hb); clear HB; have HO266 := n0_; have HB := n1_; clear n0_ n1_; (try clear hb); (try clear hb2); (try clear hk); (try clear hi); (try clear ho0); (try simp only [errW_none, errW_some]); obtain ⟨Ao15, co15, eo15⟩ := Kd.S_slice HO266.out; subst eo15) | (go_at_call 60; (with_reducible refine (reedsolomon_matrix_Augment.calls k _ _ l0 _ _ t263 t267 t268 _ ?side1 ?side2 ?side3 ?side4 ?side5 A5.out).mono ?_); (case side1 => exact TabOK.below HT.out bB); (case side2 => repeat (first | exact (Kd.C_below HR0.out HB.out) | (with_reducible refine Kd.C_alloc ?_ _) | (with_reducible refine Kd.C_drewN ?_ _) | (with_reducible refine Kd.C_drew ?_))); (case side3 => exact HC0.out); (case side4 => repeat (first | exact (Kd.S_reads' HO266.out).2.2 | (with_reducible refine Kd.C_alloc ?_ _) | (with_reducible refine Kd.C_drewN ?_ _) | (with_reducible refine Kd.C_drew ?_))); (case side5 => exact (Kd.S_reads' HO266.out).2.1); rintro e w16 ⟨Tt268, Xt268, v269, rfl, ho0, hb⟩; have n0_ := Aside0.mk (Kd.S_elder' (by (with_reducible repeat (first | apply Kd.S_alloc | apply Kd.S_drewN | apply Kd.S_drew)); exact HO266.out) (Kd.S_base ho0) hb); have n1_ := Aside0.mk (Kd.S_lower (Kd.S_new' ho0 (Kd.S_lt (by (with_reducible repeat (first | apply Kd.S_alloc | apply Kd.S_drewN | apply Kd.S_drew)); exact HO266.out))) (below_size bB)); have n2_ := Aside0.mk (below_step bB hb); clear HO266; clear HB; have HO266 := n0_; have HO270 := n1_; have HB := n2_; clear n0_ n1_ n2_; (try clear hb); (try clear hb2); (try clear hk); (try clear hi); (try clear ho0); (try simp only [errW_none, errW_some]); obtain ⟨Ao17, co17, eo17⟩ := Kd.S_slice HO270.out; subst eo17) | (go_at_call 61; (with_reducible refine (reedsolomon_matrix_gaussianElimination.calls k (fun k_ => (True ∧ some k_ ≠ (.slice Ao15 t263.length co15 : Value).ownBlock)) (.slice Ao17 t267.length co17) t267 (some q273) t272 w _ ?side1 ?side2 ?side3 A6.out).mono ?_); (case side1 => exact HT.out); (case side2 => repeat (first | (with_reducible first | exact HB.out | apply below_alloc | apply pw_below_drewN | apply below_drew1) | exact HB.out)); (case side3 => exact HO270.out); rintro e w18 ⟨Tt271, Xt271, rfl, hy0, hb, hkp⟩; have n0_ := Aside0.mk (Kd.S_mono (ok' := fun k_ => True) hy0 (fun _ _ => trivial)); have n1_ := Aside0.mk (hb); clear HO270; clear HB; clear HO266; have HO270 := n0_; have HB := n1_; clear n0_ n1_; (try clear hb); (try clear hkp); (try clear hy0); (try simp only [errW_none, errW_some]))))
   go_ret2
   exact ⟨Tt271, Xt271, (.slice none 0 0), by first | rfl | (simp [errW_none, errW_some] <;> rfl) | (simp [*, errW_none, errW_some] <;> rfl), by first | exact Kd.V_nil _ _ _ _ _ | exact Kd.R_nil _ _ _ _ _ | exact Kd.S_nil _ _ _ _ _ | exact Kd.N_nil _ _ _ _ _ | exact Kd.Q_nil _ _ _ _ _, bB⟩
 ·replace c3 := Bool.eq_false_iff.mpr c3
  subst c3
  have H1 : (some (([] : List (List Int)), some 1)) = some (r1, r2) := by rw [if_neg (show ¬ (false = true) by decide)] at H; exact H
  clear H
  have H := H1
  clear H1
  simp only [Option.some.injEq, Prod.mk.injEq] at H
  obtain ⟨rfl, rfl⟩ := H
  go_enter Tryd.func52, Tryd.ntmps52
  go_wp2_with (first | (go_at_call 55; (with_reducible refine (reedsolomon_matrix_IsSquare.calls _ _ l0 false _ ?side1 ?side2 A2.out).mono ?_); (case side1 => repeat (first | exact HR0.out | (with_reducible refine Kd.C_alloc ?_ _) | (with_reducible refine Kd.C_drewN ?_ _) | (with_reducible refine Kd.C_drew ?_))); (case side2 => exact HC0.out); rintro e w' ⟨rfl, ⟨nd, rfl⟩⟩; (try first | exact ⟨rfl, _, World.drewN_drewN _ _ _⟩ | exact ⟨rfl, _, Eq.trans (World.drewN_drewN _ _ _) (congrArg (World.drewN _) (Nat.add_assoc _ _ _))⟩); (try clear hce1_); have hce1_ : w.cell? ⟨1, 0, none⟩ = some (.iface te1_ xe1_) := ((show Below w.heap.size w w from by repeat (first | (with_reducible first | exact HB.out | apply below_alloc | apply pw_below_drewN | apply below_drew1) | exact HB.out)).cell (World.block_lt_of_cell? _ _ HE1_.out)).trans HE1_.out))
  repeat (go_quiet (first | (go_at_call 55; (with_reducible refine (reedsolomon_matrix_IsSquare.calls _ _ l0 false _ ?side1 ?side2 A2.out).mono ?_); (case side1 => repeat (first | exact HR0.out | (with_reducible refine Kd.C_alloc ?_ _) | (with_reducible refine Kd.C_drewN ?_ _) | (with_reducible refine Kd.C_drew ?_))); (case side2 => exact HC0.out); rintro e w' ⟨rfl, ⟨nd, rfl⟩⟩; (try first | exact ⟨rfl, _, World.drewN_drewN _ _ _⟩ | exact ⟨rfl, _, Eq.trans (World.drewN_drewN _ _ _) (congrArg (World.drewN _) (Nat.add_assoc _ _ _))⟩); (try clear hce1_); have hce1_ : w.cell? ⟨1, 0, none⟩ = some (.iface te1_ xe1_) := ((show Below w.heap.size w w from by repeat (first | (with_reducible first | exact HB.out | apply below_alloc | apply pw_below_drewN | apply below_drew1) | exact HB.out)).cell (World.block_lt_of_cell? _ _ HE1_.out)).trans HE1_.out)); try go_wp2_with (first | (go_at_call 55; (with_reducible refine (reedsolomon_matrix_IsSquare.calls _ _ l0 false _ ?side1 ?side2 A2.out).mono ?_); (case side1 => repeat (first | exact HR0.out | (with_reducible refine Kd.C_alloc ?_ _) | (with_reducible refine Kd.C_drewN ?_ _) | (with_reducible refine Kd.C_drew ?_))); (case side2 => exact HC0.out); rintro e w' ⟨rfl, ⟨nd, rfl⟩⟩; (try first | exact ⟨rfl, _, World.drewN_drewN _ _ _⟩ | exact ⟨rfl, _, Eq.trans (World.drewN_drewN _ _ _) (congrArg (World.drewN _) (Nat.add_assoc _ _ _))⟩); (try clear hce1_); have hce1_ : w.cell? ⟨1, 0, none⟩ = some (.iface te1_ xe1_) := ((show Below w.heap.size w w from by repeat (first | (with_reducible first | exact HB.out | apply below_alloc | apply pw_below_drewN | apply below_drew1) | exact HB.out)).cell (World.block_lt_of_cell? _ _ HE1_.out)).trans HE1_.out)))
  go_ret2
  exact ⟨(fun _ => te1_), (fun _ => xe1_), (.slice none 0 0), by first | rfl | (simp [errW_none, errW_some] <;> rfl) | (simp [*, errW_none, errW_some] <;> rfl), by first | exact Kd.V_nil _ _ _ _ _ | exact Kd.R_nil _ _ _ _ _ | exact Kd.S_nil _ _ _ _ _ | exact Kd.N_nil _ _ _ _ _ | exact Kd.Q_nil _ _ _ _ _, bB⟩


/-! ### reedsolomon_DoorInvert: function 40 -/
def reedsolomon_DoorInvert.f (k : Nat) (l0 : List (List Int)) : Option ((List (List Int)) × Option Int) := (reedsolomon_matrix_Invert.f k l0).bind fun bt278 => (some (bt278.1, bt278.2))
theorem reedsolomon_DoorInvert.mono : ∀ a0 k, LeO (reedsolomon_DoorInvert.f k a0) (reedsolomon_DoorInvert.f (k + 1) a0) := by
 intro a0 k
 unfold reedsolomon_DoorInvert.f
 repeat' first
   | (with_reducible exact reedsolomon_matrix_Invert.mono _ _)
   | (with_reducible exact LeO.refl _)
   | (with_reducible exact LeO.none _)
   | (with_reducible refine LeO.ite ?_ ?_)
   | (with_reducible refine LeO.bind ?_ (fun _ => ?_))
   | exact reedsolomon_matrix_Invert.mono _ _
   | exact LeO.none _
   | refine LeO.ite ?_ ?_
   | refine LeO.bind ?_ (fun _ => ?_)
set_option maxHeartbeats 8000000 in
set_option maxRecDepth 100000 in
theorem reedsolomon_DoorInvert.calls (k : Nat) (A0 : Option Addr) (c0 : Nat) (l0 : List (List Int)) (r1 : List (List Int)) (r2 : Option Int) (w : World) (hT : TabOK w) (hr0 : Kd.C (Kd.slice 5 (Kd.int .u8)) w A0 l0.length l0) (hc0 : l0.length ≤ c0) (h : reedsolomon_DoorInvert.f k l0 = some (r1, r2)) :
  Calls Tryd.prog 40 #[.slice A0 l0.length c0] w fun e w' => ∃ (T_ : Int → TypeId) (X_ : Int → Value), ∃ v0_ : Value, e = .returned (.tuple #[v0_, errW T_ X_ r2]) ∧ Kd.S (Kd.slice 5 (Kd.int .u8)) 22 w' w.heap.size (fun _ => True) v0_ r1 ∧ Below w.heap.size w w' := by
 have HT := Aside0.mk hT
 clear hT
 have HR0 := Aside0.mk hr0
 have HC0 := Aside0.mk hc0
 clear hr0 hc0
 have HB := Aside0.mk (Below.refl w.heap.size w)
 have H : ((reedsolomon_matrix_Invert.f k l0).bind fun bt278 => (some (bt278.1, bt278.2))) = some (r1, r2) := h
 clear h
 replace H := Option.bind_eq_some_iff.mp H
 obtain ⟨⟨t278, t279⟩, A20, H⟩ := H
 replace H : (some (t278, t279)) = some (r1, r2) := H
 have A2 := Aside0.mk A20
 clear A20
 simp only [Option.some.injEq, Prod.mk.injEq] at H
 obtain ⟨rfl, rfl⟩ := H
 go_enter Tryd.func40, Tryd.ntmps40
 go_wp2_with (first | ((with_reducible refine gate_callee (f := 52) rfl ?_); refine goesL_ (some 5) rfl rfl Tryd.func52 (by kernel_rfl) rfl #[.slice A0 l0.length c0] rfl aV ?_; (with_reducible refine (reedsolomon_matrix_Invert.calls k _ _ l0 t278 t279 _ ?side1 ?side2 ?side3 A2.out).mono ?_); (case side1 => exact TabOK.below HT.out bB); (case side2 => repeat (first | exact HR0.out | (with_reducible refine Kd.C_alloc ?_ _) | (with_reducible refine Kd.C_drewN ?_ _) | (with_reducible refine Kd.C_drew ?_))); (case side3 => exact HC0.out); rintro e w3 ⟨Tt279, Xt279, v280, rfl, ho0, hb⟩; refine ⟨_, rfl, ?_⟩; have n0_ := Aside0.mk (Kd.S_lower ho0 (below_size bB)); have n1_ := Aside0.mk (below_step bB hb); clear HB; have HO281 := n0_; have HB := n1_; clear n0_ n1_; (try clear hb); (try clear hb2); (try clear hk); (try clear hi); (try clear ho0); (try simp only [errW_none, errW_some])))
 go_ret2
 exact ⟨Tt279, Xt279, _, by first | rfl | (simp [errW_none, errW_some] <;> rfl) | (simp [*, errW_none, errW_some] <;> rfl), by (with_reducible repeat (first | apply Kd.S_alloc | apply Kd.S_drewN | apply Kd.S_drew)); exact HO281.out, bB⟩


/-! ### impl_Invert: function 25 -/
def impl_Invert.f (k : Nat) (l0 : List (List Int)) : Option ((List (List Int)) × Bool) := (impl_isMatrix.f k l0).bind fun t282 => (if t282 = true then ((impl_rows.f k l0).bind fun t283 => ((reedsolomon_DoorInvert.f k t283).bind fun bt286 => ((impl_rows.f k bt286.1).bind fun t290 => (if bt286.2.isNone = true then (some (t290, true)) else (some (t290, false)))))) else (some (([] : List (List Int)), false)))
theorem impl_Invert.mono : ∀ a0 k, LeO (impl_Invert.f k a0) (impl_Invert.f (k + 1) a0) := by
 intro a0 k
 unfold impl_Invert.f
 repeat' first
   | (with_reducible exact impl_isMatrix.mono _ _)
   | (with_reducible exact impl_rows.mono _ _)
   | (with_reducible exact reedsolomon_DoorInvert.mono _ _)
   | (with_reducible exact LeO.refl _)
   | (with_reducible exact LeO.none _)
   | (with_reducible refine LeO.ite ?_ ?_)
   | (with_reducible refine LeO.bind ?_ (fun _ => ?_))
   | exact impl_isMatrix.mono _ _
   | exact impl_rows.mono _ _
   | exact reedsolomon_DoorInvert.mono _ _
   | exact LeO.none _
   | refine LeO.ite ?_ ?_
   | refine LeO.bind ?_ (fun _ => ?_)
set_option maxHeartbeats 8000000 in
set_option maxRecDepth 100000 in
theorem impl_Invert.calls (k : Nat) (A0 : Option Addr) (c0 : Nat) (l0 : List (List Int)) (r1 : List (List Int)) (r2 : Bool) (w : World) (hT : TabOK w) (hr0 : Kd.C (Kd.slice 5 (Kd.int .u8)) w A0 l0.length l0) (hc0 : l0.length ≤ c0) (h : impl_Invert.f k l0 = some (r1, r2)) :
  Calls Tryd.prog 25 #[.slice A0 l0.length c0] w fun e w' => ∃ v0_ : Value, e = .returned (.tuple #[v0_, .bool r2]) ∧ Kd.S (Kd.slice 5 (Kd.int .u8)) 22 w' w.heap.size (fun _ => True) v0_ r1 ∧ Below w.heap.size w w' := by
 have hu60 := Tryd.underlying60
 have HT := Aside0.mk hT
 clear hT
 have HR0 := Aside0.mk hr0
 have HC0 := Aside0.mk hc0
 clear hr0 hc0
 have HB := Aside0.mk (Below.refl w.heap.size w)
 have H : ((impl_isMatrix.f k l0).bind fun t282 => (if t282 = true then ((impl_rows.f k l0).bind fun t283 => ((reedsolomon_DoorInvert.f k t283).bind fun bt286 => ((impl_rows.f k bt286.1).bind fun t290 => (if bt286.2.isNone = true then (some (t290, true)) else (some (t290, false)))))) else (some (([] : List (List Int)), false)))) = some (r1, r2) := h
 clear h
 replace H := Option.bind_eq_some_iff.mp H
 obtain ⟨t282, A20, H⟩ := H
 replace H : (if t282 = true then ((impl_rows.f k l0).bind fun t283 => ((reedsolomon_DoorInvert.f k t283).bind fun bt286 => ((impl_rows.f k bt286.1).bind fun t290 => (if bt286.2.isNone = true then (some (t290, true)) else (some (t290, false)))))) else (some (([] : List (List Int)), false))) = some (r1, r2) := H
 have A2 := Aside0.mk A20
 clear A20
 by_cases c3 : t282 = true
 ·subst c3
  have H1 : ((impl_rows.f k l0).bind fun t283 => ((reedsolomon_DoorInvert.f k t283).bind fun bt286 => ((impl_rows.f k bt286.1).bind fun t290 => (if bt286.2.isNone = true then (some (t290, true)) else (some (t290, false)))))) = some (r1, r2) := by rw [if_pos rfl] at H; exact H
  clear H
  have H := H1
  clear H1
  replace H := Option.bind_eq_some_iff.mp H
  obtain ⟨t283, A40, H⟩ := H
  replace H : ((reedsolomon_DoorInvert.f k t283).bind fun bt286 => ((impl_rows.f k bt286.1).bind fun t290 => (if bt286.2.isNone = true then (some (t290, true)) else (some (t290, false))))) = some (r1, r2) := H
  have A4 := Aside0.mk A40
  clear A40
  replace H := Option.bind_eq_some_iff.mp H
  obtain ⟨⟨t286, t287⟩, A50, H⟩ := H
  replace H : ((impl_rows.f k t286).bind fun t290 => (if t287.isNone = true then (some (t290, true)) else (some (t290, false)))) = some (r1, r2) := H
  have A5 := Aside0.mk A50
  clear A50
  replace H := Option.bind_eq_some_iff.mp H
  obtain ⟨t290, A60, H⟩ := H
  replace H : (if t287.isNone = true then (some (t290, true)) else (some (t290, false))) = some (r1, r2) := H
  have A6 := Aside0.mk A60
  clear A60
  rcases t287 with _ | q293
  ·have H1 : (some (t290, true)) = some (r1, r2) := by rw [if_pos (show (none : Option Int).isNone = true by rfl)] at H; exact H
   clear H
   have H := H1
   clear H1
   try simp only [errW_none, errW_some]
   simp only [Option.some.injEq, Prod.mk.injEq] at H
   obtain ⟨rfl, rfl⟩ := H
   go_enter Tryd.func25, Tryd.ntmps25
   try go_wp2_with (first | ((with_reducible refine gate_callee (f := 38) rfl ?_); refine goesL_ (some 7) rfl rfl Tryd.func38 (by kernel_rfl) rfl #[.slice A0 l0.length c0] rfl aV ?_; (with_reducible refine (impl_isMatrix.calls k _ _ l0 true _ ?side1 ?side2 ?side3 A2.out).mono ?_); (case side1 => exact TabOK.below HT.out bB); (case side2 => repeat (first | exact HR0.out | (with_reducible refine Kd.C_alloc ?_ _) | (with_reducible refine Kd.C_drewN ?_ _) | (with_reducible refine Kd.C_drew ?_))); (case side3 => exact HC0.out); rintro e w' ⟨rfl, ⟨nd, rfl⟩⟩; refine ⟨_, rfl, ?_⟩) | ((with_reducible refine gate_callee (f := 36) rfl ?_); refine goesL_ (some 11) rfl rfl Tryd.func36 (by kernel_rfl) rfl #[.slice A0 l0.length c0] rfl aV ?_; (with_reducible refine (impl_rows.calls k _ _ l0 t283 _ ?side1 ?side2 A4.out).mono ?_); (case side1 => repeat (first | exact HR0.out | (with_reducible refine Kd.C_alloc ?_ _) | (with_reducible refine Kd.C_drewN ?_ _) | (with_reducible refine Kd.C_drew ?_))); (case side2 => exact HC0.out); rintro e w7 ⟨v284, rfl, ho0, hb⟩; refine ⟨_, rfl, ?_⟩; have n0_ := Aside0.mk (Kd.S_lower ho0 (below_size bB)); have n1_ := Aside0.mk (below_step bB hb); clear HB; have HO285 := n0_; have HB := n1_; clear n0_ n1_; (try clear hb); (try clear hb2); (try clear hk); (try clear hi); (try clear ho0); obtain ⟨Ao8, co8, eo8⟩ := Kd.S_slice HO285.out; subst eo8) | ((with_reducible refine gate_callee (f := 40) rfl ?_); refine goesL_ (some 12) rfl rfl Tryd.func40 (by kernel_rfl) rfl #[.slice Ao8 t283.length co8] rfl aV ?_; (with_reducible refine (reedsolomon_DoorInvert.calls k _ _ t283 t286 none _ ?side1 ?side2 ?side3 A5.out).mono ?_); (case side1 => exact TabOK.below HT.out bB); (case side2 => repeat (first | exact (Kd.S_reads' HO285.out).2.2 | (with_reducible refine Kd.C_alloc ?_ _) | (with_reducible refine Kd.C_drewN ?_ _) | (with_reducible refine Kd.C_drew ?_))); (case side3 => exact (Kd.S_reads' HO285.out).2.1); rintro e w9 ⟨Tt287, Xt287, v288, rfl, ho0, hb⟩; refine ⟨_, rfl, ?_⟩; have n0_ := Aside0.mk (Kd.S_elder' (by (with_reducible repeat (first | apply Kd.S_alloc | apply Kd.S_drewN | apply Kd.S_drew)); exact HO285.out) (Kd.S_base ho0) hb); have n1_ := Aside0.mk (Kd.S_lower (Kd.S_new' ho0 (Kd.S_lt (by (with_reducible repeat (first | apply Kd.S_alloc | apply Kd.S_drewN | apply Kd.S_drew)); exact HO285.out))) (below_size bB)); have n2_ := Aside0.mk (below_step bB hb); clear HO285; clear HB; have HO285 := n0_; have HO289 := n1_; have HB := n2_; clear n0_ n1_ n2_; (try clear hb); (try clear hb2); (try clear hk); (try clear hi); (try clear ho0); (try simp only [errW_none, errW_some])))
   have n0_ := Aside0.mk (Kd.S_drew HO285.out)
   have n1_ := Aside0.mk (Kd.S_drew HO289.out)
   have n2_ := Aside0.mk (below_drew1 HB.out)
   clear HO285
   clear HO289
   clear HB
   have HO285 := n0_
   have HO289 := n1_
   have HB := n2_
   clear n0_ n1_ n2_
   obtain ⟨Ao11, co11, eo11⟩ := Kd.S_slice HO289.out
   (first | subst eo11 | (injection eo11 with f1_ f2_ f3_; have f4_ := f1_.symm; have f5_ := f3_.symm; clear f1_ f2_ f3_; subst f4_; subst f5_))
   refine start_ (n := 6) (S := fun w' => True) (ds := []) #[false, false, false, false, false, false] (by kernel_rfl) rfl rfl trivial (fun hHeld => ?_)
   generalize w9.drew = w10 at HO285 HO289 HB hHeld ⊢
   refine pure_ (i := 0) (N := some 15) (v := ?_) (a' := ?_) #[true, false, false, false, false, false] rfl rfl (by kernel_rfl) (fun _ _ _ h => h) (Or.inl ⟨by rfl, ?_⟩) ?_ ?_
   rotate_left
   ·intro w'
    go_simp
    with_reducible rfl
   rotate_left
   ·simp only [Act.put, List.setIfInBounds_toArray, List.set_cons_zero, List.set_cons_succ, i64_w, i32_w]
    rfl
   refine pure_ (i := 2) (N := some 17) (v := ?_) (a' := ?_) #[true, false, true, false, false, false] rfl rfl (by kernel_rfl) (fun _ _ _ h => h) (Or.inl ⟨by rfl, ?_⟩) ?_ ?_
   rotate_left
   ·intro w'
    go_simp
    with_reducible rfl
   rotate_left
   ·simp only [Act.put, List.setIfInBounds_toArray, List.set_cons_zero, List.set_cons_succ, i64_w, i32_w]
    rfl
   refine pure_ (i := 3) (N := some 18) (v := ?_) (a' := ?_) #[true, false, true, true, false, false] rfl rfl (by kernel_rfl) (fun _ _ _ h => h) (Or.inl ⟨by rfl, ?_⟩) ?_ ?_
   rotate_left
   ·intro w'
    go_simp
    with_reducible rfl
   rotate_left
   ·simp only [Act.put, List.setIfInBounds_toArray, List.set_cons_zero, List.set_cons_succ, i64_w, i32_w]
    rfl
   refine one_ (i := 1) (N := some 16) #[true, true, true, true, false, false] rfl rfl (by kernel_rfl) (by decide) (fun K hK => ?_)
   refine goes_ Tryd.func36 (by kernel_rfl) rfl #[.slice Ao11 t286.length co11] (by rfl) rfl rfl aV ?_
   with_reducible refine (impl_rows.calls k _ _ t286 t290 _ ?side1 ?side2 A6.out).mono ?_
   (case side1 => repeat (first | exact (Kd.S_reads' HO289.out).2.2 | (with_reducible refine Kd.C_alloc ?_ _) | (with_reducible refine Kd.C_drewN ?_ _) | (with_reducible refine Kd.C_drew ?_)))
   (case side2 => exact (Kd.S_reads' HO289.out).2.1)
   rintro e w12 ⟨v291, rfl, ho0, hb⟩
   refine ⟨_, rfl, ?_⟩
   have n0_ := Aside0.mk (Kd.S_elder' (by (with_reducible repeat (first | apply Kd.S_alloc | apply Kd.S_drewN | apply Kd.S_drew)); exact HO285.out) (Kd.S_base ho0) hb)
   have n1_ := Aside0.mk (Kd.S_elder' (by (with_reducible repeat (first | apply Kd.S_alloc | apply Kd.S_drewN | apply Kd.S_drew)); exact HO289.out) (Kd.S_base ho0) hb)
   have n2_ := Aside0.mk (Kd.S_lower (Kd.S_new' (Kd.S_new' ho0 (Kd.S_lt (by (with_reducible repeat (first | apply Kd.S_alloc | apply Kd.S_drewN | apply Kd.S_drew)); exact HO285.out))) (Kd.S_lt (by (with_reducible repeat (first | apply Kd.S_alloc | apply Kd.S_drewN | apply Kd.S_drew)); exact HO289.out))) (below_size bB))
   have n3_ := Aside0.mk (below_step bB hb)
   clear HO285
   clear HO289
   clear HB
   have HO285 := n0_
   have HO289 := n1_
   have HO292 := n2_
   have HB := n3_
   clear n0_ n1_ n2_ n3_
   (try clear hb)
   (try clear hb2)
   (try clear hk)
   (try clear hi)
   (try clear ho0)
   refine hK.out _ _ trivial (fun hHeld => ?_)
   clear hK K
   refine norm_ (a' := ?_) ?_ ?_
   rotate_left
   ·show Act.put _ (some 16) _ = _
    simp only [Act.put, List.setIfInBounds_toArray, List.set_cons_zero, List.set_cons_succ, i64_w, i32_w]
    rfl
   refine pure_ (i := 4) (N := some 2) (v := ?_) (a' := ?_) #[true, true, true, true, true, false] rfl rfl (by kernel_rfl) (fun _ _ _ h => h) (Or.inl ⟨by rfl, ?_⟩) ?_ ?_
   rotate_left
   ·intro w'
    go_simp
    with_reducible rfl
   rotate_left
   ·simp only [Act.put, List.setIfInBounds_toArray, List.set_cons_zero, List.set_cons_succ, i64_w, i32_w]
    rfl
   refine pure_ (i := 5) (N := some 3) (v := ?_) (a' := ?_) #[true, true, true, true, true, true] rfl rfl (by kernel_rfl) (fun _ _ _ h => h) (Or.inl ⟨by rfl, ?_⟩) ?_ ?_
   rotate_left
   ·intro w'
    go_simp
    with_reducible rfl
   rotate_left
   ·simp only [Act.put, List.setIfInBounds_toArray, List.set_cons_zero, List.set_cons_succ, i64_w, i32_w]
    rfl
   refine done_ (by kernel_rfl) ?_
   try go_wp2
   go_ret2
   exact ⟨_, by first | rfl | (simp [errW_none, errW_some] <;> rfl) | (simp [*, errW_none, errW_some] <;> rfl), by (with_reducible repeat (first | apply Kd.S_alloc | apply Kd.S_drewN | apply Kd.S_drew)); exact Kd.S_mono HO292.out (fun _ hk => trivial), bB⟩
  ·have H1 : (some (t290, false)) = some (r1, r2) := by rw [if_neg (show ¬ (some q293).isNone = true by simp)] at H; exact H
   clear H
   have H := H1
   clear H1
   try simp only [errW_none, errW_some]
   simp only [Option.some.injEq, Prod.mk.injEq] at H
   obtain ⟨rfl, rfl⟩ := H
   go_enter Tryd.func25, Tryd.ntmps25
   try go_wp2_with (first | ((with_reducible refine gate_callee (f := 38) rfl ?_); refine goesL_ (some 7) rfl rfl Tryd.func38 (by kernel_rfl) rfl #[.slice A0 l0.length c0] rfl aV ?_; (with_reducible refine (impl_isMatrix.calls k _ _ l0 true _ ?side1 ?side2 ?side3 A2.out).mono ?_); (case side1 => exact TabOK.below HT.out bB); (case side2 => repeat (first | exact HR0.out | (with_reducible refine Kd.C_alloc ?_ _) | (with_reducible refine Kd.C_drewN ?_ _) | (with_reducible refine Kd.C_drew ?_))); (case side3 => exact HC0.out); rintro e w' ⟨rfl, ⟨nd, rfl⟩⟩; refine ⟨_, rfl, ?_⟩) | ((with_reducible refine gate_callee (f := 36) rfl ?_); refine goesL_ (some 11) rfl rfl Tryd.func36 (by kernel_rfl) rfl #[.slice A0 l0.length c0] rfl aV ?_; (with_reducible refine (impl_rows.calls k _ _ l0 t283 _ ?side1 ?side2 A4.out).mono ?_); (case side1 => repeat (first | exact HR0.out | (with_reducible refine Kd.C_alloc ?_ _) | (with_reducible refine Kd.C_drewN ?_ _) | (with_reducible refine Kd.C_drew ?_))); (case side2 => exact HC0.out); rintro e w13 ⟨v284, rfl, ho0, hb⟩; refine ⟨_, rfl, ?_⟩; have n0_ := Aside0.mk (Kd.S_lower ho0 (below_size bB)); have n1_ := Aside0.mk (below_step bB hb); clear HB; have HO285 := n0_; have HB := n1_; clear n0_ n1_; (try clear hb); (try clear hb2); (try clear hk); (try clear hi); (try clear ho0); obtain ⟨Ao14, co14, eo14⟩ := Kd.S_slice HO285.out; subst eo14) | ((with_reducible refine gate_callee (f := 40) rfl ?_); refine goesL_ (some 12) rfl rfl Tryd.func40 (by kernel_rfl) rfl #[.slice Ao14 t283.length co14] rfl aV ?_; (with_reducible refine (reedsolomon_DoorInvert.calls k _ _ t283 t286 (some q293) _ ?side1 ?side2 ?side3 A5.out).mono ?_); (case side1 => exact TabOK.below HT.out bB); (case side2 => repeat (first | exact (Kd.S_reads' HO285.out).2.2 | (with_reducible refine Kd.C_alloc ?_ _) | (with_reducible refine Kd.C_drewN ?_ _) | (with_reducible refine Kd.C_drew ?_))); (case side3 => exact (Kd.S_reads' HO285.out).2.1); rintro e w15 ⟨Tt287, Xt287, v288, rfl, ho0, hb⟩; refine ⟨_, rfl, ?_⟩; have n0_ := Aside0.mk (Kd.S_elder' (by (with_reducible repeat (first | apply Kd.S_alloc | apply Kd.S_drewN | apply Kd.S_drew)); exact HO285.out) (Kd.S_base ho0) hb); have n1_ := Aside0.mk (Kd.S_lower (Kd.S_new' ho0 (Kd.S_lt (by (with_reducible repeat (first | apply Kd.S_alloc | apply Kd.S_drewN | apply Kd.S_drew)); exact HO285.out))) (below_size bB)); have n2_ := Aside0.mk (below_step bB hb); clear HO285; clear HB; have HO285 := n0_; have HO289 := n1_; have HB := n2_; clear n0_ n1_ n2_; (try clear hb); (try clear hb2); (try clear hk); (try clear hi); (try clear ho0); (try simp only [errW_none, errW_some])))
   have n0_ := Aside0.mk (Kd.S_drew HO285.out)
   have n1_ := Aside0.mk (Kd.S_drew HO289.out)
   have n2_ := Aside0.mk (below_drew1 HB.out)
   clear HO285
   clear HO289
   clear HB
   have HO285 := n0_
   have HO289 := n1_
   have HB := n2_
   clear n0_ n1_ n2_
   obtain ⟨Ao17, co17, eo17⟩ := Kd.S_slice HO289.out
   (first | subst eo17 | (injection eo17 with f1_ f2_ f3_; have f4_ := f1_.symm; have f5_ := f3_.symm; clear f1_ f2_ f3_; subst f4_; subst f5_))
   refine start_ (n := 6) (S := fun w' => True) (ds := []) #[false, false, false, false, false, false] (by kernel_rfl) rfl rfl trivial (fun hHeld => ?_)
   generalize w15.drew = w16 at HO285 HO289 HB hHeld ⊢
   refine pure_ (i := 0) (N := some 15) (v := ?_) (a' := ?_) #[true, false, false, false, false, false] rfl rfl (by kernel_rfl) (fun _ _ _ h => h) (Or.inl ⟨by rfl, ?_⟩) ?_ ?_
   rotate_left
   ·intro w'
    go_simp
    with_reducible rfl
   rotate_left
   ·simp only [Act.put, List.setIfInBounds_toArray, List.set_cons_zero, List.set_cons_succ, i64_w, i32_w]
    rfl
   refine pure_ (i := 2) (N := some 17) (v := ?_) (a' := ?_) #[true, false, true, false, false, false] rfl rfl (by kernel_rfl) (fun _ _ _ h => h) (Or.inl ⟨by rfl, ?_⟩) ?_ ?_
   rotate_left
   ·intro w'
    go_simp
    with_reducible rfl
   rotate_left
   ·simp only [Act.put, List.setIfInBounds_toArray, List.set_cons_zero, List.set_cons_succ, i64_w, i32_w]
    rfl
   refine pure_ (i := 3) (N := some 18) (v := ?_) (a' := ?_) #[true, false, true, true, false, false] rfl rfl (by kernel_rfl) (fun _ _ _ h => h) (Or.inl ⟨by rfl, ?_⟩) ?_ ?_
   rotate_left
   ·intro w'
    go_simp
    with_reducible rfl
   rotate_left
   ·simp only [Act.put, List.setIfInBounds_toArray, List.set_cons_zero, List.set_cons_succ, i64_w, i32_w]
    rfl
   refine one_ (i := 1) (N := some 16) #[true, true, true, true, false, false] rfl rfl (by kernel_rfl) (by decide) (fun K hK => ?_)
   refine goes_ Tryd.func36 (by kernel_rfl) rfl #[.slice Ao17 t286.length co17] (by rfl) rfl rfl aV ?_
   with_reducible refine (impl_rows.calls k _ _ t286 t290 _ ?side1 ?side2 A6.out).mono ?_
   (case side1 => repeat (first | exact (Kd.S_reads' HO289.out).2.2 | (with_reducible refine Kd.C_alloc ?_ _) | (with_reducible refine Kd.C_drewN ?_ _) | (with_reducible refine Kd.C_drew ?_)))
   (case side2 => exact (Kd.S_reads' HO289.out).2.1)
   rintro e w18 ⟨v291, rfl, ho0, hb⟩
   refine ⟨_, rfl, ?_⟩
   have n0_ := Aside0.mk (Kd.S_elder' (by (with_reducible repeat (first | apply Kd.S_alloc | apply Kd.S_drewN | apply Kd.S_drew)); exact HO285.out) (Kd.S_base ho0) hb)
   have n1_ := Aside0.mk (Kd.S_elder' (by (with_reducible repeat (first | apply Kd.S_alloc | apply Kd.S_drewN | apply Kd.S_drew)); exact HO289.out) (Kd.S_base ho0) hb)
   have n2_ := Aside0.mk (Kd.S_lower (Kd.S_new' (Kd.S_new' ho0 (Kd.S_lt (by (with_reducible repeat (first | apply Kd.S_alloc | apply Kd.S_drewN | apply Kd.S_drew)); exact HO285.out))) (Kd.S_lt (by (with_reducible repeat (first | apply Kd.S_alloc | apply Kd.S_drewN | apply Kd.S_drew)); exact HO289.out))) (below_size bB))
   have n3_ := Aside0.mk (below_step bB hb)
   clear HO285
   clear HO289
   clear HB
   have HO285 := n0_
   have HO289 := n1_
   have HO292 := n2_
   have HB := n3_
   clear n0_ n1_ n2_ n3_
   (try clear hb)
   (try clear hb2)
   (try clear hk)
   (try clear hi)
   (try clear ho0)
   refine hK.out _ _ trivial (fun hHeld => ?_)
   clear hK K
   refine norm_ (a' := ?_) ?_ ?_
   rotate_left
   ·show Act.put _ (some 16) _ = _
    simp only [Act.put, List.setIfInBounds_toArray, List.set_cons_zero, List.set_cons_succ, i64_w, i32_w]
    rfl
   refine pure_ (i := 4) (N := some 2) (v := ?_) (a' := ?_) #[true, true, true, true, true, false] rfl rfl (by kernel_rfl) (fun _ _ _ h => h) (Or.inl ⟨by rfl, ?_⟩) ?_ ?_
   rotate_left
   ·intro w'
    go_simp
    with_reducible rfl
   rotate_left
   ·simp only [Act.put, List.setIfInBounds_toArray, List.set_cons_zero, List.set_cons_succ, i64_w, i32_w]
    rfl
   refine pure_ (i := 5) (N := some 3) (v := ?_) (a' := ?_) #[true, true, true, true, true, true] rfl rfl (by kernel_rfl) (fun _ _ _ h => h) (Or.inl ⟨by rfl, ?_⟩) ?_ ?_
   rotate_left
   ·intro w'
    go_simp
    with_reducible rfl
   rotate_left
   ·simp only [Act.put, List.setIfInBounds_toArray, List.set_cons_zero, List.set_cons_succ, i64_w, i32_w]
    rfl
   refine done_ (by kernel_rfl) ?_
   try go_wp2
   go_ret2
   exact ⟨_, by first | rfl | (simp [errW_none, errW_some] <;> rfl) | (simp [*, errW_none, errW_some] <;> rfl), by (with_reducible repeat (first | apply Kd.S_alloc | apply Kd.S_drewN | apply Kd.S_drew)); exact Kd.S_mono HO292.out (fun _ hk => trivial), bB⟩
 ·replace c3 := Bool.eq_false_iff.mpr c3
  subst c3
  have H1 : (some (([] : List (List Int)), false)) = some (r1, r2) := by rw [if_neg (show ¬ (false = true) by decide)] at H; exact H
  clear H
  have H := H1
  clear H1
  simp only [Option.some.injEq, Prod.mk.injEq] at H
  obtain ⟨rfl, rfl⟩ := H
  go_enter Tryd.func25, Tryd.ntmps25
  go_wp2_with (first | ((with_reducible refine gate_callee (f := 38) rfl ?_); refine goesL_ (some 7) rfl rfl Tryd.func38 (by kernel_rfl) rfl #[.slice A0 l0.length c0] rfl aV ?_; (with_reducible refine (impl_isMatrix.calls k _ _ l0 false _ ?side1 ?side2 ?side3 A2.out).mono ?_); (case side1 => exact TabOK.below HT.out bB); (case side2 => repeat (first | exact HR0.out | (with_reducible refine Kd.C_alloc ?_ _) | (with_reducible refine Kd.C_drewN ?_ _) | (with_reducible refine Kd.C_drew ?_))); (case side3 => exact HC0.out); rintro e w' ⟨rfl, ⟨nd, rfl⟩⟩; refine ⟨_, rfl, ?_⟩))
  go_ret2
  exact ⟨(.slice none 0 0), by first | rfl | (simp [errW_none, errW_some] <;> rfl) | (simp [*, errW_none, errW_some] <;> rfl), by first | exact Kd.V_nil _ _ _ _ _ | exact Kd.R_nil _ _ _ _ _ | exact Kd.S_nil _ _ _ _ _ | exact Kd.N_nil _ _ _ _ _ | exact Kd.Q_nil _ _ _ _ _, bB⟩


/-! ### laws_FnMatrixInvertsProducts: function 8 -/
mutual
def laws_FnMatrixInvertsProducts.j0 : Nat → List (List Int) → List (List Int) → Bool → Option (Bool)
 | 0, _, _, _ => none
 | k + 1, x0, x1, x24 => if x24 = true then (some true) else ((laws_moderate.f k (([x0, x1] : List (List (List Int))))).bind fun t299 => (if t299 = true then ((spec_Rectangular.f k x0).bind fun t300 => (if t300 = true then ((spec_Rectangular.f k x1).bind fun t301 => (if t301 = true then ((spec_Columns.f x0).bind fun t302 => (if t302 = (x0.length : Int) then (if (x1.length : Int) = (x0.length : Int) then ((spec_Columns.f x1).bind fun t303 => (laws_FnMatrixInvertsProducts.j1 k x0 x1 (t303 != (x0.length : Int)))) else (laws_FnMatrixInvertsProducts.j1 k x0 x1 true)) else (laws_FnMatrixInvertsProducts.j1 k x0 x1 true))) else (laws_FnMatrixInvertsProducts.j1 k x0 x1 true))) else (laws_FnMatrixInvertsProducts.j1 k x0 x1 true))) else (laws_FnMatrixInvertsProducts.j1 k x0 x1 true)))
def laws_FnMatrixInvertsProducts.j1 : Nat → List (List Int) → List (List Int) → Bool → Option (Bool)
 | 0, _, _, _ => none
 | k + 1, x0, x1, x60 => if x60 = true then (some true) else ((impl_Multiply.f k x0 x1).bind fun bt304 => ((impl_Invert.f k bt304.1).bind fun bt308 => ((impl_Invert.f k x0).bind fun bt312 => ((impl_Invert.f k x1).bind fun bt316 => (if bt304.2 = true then (if bt312.2 = true then (laws_FnMatrixInvertsProducts.j2 k x0 bt308.1 bt308.2 bt312.1 bt316.1 (bt308.2 != bt316.2)) else (laws_FnMatrixInvertsProducts.j2 k x0 bt308.1 bt308.2 bt312.1 bt316.1 (bt308.2 != false))) else (laws_FnMatrixInvertsProducts.j2 k x0 bt308.1 bt308.2 bt312.1 bt316.1 true))))))
def laws_FnMatrixInvertsProducts.j2 : Nat → List (List Int) → List (List Int) → Bool → List (List Int) → List (List Int) → Bool → Option (Bool)
 | 0, _, _, _, _, _, _ => none
 | k + 1, x0, x7, x8, x9, x11, x91 => if x91 = true then (some false) else (if x8 = true then ((impl_Multiply.f k x11 x9).bind fun bt320 => ((impl_Invert.f k x9).bind fun bt324 => (if bt320.2 = true then (if bt324.2 = true then ((spec_EqualMatrices.f k x7 bt320.1).bind fun t328 => (if t328 = true then ((spec_EqualMatrices.f k bt324.1 x0).bind fun t329 => (some t329)) else (some false))) else (some false)) else (some false)))) else (some true))
end
def laws_FnMatrixInvertsProducts.f (k : Nat) (l0 : List (List Int)) (l1 : List (List Int)) : Option (Bool) := (laws_zzFits2.f k l0).bind fun t294 => (if t294 = true then ((laws_zzFits2.f k l1).bind fun t295 => (laws_FnMatrixInvertsProducts.j0 k l0 l1 (!t295))) else (laws_FnMatrixInvertsProducts.j0 k l0 l1 true))
theorem laws_FnMatrixInvertsProducts.mono_l : ∀ k, (∀ y0 y1 y2, LeO (laws_FnMatrixInvertsProducts.j0 k y0 y1 y2) (laws_FnMatrixInvertsProducts.j0 (k + 1) y0 y1 y2)) ∧ (∀ y0 y1 y2, LeO (laws_FnMatrixInvertsProducts.j1 k y0 y1 y2) (laws_FnMatrixInvertsProducts.j1 (k + 1) y0 y1 y2)) ∧ (∀ y0 y1 y2 y3 y4 y5, LeO (laws_FnMatrixInvertsProducts.j2 k y0 y1 y2 y3 y4 y5) (laws_FnMatrixInvertsProducts.j2 (k + 1) y0 y1 y2 y3 y4 y5))
 | 0 => ⟨fun _ _ _ r h => by simp [laws_FnMatrixInvertsProducts.j0] at h, fun _ _ _ r h => by simp [laws_FnMatrixInvertsProducts.j1] at h, fun _ _ _ _ _ _ r h => by simp [laws_FnMatrixInvertsProducts.j2] at h⟩
 | k + 1 => by
  obtain ⟨ih0, ih1, ih2⟩ := laws_FnMatrixInvertsProducts.mono_l k
  refine ⟨?_, ?_, ?_⟩
  ·intro y0 y1 y2
   unfold laws_FnMatrixInvertsProducts.j0
   repeat' first
   | (with_reducible exact ih0 _ _ _)
   | (with_reducible exact ih1 _ _ _)
   | (with_reducible exact ih2 _ _ _ _ _ _)
   | (with_reducible exact impl_Invert.mono _ _)
   | (with_reducible exact impl_Multiply.mono _ _ _)
   | (with_reducible exact laws_moderate.mono _ _)
   | (with_reducible exact laws_zzFits2.mono _ _)
   | (with_reducible exact spec_EqualMatrices.mono _ _ _)
   | (with_reducible exact spec_Rectangular.mono _ _)
   | (with_reducible exact LeO.refl _)
   | (with_reducible exact LeO.none _)
   | (with_reducible refine LeO.ite ?_ ?_)
   | (with_reducible refine LeO.bind ?_ (fun _ => ?_))
   | exact ih0 _ _ _
   | exact ih1 _ _ _
   | exact ih2 _ _ _ _ _ _
   | exact impl_Invert.mono _ _
   | exact impl_Multiply.mono _ _ _
   | exact laws_moderate.mono _ _
   | exact laws_zzFits2.mono _ _
   | exact spec_EqualMatrices.mono _ _ _
   | exact spec_Rectangular.mono _ _
   | exact LeO.none _
   | refine LeO.ite ?_ ?_
   | refine LeO.bind ?_ (fun _ => ?_)
  ·intro y0 y1 y2
   unfold laws_FnMatrixInvertsProducts.j1
   repeat' first
   | (with_reducible exact ih0 _ _ _)
   | (with_reducible exact ih1 _ _ _)
   | (with_reducible exact ih2 _ _ _ _ _ _)
   | (with_reducible exact impl_Invert.mono _ _)
   | (with_reducible exact impl_Multiply.mono _ _ _)
   | (with_reducible exact laws_moderate.mono _ _)
   | (with_reducible exact laws_zzFits2.mono _ _)
   | (with_reducible exact spec_EqualMatrices.mono _ _ _)
   | (with_reducible exact spec_Rectangular.mono _ _)
   | (with_reducible exact LeO.refl _)
   | (with_reducible exact LeO.none _)
   | (with_reducible refine LeO.ite ?_ ?_)
   | (with_reducible refine LeO.bind ?_ (fun _ => ?_))
   | exact ih0 _ _ _
   | exact ih1 _ _ _
   | exact ih2 _ _ _ _ _ _
   | exact impl_Invert.mono _ _
   | exact impl_Multiply.mono _ _ _
   | exact laws_moderate.mono _ _
   | exact laws_zzFits2.mono _ _
   | exact spec_EqualMatrices.mono _ _ _
   | exact spec_Rectangular.mono _ _
   | exact LeO.none _
   | refine LeO.ite ?_ ?_
   | refine LeO.bind ?_ (fun _ => ?_)
  ·intro y0 y1 y2 y3 y4 y5
   unfold laws_FnMatrixInvertsProducts.j2
   repeat' first
   | (with_reducible exact ih0 _ _ _)
   | (with_reducible exact ih1 _ _ _)
   | (with_reducible exact ih2 _ _ _ _ _ _)
   | (with_reducible exact impl_Invert.mono _ _)
   | (with_reducible exact impl_Multiply.mono _ _ _)
   | (with_reducible exact laws_moderate.mono _ _)
   | (with_reducible exact laws_zzFits2.mono _ _)
   | (with_reducible exact spec_EqualMatrices.mono _ _ _)
   | (with_reducible exact spec_Rectangular.mono _ _)
   | (with_reducible exact LeO.refl _)
   | (with_reducible exact LeO.none _)
   | (with_reducible refine LeO.ite ?_ ?_)
   | (with_reducible refine LeO.bind ?_ (fun _ => ?_))
   | exact ih0 _ _ _
   | exact ih1 _ _ _
   | exact ih2 _ _ _ _ _ _
   | exact impl_Invert.mono _ _
   | exact impl_Multiply.mono _ _ _
   | exact laws_moderate.mono _ _
   | exact laws_zzFits2.mono _ _
   | exact spec_EqualMatrices.mono _ _ _
   | exact spec_Rectangular.mono _ _
   | exact LeO.none _
   | refine LeO.ite ?_ ?_
   | refine LeO.bind ?_ (fun _ => ?_)
theorem laws_FnMatrixInvertsProducts.mono : ∀ a0 a1 k, LeO (laws_FnMatrixInvertsProducts.f k a0 a1) (laws_FnMatrixInvertsProducts.f (k + 1) a0 a1) := by
 intro a0 a1 k
 obtain ⟨ih0, ih1, ih2⟩ := laws_FnMatrixInvertsProducts.mono_l k
 unfold laws_FnMatrixInvertsProducts.f
 repeat' first
   | (with_reducible exact ih0 _ _ _)
   | (with_reducible exact ih1 _ _ _)
   | (with_reducible exact ih2 _ _ _ _ _ _)
   | (with_reducible exact impl_Invert.mono _ _)
   | (with_reducible exact impl_Multiply.mono _ _ _)
   | (with_reducible exact laws_moderate.mono _ _)
   | (with_reducible exact laws_zzFits2.mono _ _)
   | (with_reducible exact spec_EqualMatrices.mono _ _ _)
   | (with_reducible exact spec_Rectangular.mono _ _)
   | (with_reducible exact LeO.refl _)
   | (with_reducible exact LeO.none _)
   | (with_reducible refine LeO.ite ?_ ?_)
   | (with_reducible refine LeO.bind ?_ (fun _ => ?_))
   | exact ih0 _ _ _
   | exact ih1 _ _ _
   | exact ih2 _ _ _ _ _ _
   | exact impl_Invert.mono _ _
   | exact impl_Multiply.mono _ _ _
   | exact laws_moderate.mono _ _
   | exact laws_zzFits2.mono _ _
   | exact spec_EqualMatrices.mono _ _ _
   | exact spec_Rectangular.mono _ _
   | exact LeO.none _
   | refine LeO.ite ?_ ?_
   | refine LeO.bind ?_ (fun _ => ?_)
set_option maxHeartbeats 8000000 in
set_option maxRecDepth 100000 in
theorem laws_FnMatrixInvertsProducts.calls (k : Nat) (P0_ : Nat → Prop) (A0 : Option Addr) (c0 : Nat) (l0 : List (List Int)) (P1_ : Nat → Prop) (A1 : Option Addr) (c1 : Nat) (l1 : List (List Int)) (r : Bool) (w : World) (hT : TabOK w) (hs0 : Kd.V (Kd.slice 5 (Kd.int .u8)) 22 w w.heap.size (fun k_ => P0_ k_) (.slice A0 l0.length c0) l0) (hs1 : Kd.V (Kd.slice 5 (Kd.int .u8)) 22 w w.heap.size (fun k_ => P1_ k_) (.slice A1 l1.length c1) l1) (h : laws_FnMatrixInvertsProducts.f k l0 l1 = some r) :
  Calls Tryd.prog 8 #[.slice A0 l0.length c0, .slice A1 l1.length c1] w fun e w' => e = .returned (.bool r) ∧ Below w.heap.size w w' := by
 have HT := Aside0.mk hT
 clear hT
 have HO0 := Aside0.mk (show Kd.V (Kd.slice 5 (Kd.int .u8)) 22 w w.heap.size (fun k_ => ((P0_ k_ ∨ P1_ k_) ∨ w.heap.size ≤ k_)) (.slice A0 l0.length c0) l0 from Kd.V_mono hs0 (fun k_ hk => .inl (.inl hk)))
 have HO1 := Aside0.mk (show Kd.V (Kd.slice 5 (Kd.int .u8)) 22 w w.heap.size (fun k_ => ((P0_ k_ ∨ P1_ k_) ∨ w.heap.size ≤ k_)) (.slice A1 l1.length c1) l1 from Kd.V_mono hs1 (fun k_ hk => .inl (.inr hk)))
 have HB := Aside0.mk (Below.refl w.heap.size w)
 have H : ((laws_zzFits2.f k l0).bind fun t294 => (if t294 = true then ((laws_zzFits2.f k l1).bind fun t295 => (laws_FnMatrixInvertsProducts.j0 k l0 l1 (!t295))) else (laws_FnMatrixInvertsProducts.j0 k l0 l1 true))) = some r := h
 clear h
 have HC3 := Aside0.mk H
 clear H
 go_enter Tryd.func8, Tryd.ntmps8
 go_upto_region 1 with (fail)
 go_cut [24] (fun v24 wc => ∃ (kq : Nat) (x24_2 : Bool), v24 = .bool x24_2 ∧ Aside0 (laws_FnMatrixInvertsProducts.j0 kq l0 l1 x24_2 = some r) ∧ Aside0 (kq ≤ k) ∧ Aside0 (Kd.V (Kd.slice 5 (Kd.int .u8)) 22 wc w.heap.size (fun k_ => ((P0_ k_ ∨ P1_ k_) ∨ w.heap.size ≤ k_)) (.slice A0 l0.length c0) l0) ∧ Aside0 (Kd.V (Kd.slice 5 (Kd.int .u8)) 22 wc w.heap.size (fun k_ => ((P0_ k_ ∨ P1_ k_) ∨ w.heap.size ≤ k_)) (.slice A1 l1.length c1) l1) ∧ Aside0 (Below w.heap.size w wc))
 case first =>
  have H := HC3.out
  clear HC3
  replace H := Option.bind_eq_some_iff.mp H
  obtain ⟨t294, A40, H⟩ := H
  replace H : (if t294 = true then ((laws_zzFits2.f k l1).bind fun t295 => (laws_FnMatrixInvertsProducts.j0 k l0 l1 (!t295))) else (laws_FnMatrixInvertsProducts.j0 k l0 l1 true)) = some r := H
  have A4 := Aside0.mk A40
  clear A40
  by_cases c5 : t294 = true
  ·subst c5
   have H1 : ((laws_zzFits2.f k l1).bind fun t295 => (laws_FnMatrixInvertsProducts.j0 k l0 l1 (!t295))) = some r := by rw [if_pos rfl] at H; exact H
   clear H
   have H := H1
   clear H1
   replace H := Option.bind_eq_some_iff.mp H
   obtain ⟨t295, A60, H⟩ := H
   replace H : (laws_FnMatrixInvertsProducts.j0 k l0 l1 (!t295)) = some r := H
   have A6 := Aside0.mk A60
   clear A60
   have H' := Aside0.mk H
   clear H
   go_wp2_with (first | ((with_reducible refine gate_callee (f := 19) rfl ?_); refine goesL_ (some 18) rfl rfl Tryd.func19 (by kernel_rfl) rfl #[.slice A0 l0.length c0] rfl aV ?_; (with_reducible refine (laws_zzFits2.calls k _ _ l0 true _ ?side1 ?side2 A4.out).mono ?_); (case side1 => repeat (first | exact (Kd.V_reads' HO0.out).2.2 | (with_reducible refine Kd.C_alloc ?_ _) | (with_reducible refine Kd.C_drewN ?_ _) | (with_reducible refine Kd.C_drew ?_))); (case side2 => exact (Kd.V_reads' HO0.out).2.1); rintro e w' ⟨rfl, ⟨nd, rfl⟩⟩; refine ⟨_, rfl, ?_⟩) | (go_at_call 19; (with_reducible refine (laws_zzFits2.calls k _ _ l1 t295 _ ?side1 ?side2 A6.out).mono ?_); (case side1 => repeat (first | exact (Kd.V_reads' HO1.out).2.2 | (with_reducible refine Kd.C_alloc ?_ _) | (with_reducible refine Kd.C_drewN ?_ _) | (with_reducible refine Kd.C_drew ?_))); (case side2 => exact (Kd.V_reads' HO1.out).2.1); rintro e w' ⟨rfl, ⟨nd, rfl⟩⟩))
   go_meet
   case rel => exact ⟨_, (!t295), (by first | rfl | (simp; done) | (simp [*]; done)), H', ⟨by first | omega | exact Nat.le_refl _⟩, ⟨kV HO0.out⟩, ⟨kV HO1.out⟩, ⟨bB⟩⟩
  ·replace c5 := Bool.eq_false_iff.mpr c5
   subst c5
   have H1 : (laws_FnMatrixInvertsProducts.j0 k l0 l1 true) = some r := by rw [if_neg (show ¬ (false = true) by decide)] at H; exact H
   clear H
   have H := H1
   clear H1
   have H' := Aside0.mk H
   clear H
   go_wp2_with (first | ((with_reducible refine gate_callee (f := 19) rfl ?_); refine goesL_ (some 18) rfl rfl Tryd.func19 (by kernel_rfl) rfl #[.slice A0 l0.length c0] rfl aV ?_; (with_reducible refine (laws_zzFits2.calls k _ _ l0 false _ ?side1 ?side2 A4.out).mono ?_); (case side1 => repeat (first | exact (Kd.V_reads' HO0.out).2.2 | (with_reducible refine Kd.C_alloc ?_ _) | (with_reducible refine Kd.C_drewN ?_ _) | (with_reducible refine Kd.C_drew ?_))); (case side2 => exact (Kd.V_reads' HO0.out).2.1); rintro e w' ⟨rfl, ⟨nd, rfl⟩⟩; refine ⟨_, rfl, ?_⟩))
   go_meet
   case rel => exact ⟨_, (true), (by first | rfl | (simp; done) | (simp [*]; done)), H', ⟨by first | omega | exact Nat.le_refl _⟩, ⟨kV HO0.out⟩, ⟨kV HO1.out⟩, ⟨bB⟩⟩
 case rest =>
  clear HC3
  try clear c1
  try clear p2
  try clear c5
  obtain ⟨kq, x24_2, rfl, HA, HJ2, HO_0, HO_1, HB⟩ := hcut
  cases kq with
  | zero => exact absurd HA.out (by simp [laws_FnMatrixInvertsProducts.j0])
  | succ kj2 =>
   have H := HA.out
   clear HA
   simp only [laws_FnMatrixInvertsProducts.j0] at H
   by_cases c7 : x24_2 = true
   ·subst c7
    have H1 : (some true) = some r := by rw [if_pos rfl] at H; exact H
    clear H
    have H := H1
    clear H1
    obtain rfl := Option.some.inj H
    go_wp2
    go_ret
    exact ⟨by first | rfl | (simp [errW_none, errW_some] <;> rfl) | (simp [*, errW_none, errW_some] <;> rfl), bB⟩
   ·replace c7 := Bool.eq_false_iff.mpr c7
    subst c7
    have H1 : ((laws_moderate.f kj2 (([l0, l1] : List (List (List Int))))).bind fun t299 => (if t299 = true then ((spec_Rectangular.f kj2 l0).bind fun t300 => (if t300 = true then ((spec_Rectangular.f kj2 l1).bind fun t301 => (if t301 = true then ((spec_Columns.f l0).bind fun t302 => (if t302 = (l0.length : Int) then (if (l1.length : Int) = (l0.length : Int) then ((spec_Columns.f l1).bind fun t303 => (laws_FnMatrixInvertsProducts.j1 kj2 l0 l1 (t303 != (l0.length : Int)))) else (laws_FnMatrixInvertsProducts.j1 kj2 l0 l1 true)) else (laws_FnMatrixInvertsProducts.j1 kj2 l0 l1 true))) else (laws_FnMatrixInvertsProducts.j1 kj2 l0 l1 true))) else (laws_FnMatrixInvertsProducts.j1 kj2 l0 l1 true))) else (laws_FnMatrixInvertsProducts.j1 kj2 l0 l1 true))) = some r := by rw [if_neg (show ¬ (false = true) by decide)] at H; exact H
    clear H
    have H := H1
    clear H1
    have HC8 := Aside0.mk H
    clear H
    go_upto_region 3 with (fail)
    go_cut [60] (fun v60 wc => ∃ (kq : Nat) (x60_7 : Bool), v60 = .bool x60_7 ∧ Aside0 (laws_FnMatrixInvertsProducts.j1 kq l0 l1 x60_7 = some r) ∧ Aside0 (kq ≤ kj2) ∧ Aside0 (Kd.V (Kd.slice 5 (Kd.int .u8)) 22 wc w.heap.size (fun k_ => ((P0_ k_ ∨ P1_ k_) ∨ w.heap.size ≤ k_)) (.slice A0 l0.length c0) l0) ∧ Aside0 (Kd.V (Kd.slice 5 (Kd.int .u8)) 22 wc w.heap.size (fun k_ => ((P0_ k_ ∨ P1_ k_) ∨ w.heap.size ≤ k_)) (.slice A1 l1.length c1) l1) ∧ Aside0 (Below w.heap.size w wc))
    case first =>
     have H := HC8.out
     clear HC8
     obtain ⟨y296, hy296⟩ : ∃ y_ : List (List (List Int)), y_ = (([l0, l1] : List (List (List Int)))) := ⟨_, rfl⟩
     replace H : ((laws_moderate.f kj2 y296).bind fun t299 => (if t299 = true then ((spec_Rectangular.f kj2 l0).bind fun t300 => (if t300 = true then ((spec_Rectangular.f kj2 l1).bind fun t301 => (if t301 = true then ((spec_Columns.f l0).bind fun t302 => (if t302 = (l0.length : Int) then (if (l1.length : Int) = (l0.length : Int) then ((spec_Columns.f l1).bind fun t303 => (laws_FnMatrixInvertsProducts.j1 kj2 l0 l1 (t303 != (l0.length : Int)))) else (laws_FnMatrixInvertsProducts.j1 kj2 l0 l1 true)) else (laws_FnMatrixInvertsProducts.j1 kj2 l0 l1 true))) else (laws_FnMatrixInvertsProducts.j1 kj2 l0 l1 true))) else (laws_FnMatrixInvertsProducts.j1 kj2 l0 l1 true))) else (laws_FnMatrixInvertsProducts.j1 kj2 l0 l1 true))) = some r := by first | (rw [hy296]; with_reducible exact H) | (have H2_ := (Option.bind_some _ _).symm.trans H; rw [hy296]; with_reducible exact H2_) | (have H2_ := (Option.bind_some _ _).symm.trans H; with_reducible exact H2_) | with_reducible exact H | (rw [hy296]; exact H) | exact H
     have Ny296 := Aside0.mk hy296
     clear hy296
     replace H := Option.bind_eq_some_iff.mp H
     obtain ⟨t299, A90, H⟩ := H
     replace H : (if t299 = true then ((spec_Rectangular.f kj2 l0).bind fun t300 => (if t300 = true then ((spec_Rectangular.f kj2 l1).bind fun t301 => (if t301 = true then ((spec_Columns.f l0).bind fun t302 => (if t302 = (l0.length : Int) then (if (l1.length : Int) = (l0.length : Int) then ((spec_Columns.f l1).bind fun t303 => (laws_FnMatrixInvertsProducts.j1 kj2 l0 l1 (t303 != (l0.length : Int)))) else (laws_FnMatrixInvertsProducts.j1 kj2 l0 l1 true)) else (laws_FnMatrixInvertsProducts.j1 kj2 l0 l1 true))) else (laws_FnMatrixInvertsProducts.j1 kj2 l0 l1 true))) else (laws_FnMatrixInvertsProducts.j1 kj2 l0 l1 true))) else (laws_FnMatrixInvertsProducts.j1 kj2 l0 l1 true)) = some r := H
     have A9 := Aside0.mk A90
     clear A90
     by_cases c10 : t299 = true
     ·subst c10
      have H1 : ((spec_Rectangular.f kj2 l0).bind fun t300 => (if t300 = true then ((spec_Rectangular.f kj2 l1).bind fun t301 => (if t301 = true then ((spec_Columns.f l0).bind fun t302 => (if t302 = (l0.length : Int) then (if (l1.length : Int) = (l0.length : Int) then ((spec_Columns.f l1).bind fun t303 => (laws_FnMatrixInvertsProducts.j1 kj2 l0 l1 (t303 != (l0.length : Int)))) else (laws_FnMatrixInvertsProducts.j1 kj2 l0 l1 true)) else (laws_FnMatrixInvertsProducts.j1 kj2 l0 l1 true))) else (laws_FnMatrixInvertsProducts.j1 kj2 l0 l1 true))) else (laws_FnMatrixInvertsProducts.j1 kj2 l0 l1 true))) = some r := by rw [if_pos rfl] at H; exact H
      clear H
      have H := H1
      clear H1
      replace H := Option.bind_eq_some_iff.mp H
      obtain ⟨t300, A110, H⟩ := H
      replace H : (if t300 = true then ((spec_Rectangular.f kj2 l1).bind fun t301 => (if t301 = true then ((spec_Columns.f l0).bind fun t302 => (if t302 = (l0.length : Int) then (if (l1.length : Int) = (l0.length : Int) then ((spec_Columns.f l1).bind fun t303 => (laws_FnMatrixInvertsProducts.j1 kj2 l0 l1 (t303 != (l0.length : Int)))) else (laws_FnMatrixInvertsProducts.j1 kj2 l0 l1 true)) else (laws_FnMatrixInvertsProducts.j1 kj2 l0 l1 true))) else (laws_FnMatrixInvertsProducts.j1 kj2 l0 l1 true))) else (laws_FnMatrixInvertsProducts.j1 kj2 l0 l1 true)) = some r := H
      have A11 := Aside0.mk A110
      clear A110
      by_cases c12 : t300 = true
      ·subst c12
       have H1 : ((spec_Rectangular.f kj2 l1).bind fun t301 => (if t301 = true then ((spec_Columns.f l0).bind fun t302 => (if t302 = (l0.length : Int) then (if (l1.length : Int) = (l0.length : Int) then ((spec_Columns.f l1).bind fun t303 => (laws_FnMatrixInvertsProducts.j1 kj2 l0 l1 (t303 != (l0.length : Int)))) else (laws_FnMatrixInvertsProducts.j1 kj2 l0 l1 true)) else (laws_FnMatrixInvertsProducts.j1 kj2 l0 l1 true))) else (laws_FnMatrixInvertsProducts.j1 kj2 l0 l1 true))) = some r := by rw [if_pos rfl] at H; exact H
       clear H
       have H := H1
       clear H1
       replace H := Option.bind_eq_some_iff.mp H
       obtain ⟨t301, A130, H⟩ := H
       replace H : (if t301 = true then ((spec_Columns.f l0).bind fun t302 => (if t302 = (l0.length : Int) then (if (l1.length : Int) = (l0.length : Int) then ((spec_Columns.f l1).bind fun t303 => (laws_FnMatrixInvertsProducts.j1 kj2 l0 l1 (t303 != (l0.length : Int)))) else (laws_FnMatrixInvertsProducts.j1 kj2 l0 l1 true)) else (laws_FnMatrixInvertsProducts.j1 kj2 l0 l1 true))) else (laws_FnMatrixInvertsProducts.j1 kj2 l0 l1 true)) = some r := H
       have A13 := Aside0.mk A130
       clear A130
       by_cases c14 : t301 = true
       ·subst c14
        have H1 : ((spec_Columns.f l0).bind fun t302 => (if t302 = (l0.length : Int) then (if (l1.length : Int) = (l0.length : Int) then ((spec_Columns.f l1).bind fun t303 => (laws_FnMatrixInvertsProducts.j1 kj2 l0 l1 (t303 != (l0.length : Int)))) else (laws_FnMatrixInvertsProducts.j1 kj2 l0 l1 true)) else (laws_FnMatrixInvertsProducts.j1 kj2 l0 l1 true))) = some r := by rw [if_pos rfl] at H; exact H
        clear H
        have H := H1
        clear H1
        replace H := Option.bind_eq_some_iff.mp H
        obtain ⟨t302, A150, H⟩ := H
        replace H : (if t302 = (l0.length : Int) then (if (l1.length : Int) = (l0.length : Int) then ((spec_Columns.f l1).bind fun t303 => (laws_FnMatrixInvertsProducts.j1 kj2 l0 l1 (t303 != (l0.length : Int)))) else (laws_FnMatrixInvertsProducts.j1 kj2 l0 l1 true)) else (laws_FnMatrixInvertsProducts.j1 kj2 l0 l1 true)) = some r := H
        have A15 := Aside0.mk A150
        clear A150
        by_cases c16 : t302 = (l0.length : Int)
        ·rw [if_pos c16] at H
         have c16b0 : (t302 == (l0.length : Int)) = true := beq_iff_eq.mpr c16
         have c16b1 : (t302 != (l0.length : Int)) = false := bne_eq_false_iff_eq.mpr c16
         clear c16
         (first | rw [c16b0] | (simp only [i64_w, i32_w]; rw [c16b0]) | skip)
         by_cases c17 : (l1.length : Int) = (l0.length : Int)
         ·rw [if_pos c17] at H
          have c17b0 : ((l1.length : Int) == (l0.length : Int)) = true := beq_iff_eq.mpr c17
          have c17b1 : ((l1.length : Int) != (l0.length : Int)) = false := bne_eq_false_iff_eq.mpr c17
          have c17b2 : (l1.length == l0.length) = true := by first | simpa using c17 | (simp at c17 ⊢; omega)
          clear c17
          replace H := Option.bind_eq_some_iff.mp H
          obtain ⟨t303, A180, H⟩ := H
          replace H : (laws_FnMatrixInvertsProducts.j1 kj2 l0 l1 (t303 != (l0.length : Int))) = some r := H
          have A18 := Aside0.mk A180
          clear A180
          have H' := Aside0.mk H
          clear H
          go_wp2_with (first | ((with_reducible refine gate_dst (N := 27) rfl ?_); (try (refine gate_guard (by rfl) ?_; dsimp only)); refine Kd.N_lit (Kd.slice 22 (Kd.slice 5 (Kd.int .u8))) _ 31 ?hg (N' := 27) ?hd (xs := ([l0, l1] : List (List (List Int)))) (inner := [.slice A0 l0.length c0, .slice A1 l1.length c1]) (ok := (fun k_ => ((P0_ k_ ∨ P1_ k_) ∨ w.heap.size ≤ k_))) (okp := (fun k_ => ((P0_ k_ ∨ P1_ k_) ∨ w.heap.size ≤ k_))) ?hr ?hp (fun _ hk => hk) ((show ∀ k_, wc.heap.size ≤ k_ → (fun k_ => ((P0_ k_ ∨ P1_ k_) ∨ w.heap.size ≤ k_)) k_ from fun k_ hk => (.inr (Nat.le_trans (below_size bB) hk))) _ (Nat.le_refl _)) (Below.refl _ _) (Nat.le_refl _) (by simp) ?_; (case hd => rfl); (case hg => rfl); (case hr => first | (go_simp; done) | (go_simp; rfl)); (case hp => exact (Reps.one (show Kd.FK (Kd.slice 22 (Kd.slice 5 (Kd.int .u8))) _ _ l0 [.slice A0 l0.length c0] from (Kd.FK_slice_mk (Kd.V_reads' (Kd.V_mono (ok' := (fun k_ => ((P0_ k_ ∨ P1_ k_) ∨ w.heap.size ≤ k_))) (HO_0.out) (fun k_ hk => hk))).2.1 (Kd.V_F (Kd.V_mono (ok' := (fun k_ => ((P0_ k_ ∨ P1_ k_) ∨ w.heap.size ≤ k_))) (HO_0.out) (fun k_ hk => hk))))) (Reps.one (show Kd.FK (Kd.slice 22 (Kd.slice 5 (Kd.int .u8))) _ _ l1 [.slice A1 l1.length c1] from (Kd.FK_slice_mk (Kd.V_reads' (Kd.V_mono (ok' := (fun k_ => ((P0_ k_ ∨ P1_ k_) ∨ w.heap.size ≤ k_))) (HO_1.out) (fun k_ hk => hk))).2.1 (Kd.V_F (Kd.V_mono (ok' := (fun k_ => ((P0_ k_ ∨ P1_ k_) ∨ w.heap.size ≤ k_))) (HO_1.out) (fun k_ hk => hk))))) (Reps.none _ _)))); intro v297 w19 ho20 hb hg_ hnew_; clear hg_ hnew_; (first | rw [← Ny296.out] at ho20 | (simp only [Int.reduceToNat] at ho20; rw [← Ny296.out] at ho20)); have n0_ := Aside0.mk (Kd.V_elder' (kV HO_0.out) (Kd.N_base ho20) hb); have n1_ := Aside0.mk (Kd.V_elder' (kV HO_1.out) (Kd.N_base ho20) hb); have n2_ := Aside0.mk (Kd.N_lower ho20 (below_size bB)); have n3_ := Aside0.mk (below_step bB hb); clear HO_0; clear HO_1; clear HB; have HO_0 := n0_; have HO_1 := n1_; have HO298 := n2_; have HB := n3_; clear n0_ n1_ n2_ n3_; clear hb ho20; obtain ⟨Ao21, co21, eo21⟩ := Kd.N_slice HO298.out; subst eo21) | ((with_reducible refine gate_callee (f := 20) rfl ?_); refine goesL_ (some 28) rfl rfl Tryd.func20 (by kernel_rfl) rfl #[.slice Ao21 y296.length co21] rfl aV ?_; (with_reducible refine (laws_moderate.calls kj2 _ _ y296 true _ ?side1 ?side2 A9.out).mono ?_); (case side1 => repeat (first | exact (Kd.N_reads' HO298.out).2.2 | (with_reducible refine Kd.C_alloc ?_ _) | (with_reducible refine Kd.C_drewN ?_ _) | (with_reducible refine Kd.C_drew ?_))); (case side2 => exact (Kd.N_reads' HO298.out).2.1); rintro e w' ⟨rfl, ⟨nd, rfl⟩⟩; refine ⟨_, rfl, ?_⟩) | (go_at_call 22; (with_reducible refine (spec_Rectangular.calls kj2 _ _ l0 true _ ?side1 ?side2 A11.out).mono ?_); (case side1 => repeat (first | exact (Kd.V_reads' HO_0.out).2.2 | (with_reducible refine Kd.C_alloc ?_ _) | (with_reducible refine Kd.C_drewN ?_ _) | (with_reducible refine Kd.C_drew ?_))); (case side2 => exact (Kd.V_reads' HO_0.out).2.1); rintro e w' ⟨rfl, ⟨nd, rfl⟩⟩) | (go_at_call 22; (with_reducible refine (spec_Rectangular.calls kj2 _ _ l1 true _ ?side1 ?side2 A13.out).mono ?_); (case side1 => repeat (first | exact (Kd.V_reads' HO_1.out).2.2 | (with_reducible refine Kd.C_alloc ?_ _) | (with_reducible refine Kd.C_drewN ?_ _) | (with_reducible refine Kd.C_drew ?_))); (case side2 => exact (Kd.V_reads' HO_1.out).2.1); rintro e w' ⟨rfl, ⟨nd, rfl⟩⟩) | (go_at_call 23; (with_reducible refine (spec_Columns.calls _ _ l0 t302 _ ?side1 ?side2 A15.out).mono ?_); (case side1 => repeat (first | exact (Kd.V_reads' HO_0.out).2.2 | (with_reducible refine Kd.C_alloc ?_ _) | (with_reducible refine Kd.C_drewN ?_ _) | (with_reducible refine Kd.C_drew ?_))); (case side2 => exact (Kd.V_reads' HO_0.out).2.1); rintro e w' ⟨rfl, ⟨nd, rfl⟩⟩) | (go_at_call 23; (with_reducible refine (spec_Columns.calls _ _ l1 t303 _ ?side1 ?side2 A18.out).mono ?_); (case side1 => repeat (first | exact (Kd.V_reads' HO_1.out).2.2 | (with_reducible refine Kd.C_alloc ?_ _) | (with_reducible refine Kd.C_drewN ?_ _) | (with_reducible refine Kd.C_drew ?_))); (case side2 => exact (Kd.V_reads' HO_1.out).2.1); rintro e w' ⟨rfl, ⟨nd, rfl⟩⟩))
          go_meet
          case rel => exact ⟨_, ((t303 != (l0.length : Int))), (by first | rfl | (simp; done) | (simp [*]; done)), H', ⟨by have := HJ2.out; first | omega | exact Nat.le_refl _⟩, ⟨by (with_reducible repeat (first | apply Kd.V_alloc | apply Kd.V_drewN | apply Kd.V_drew)); exact Kd.V_mono HO_0.out (fun _ hk => hk.1)⟩, ⟨by (with_reducible repeat (first | apply Kd.V_alloc | apply Kd.V_drewN | apply Kd.V_drew)); exact Kd.V_mono HO_1.out (fun _ hk => hk.1)⟩, ⟨bB⟩⟩
         ·rw [if_neg c17] at H
          have c17b0 : ((l1.length : Int) == (l0.length : Int)) = false := beq_eq_false_iff_ne.mpr c17
          have c17b1 : ((l1.length : Int) != (l0.length : Int)) = true := bne_iff_ne.mpr c17
          have c17b2 : (l1.length == l0.length) = false := by first | simpa using c17 | (simp at c17 ⊢; omega)
          have H' := Aside0.mk H
          clear H
          go_wp2_with (first | ((with_reducible refine gate_dst (N := 27) rfl ?_); (try (refine gate_guard (by rfl) ?_; dsimp only)); refine Kd.N_lit (Kd.slice 22 (Kd.slice 5 (Kd.int .u8))) _ 31 ?hg (N' := 27) ?hd (xs := ([l0, l1] : List (List (List Int)))) (inner := [.slice A0 l0.length c0, .slice A1 l1.length c1]) (ok := (fun k_ => ((P0_ k_ ∨ P1_ k_) ∨ w.heap.size ≤ k_))) (okp := (fun k_ => ((P0_ k_ ∨ P1_ k_) ∨ w.heap.size ≤ k_))) ?hr ?hp (fun _ hk => hk) ((show ∀ k_, wc.heap.size ≤ k_ → (fun k_ => ((P0_ k_ ∨ P1_ k_) ∨ w.heap.size ≤ k_)) k_ from fun k_ hk => (.inr (Nat.le_trans (below_size bB) hk))) _ (Nat.le_refl _)) (Below.refl _ _) (Nat.le_refl _) (by simp) ?_; (case hd => rfl); (case hg => rfl); (case hr => first | (go_simp; done) | (go_simp; rfl)); (case hp => exact (Reps.one (show Kd.FK (Kd.slice 22 (Kd.slice 5 (Kd.int .u8))) _ _ l0 [.slice A0 l0.length c0] from (Kd.FK_slice_mk (Kd.V_reads' (Kd.V_mono (ok' := (fun k_ => ((P0_ k_ ∨ P1_ k_) ∨ w.heap.size ≤ k_))) (HO_0.out) (fun k_ hk => hk))).2.1 (Kd.V_F (Kd.V_mono (ok' := (fun k_ => ((P0_ k_ ∨ P1_ k_) ∨ w.heap.size ≤ k_))) (HO_0.out) (fun k_ hk => hk))))) (Reps.one (show Kd.FK (Kd.slice 22 (Kd.slice 5 (Kd.int .u8))) _ _ l1 [.slice A1 l1.length c1] from (Kd.FK_slice_mk (Kd.V_reads' (Kd.V_mono (ok' := (fun k_ => ((P0_ k_ ∨ P1_ k_) ∨ w.heap.size ≤ k_))) (HO_1.out) (fun k_ hk => hk))).2.1 (Kd.V_F (Kd.V_mono (ok' := (fun k_ => ((P0_ k_ ∨ P1_ k_) ∨ w.heap.size ≤ k_))) (HO_1.out) (fun k_ hk => hk))))) (Reps.none _ _)))); intro v297 w22 ho23 hb hg_ hnew_; clear hg_ hnew_; (first | rw [← Ny296.out] at ho23 | (simp only [Int.reduceToNat] at ho23; rw [← Ny296.out] at ho23)); have n0_ := Aside0.mk (Kd.V_elder' (kV HO_0.out) (Kd.N_base ho23) hb); have n1_ := Aside0.mk (Kd.V_elder' (kV HO_1.out) (Kd.N_base ho23) hb); have n2_ := Aside0.mk (Kd.N_lower ho23 (below_size bB)); have n3_ := Aside0.mk (below_step bB hb); clear HO_0; clear HO_1; clear HB; have HO_0 := n0_; have HO_1 := n1_; have HO298 := n2_; have HB := n3_; clear n0_ n1_ n2_ n3_; clear hb ho23; obtain ⟨Ao24, co24, eo24⟩ := Kd.N_slice HO298.out; subst eo24) | ((with_reducible refine gate_callee (f := 20) rfl ?_); refine goesL_ (some 28) rfl rfl Tryd.func20 (by kernel_rfl) rfl #[.slice Ao24 y296.length co24] rfl aV ?_; (with_reducible refine (laws_moderate.calls kj2 _ _ y296 true _ ?side1 ?side2 A9.out).mono ?_); (case side1 => repeat (first | exact (Kd.N_reads' HO298.out).2.2 | (with_reducible refine Kd.C_alloc ?_ _) | (with_reducible refine Kd.C_drewN ?_ _) | (with_reducible refine Kd.C_drew ?_))); (case side2 => exact (Kd.N_reads' HO298.out).2.1); rintro e w' ⟨rfl, ⟨nd, rfl⟩⟩; refine ⟨_, rfl, ?_⟩) | (go_at_call 22; (with_reducible refine (spec_Rectangular.calls kj2 _ _ l0 true _ ?side1 ?side2 A11.out).mono ?_); (case side1 => repeat (first | exact (Kd.V_reads' HO_0.out).2.2 | (with_reducible refine Kd.C_alloc ?_ _) | (with_reducible refine Kd.C_drewN ?_ _) | (with_reducible refine Kd.C_drew ?_))); (case side2 => exact (Kd.V_reads' HO_0.out).2.1); rintro e w' ⟨rfl, ⟨nd, rfl⟩⟩) | (go_at_call 22; (with_reducible refine (spec_Rectangular.calls kj2 _ _ l1 true _ ?side1 ?side2 A13.out).mono ?_); (case side1 => repeat (first | exact (Kd.V_reads' HO_1.out).2.2 | (with_reducible refine Kd.C_alloc ?_ _) | (with_reducible refine Kd.C_drewN ?_ _) | (with_reducible refine Kd.C_drew ?_))); (case side2 => exact (Kd.V_reads' HO_1.out).2.1); rintro e w' ⟨rfl, ⟨nd, rfl⟩⟩) | (go_at_call 23; (with_reducible refine (spec_Columns.calls _ _ l0 t302 _ ?side1 ?side2 A15.out).mono ?_); (case side1 => repeat (first | exact (Kd.V_reads' HO_0.out).2.2 | (with_reducible refine Kd.C_alloc ?_ _) | (with_reducible refine Kd.C_drewN ?_ _) | (with_reducible refine Kd.C_drew ?_))); (case side2 => exact (Kd.V_reads' HO_0.out).2.1); rintro e w' ⟨rfl, ⟨nd, rfl⟩⟩))
          go_meet
          case rel => exact ⟨_, (true), (by first | rfl | (simp; done) | (simp [*]; done)), H', ⟨by have := HJ2.out; first | omega | exact Nat.le_refl _⟩, ⟨by (with_reducible repeat (first | apply Kd.V_alloc | apply Kd.V_drewN | apply Kd.V_drew)); exact Kd.V_mono HO_0.out (fun _ hk => hk.1)⟩, ⟨by (with_reducible repeat (first | apply Kd.V_alloc | apply Kd.V_drewN | apply Kd.V_drew)); exact Kd.V_mono HO_1.out (fun _ hk => hk.1)⟩, ⟨bB⟩⟩
        ·rw [if_neg c16] at H
         have c16b0 : (t302 == (l0.length : Int)) = false := beq_eq_false_iff_ne.mpr c16
         have c16b1 : (t302 != (l0.length : Int)) = true := bne_iff_ne.mpr c16
         (first | rw [c16b0] | (simp only [i64_w, i32_w]; rw [c16b0]) | skip)
         have H' := Aside0.mk H
         clear H
         go_wp2_with (first | ((with_reducible refine gate_dst (N := 27) rfl ?_); (try (refine gate_guard (by rfl) ?_; dsimp only)); refine Kd.N_lit (Kd.slice 22 (Kd.slice 5 (Kd.int .u8))) _ 31 ?hg (N' := 27) ?hd (xs := ([l0, l1] : List (List (List Int)))) (inner := [.slice A0 l0.length c0, .slice A1 l1.length c1]) (ok := (fun k_ => ((P0_ k_ ∨ P1_ k_) ∨ w.heap.size ≤ k_))) (okp := (fun k_ => ((P0_ k_ ∨ P1_ k_) ∨ w.heap.size ≤ k_))) ?hr ?hp (fun _ hk => hk) ((show ∀ k_, wc.heap.size ≤ k_ → (fun k_ => ((P0_ k_ ∨ P1_ k_) ∨ w.heap.size ≤ k_)) k_ from fun k_ hk => (.inr (Nat.le_trans (below_size bB) hk))) _ (Nat.le_refl _)) (Below.refl _ _) (Nat.le_refl _) (by simp) ?_; (case hd => rfl); (case hg => rfl); (case hr => first | (go_simp; done) | (go_simp; rfl)); (case hp => exact (Reps.one (show Kd.FK (Kd.slice 22 (Kd.slice 5 (Kd.int .u8))) _ _ l0 [.slice A0 l0.length c0] from (Kd.FK_slice_mk (Kd.V_reads' (Kd.V_mono (ok' := (fun k_ => ((P0_ k_ ∨ P1_ k_) ∨ w.heap.size ≤ k_))) (HO_0.out) (fun k_ hk => hk))).2.1 (Kd.V_F (Kd.V_mono (ok' := (fun k_ => ((P0_ k_ ∨ P1_ k_) ∨ w.heap.size ≤ k_))) (HO_0.out) (fun k_ hk => hk))))) (Reps.one (show Kd.FK (Kd.slice 22 (Kd.slice 5 (Kd.int .u8))) _ _ l1 [.slice A1 l1.length c1] from (Kd.FK_slice_mk (Kd.V_reads' (Kd.V_mono (ok' := (fun k_ => ((P0_ k_ ∨ P1_ k_) ∨ w.heap.size ≤ k_))) (HO_1.out) (fun k_ hk => hk))).2.1 (Kd.V_F (Kd.V_mono (ok' := (fun k_ => ((P0_ k_ ∨ P1_ k_) ∨ w.heap.size ≤ k_))) (HO_1.out) (fun k_ hk => hk))))) (Reps.none _ _)))); intro v297 w25 ho26 hb hg_ hnew_; clear hg_ hnew_; (first | rw [← Ny296.out] at ho26 | (simp only [Int.reduceToNat] at ho26; rw [← Ny296.out] at ho26)); have n0_ := Aside0.mk (Kd.V_elder' (kV HO_0.out) (Kd.N_base ho26) hb); have n1_ := Aside0.mk (Kd.V_elder' (kV HO_1.out) (Kd.N_base ho26) hb); have n2_ := Aside0.mk (Kd.N_lower ho26 (below_size bB)); have n3_ := Aside0.mk (below_step bB hb); clear HO_0; clear HO_1; clear HB; have HO_0 := n0_; have HO_1 := n1_; have HO298 := n2_; have HB := n3_; clear n0_ n1_ n2_ n3_; clear hb ho26; obtain ⟨Ao27, co27, eo27⟩ := Kd.N_slice HO298.out; subst eo27) | ((with_reducible refine gate_callee (f := 20) rfl ?_); refine goesL_ (some 28) rfl rfl Tryd.func20 (by kernel_rfl) rfl #[.slice Ao27 y296.length co27] rfl aV ?_; (with_reducible refine (laws_moderate.calls kj2 _ _ y296 true _ ?side1 ?side2 A9.out).mono ?_); (case side1 => repeat (first | exact (Kd.N_reads' HO298.out).2.2 | (with_reducible refine Kd.C_alloc ?_ _) | (with_reducible refine Kd.C_drewN ?_ _) | (with_reducible refine Kd.C_drew ?_))); (case side2 => exact (Kd.N_reads' HO298.out).2.1); rintro e w' ⟨rfl, ⟨nd, rfl⟩⟩; refine ⟨_, rfl, ?_⟩) | (go_at_call 22; (with_reducible refine (spec_Rectangular.calls kj2 _ _ l0 true _ ?side1 ?side2 A11.out).mono ?_); (case side1 => repeat (first | exact (Kd.V_reads' HO_0.out).2.2 | (with_reducible refine Kd.C_alloc ?_ _) | (with_reducible refine Kd.C_drewN ?_ _) | (with_reducible refine Kd.C_drew ?_))); (case side2 => exact (Kd.V_reads' HO_0.out).2.1); rintro e w' ⟨rfl, ⟨nd, rfl⟩⟩) | (go_at_call 22; (with_reducible refine (spec_Rectangular.calls kj2 _ _ l1 true _ ?side1 ?side2 A13.out).mono ?_); (case side1 => repeat (first | exact (Kd.V_reads' HO_1.out).2.2 | (with_reducible refine Kd.C_alloc ?_ _) | (with_reducible refine Kd.C_drewN ?_ _) | (with_reducible refine Kd.C_drew ?_))); (case side2 => exact (Kd.V_reads' HO_1.out).2.1); rintro e w' ⟨rfl, ⟨nd, rfl⟩⟩) | (go_at_call 23; (with_reducible refine (spec_Columns.calls _ _ l0 t302 _ ?side1 ?side2 A15.out).mono ?_); (case side1 => repeat (first | exact (Kd.V_reads' HO_0.out).2.2 | (with_reducible refine Kd.C_alloc ?_ _) | (with_reducible refine Kd.C_drewN ?_ _) | (with_reducible refine Kd.C_drew ?_))); (case side2 => exact (Kd.V_reads' HO_0.out).2.1); rintro e w' ⟨rfl, ⟨nd, rfl⟩⟩))
         go_meet
         case rel => exact ⟨_, (true), (by first | rfl | (simp; done) | (simp [*]; done)), H', ⟨by have := HJ2.out; first | omega | exact Nat.le_refl _⟩, ⟨by (with_reducible repeat (first | apply Kd.V_alloc | apply Kd.V_drewN | apply Kd.V_drew)); exact Kd.V_mono HO_0.out (fun _ hk => hk.1)⟩, ⟨by (with_reducible repeat (first | apply Kd.V_alloc | apply Kd.V_drewN | apply Kd.V_drew)); exact Kd.V_mono HO_1.out (fun _ hk => hk.1)⟩, ⟨bB⟩⟩
       ·replace c14 := Bool.eq_false_iff.mpr c14
        subst c14
        have H1 : (laws_FnMatrixInvertsProducts.j1 kj2 l0 l1 true) = some r := by rw [if_neg (show ¬ (false = true) by decide)] at H; exact H
        clear H
        have H := H1
        clear H1
        have H' := Aside0.mk H
        clear H
        go_wp2_with (first | ((with_reducible refine gate_dst (N := 27) rfl ?_); (try (refine gate_guard (by rfl) ?_; dsimp only)); refine Kd.N_lit (Kd.slice 22 (Kd.slice 5 (Kd.int .u8))) _ 31 ?hg (N' := 27) ?hd (xs := ([l0, l1] : List (List (List Int)))) (inner := [.slice A0 l0.length c0, .slice A1 l1.length c1]) (ok := (fun k_ => ((P0_ k_ ∨ P1_ k_) ∨ w.heap.size ≤ k_))) (okp := (fun k_ => ((P0_ k_ ∨ P1_ k_) ∨ w.heap.size ≤ k_))) ?hr ?hp (fun _ hk => hk) ((show ∀ k_, wc.heap.size ≤ k_ → (fun k_ => ((P0_ k_ ∨ P1_ k_) ∨ w.heap.size ≤ k_)) k_ from fun k_ hk => (.inr (Nat.le_trans (below_size bB) hk))) _ (Nat.le_refl _)) (Below.refl _ _) (Nat.le_refl _) (by simp) ?_; (case hd => rfl); (case hg => rfl); (case hr => first | (go_simp; done) | (go_simp; rfl)); (case hp => exact (Reps.one (show Kd.FK (Kd.slice 22 (Kd.slice 5 (Kd.int .u8))) _ _ l0 [.slice A0 l0.length c0] from (Kd.FK_slice_mk (Kd.V_reads' (Kd.V_mono (ok' := (fun k_ => ((P0_ k_ ∨ P1_ k_) ∨ w.heap.size ≤ k_))) (HO_0.out) (fun k_ hk => hk))).2.1 (Kd.V_F (Kd.V_mono (ok' := (fun k_ => ((P0_ k_ ∨ P1_ k_) ∨ w.heap.size ≤ k_))) (HO_0.out) (fun k_ hk => hk))))) (Reps.one (show Kd.FK (Kd.slice 22 (Kd.slice 5 (Kd.int .u8))) _ _ l1 [.slice A1 l1.length c1] from (Kd.FK_slice_mk (Kd.V_reads' (Kd.V_mono (ok' := (fun k_ => ((P0_ k_ ∨ P1_ k_) ∨ w.heap.size ≤ k_))) (HO_1.out) (fun k_ hk => hk))).2.1 (Kd.V_F (Kd.V_mono (ok' := (fun k_ => ((P0_ k_ ∨ P1_ k_) ∨ w.heap.size ≤ k_))) (HO_1.out) (fun k_ hk => hk))))) (Reps.none _ _)))); intro v297 w28 ho29 hb hg_ hnew_; clear hg_ hnew_; (first | rw [← Ny296.out] at ho29 | (simp only [Int.reduceToNat] at ho29; rw [← Ny296.out] at ho29)); have n0_ := Aside0.mk (Kd.V_elder' (kV HO_0.out) (Kd.N_base ho29) hb); have n1_ := Aside0.mk (Kd.V_elder' (kV HO_1.out) (Kd.N_base ho29) hb); have n2_ := Aside0.mk (Kd.N_lower ho29 (below_size bB)); have n3_ := Aside0.mk (below_step bB hb); clear HO_0; clear HO_1; clear HB; have HO_0 := n0_; have HO_1 := n1_; have HO298 := n2_; have HB := n3_; clear n0_ n1_ n2_ n3_; clear hb ho29; obtain ⟨Ao30, co30, eo30⟩ := Kd.N_slice HO298.out; subst eo30) | ((with_reducible refine gate_callee (f := 20) rfl ?_); refine goesL_ (some 28) rfl rfl Tryd.func20 (by kernel_rfl) rfl #[.slice Ao30 y296.length co30] rfl aV ?_; (with_reducible refine (laws_moderate.calls kj2 _ _ y296 true _ ?side1 ?side2 A9.out).mono ?_); (case side1 => repeat (first | exact (Kd.N_reads' HO298.out).2.2 | (with_reducible refine Kd.C_alloc ?_ _) | (with_reducible refine Kd.C_drewN ?_ _) | (with_reducible refine Kd.C_drew ?_))); (case side2 => exact (Kd.N_reads' HO298.out).2.1); rintro e w' ⟨rfl, ⟨nd, rfl⟩⟩; refine ⟨_, rfl, ?_⟩) | (go_at_call 22; (with_reducible refine (spec_Rectangular.calls kj2 _ _ l0 true _ ?side1 ?side2 A11.out).mono ?_); (case side1 => repeat (first | exact (Kd.V_reads' HO_0.out).2.2 | (with_reducible refine Kd.C_alloc ?_ _) | (with_reducible refine Kd.C_drewN ?_ _) | (with_reducible refine Kd.C_drew ?_))); (case side2 => exact (Kd.V_reads' HO_0.out).2.1); rintro e w' ⟨rfl, ⟨nd, rfl⟩⟩) | (go_at_call 22; (with_reducible refine (spec_Rectangular.calls kj2 _ _ l1 false _ ?side1 ?side2 A13.out).mono ?_); (case side1 => repeat (first | exact (Kd.V_reads' HO_1.out).2.2 | (with_reducible refine Kd.C_alloc ?_ _) | (with_reducible refine Kd.C_drewN ?_ _) | (with_reducible refine Kd.C_drew ?_))); (case side2 => exact (Kd.V_reads' HO_1.out).2.1); rintro e w' ⟨rfl, ⟨nd, rfl⟩⟩))
        go_meet
        case rel => exact ⟨_, (true), (by first | rfl | (simp; done) | (simp [*]; done)), H', ⟨by have := HJ2.out; first | omega | exact Nat.le_refl _⟩, ⟨by (with_reducible repeat (first | apply Kd.V_alloc | apply Kd.V_drewN | apply Kd.V_drew)); exact Kd.V_mono HO_0.out (fun _ hk => hk.1)⟩, ⟨by (with_reducible repeat (first | apply Kd.V_alloc | apply Kd.V_drewN | apply Kd.V_drew)); exact Kd.V_mono HO_1.out (fun _ hk => hk.1)⟩, ⟨bB⟩⟩
      ·replace c12 := Bool.eq_false_iff.mpr c12
       subst c12
       have H1 : (laws_FnMatrixInvertsProducts.j1 kj2 l0 l1 true) = some r := by rw [if_neg (show ¬ (false = true) by decide)] at H; exact H
       clear H
       have H := H1
       clear H1
       have H' := Aside0.mk H
       clear H
       go_wp2_with (first | ((with_reducible refine gate_dst (N := 27) rfl ?_); (try (refine gate_guard (by rfl) ?_; dsimp only)); refine Kd.N_lit (Kd.slice 22 (Kd.slice 5 (Kd.int .u8))) _ 31 ?hg (N' := 27) ?hd (xs := ([l0, l1] : List (List (List Int)))) (inner := [.slice A0 l0.length c0, .slice A1 l1.length c1]) (ok := (fun k_ => ((P0_ k_ ∨ P1_ k_) ∨ w.heap.size ≤ k_))) (okp := (fun k_ => ((P0_ k_ ∨ P1_ k_) ∨ w.heap.size ≤ k_))) ?hr ?hp (fun _ hk => hk) ((show ∀ k_, wc.heap.size ≤ k_ → (fun k_ => ((P0_ k_ ∨ P1_ k_) ∨ w.heap.size ≤ k_)) k_ from fun k_ hk => (.inr (Nat.le_trans (below_size bB) hk))) _ (Nat.le_refl _)) (Below.refl _ _) (Nat.le_refl _) (by simp) ?_; (case hd => rfl); (case hg => rfl); (case hr => first | (go_simp; done) | (go_simp; rfl)); (case hp => exact (Reps.one (show Kd.FK (Kd.slice 22 (Kd.slice 5 (Kd.int .u8))) _ _ l0 [.slice A0 l0.length c0] from (Kd.FK_slice_mk (Kd.V_reads' (Kd.V_mono (ok' := (fun k_ => ((P0_ k_ ∨ P1_ k_) ∨ w.heap.size ≤ k_))) (HO_0.out) (fun k_ hk => hk))).2.1 (Kd.V_F (Kd.V_mono (ok' := (fun k_ => ((P0_ k_ ∨ P1_ k_) ∨ w.heap.size ≤ k_))) (HO_0.out) (fun k_ hk => hk))))) (Reps.one (show Kd.FK (Kd.slice 22 (Kd.slice 5 (Kd.int .u8))) _ _ l1 [.slice A1 l1.length c1] from (Kd.FK_slice_mk (Kd.V_reads' (Kd.V_mono (ok' := (fun k_ => ((P0_ k_ ∨ P1_ k_) ∨ w.heap.size ≤ k_))) (HO_1.out) (fun k_ hk => hk))).2.1 (Kd.V_F (Kd.V_mono (ok' := (fun k_ => ((P0_ k_ ∨ P1_ k_) ∨ w.heap.size ≤ k_))) (HO_1.out) (fun k_ hk => hk))))) (Reps.none _ _)))); intro v297 w31 ho32 hb hg_ hnew_; clear hg_ hnew_; (first | rw [← Ny296.out] at ho32 | (simp only [Int.reduceToNat] at ho32; rw [← Ny296.out] at ho32)); have n0_ := Aside0.mk (Kd.V_elder' (kV HO_0.out) (Kd.N_base ho32) hb); have n1_ := Aside0.mk (Kd.V_elder' (kV HO_1.out) (Kd.N_base ho32) hb); have n2_ := Aside0.mk (Kd.N_lower ho32 (below_size bB)); have n3_ := Aside0.mk (below_step bB hb); clear HO_0; clear HO_1; clear HB; have HO_0 := n0_; have HO_1 := n1_; have HO298 := n2_; have HB := n3_; clear n0_ n1_ n2_ n3_; clear hb ho32; obtain ⟨Ao33, co33, eo33⟩ := Kd.N_slice HO298.out; subst eo33) | ((with_reducible refine gate_callee (f := 20) rfl ?_); refine goesL_ (some 28) rfl rfl Tryd.func20 (by kernel_rfl) rfl #[.slice Ao33 y296.length co33] rfl aV ?_; (with_reducible refine (laws_moderate.calls kj2 _ _ y296 true _ ?side1 ?side2 A9.out).mono ?_); (case side1 => repeat (first | exact (Kd.N_reads' HO298.out).2.2 | (with_reducible refine Kd.C_alloc ?_ _) | (with_reducible refine Kd.C_drewN ?_ _) | (with_reducible refine Kd.C_drew ?_))); (case side2 => exact (Kd.N_reads' HO298.out).2.1); rintro e w' ⟨rfl, ⟨nd, rfl⟩⟩; refine ⟨_, rfl, ?_⟩) | (go_at_call 22; (with_reducible refine (spec_Rectangular.calls kj2 _ _ l0 false _ ?side1 ?side2 A11.out).mono ?_); (case side1 => repeat (first | exact (Kd.V_reads' HO_0.out).2.2 | (with_reducible refine Kd.C_alloc ?_ _) | (with_reducible refine Kd.C_drewN ?_ _) | (with_reducible refine Kd.C_drew ?_))); (case side2 => exact (Kd.V_reads' HO_0.out).2.1); rintro e w' ⟨rfl, ⟨nd, rfl⟩⟩))
       go_meet
       case rel => exact ⟨_, (true), (by first | rfl | (simp; done) | (simp [*]; done)), H', ⟨by have := HJ2.out; first | omega | exact Nat.le_refl _⟩, ⟨by (with_reducible repeat (first | apply Kd.V_alloc | apply Kd.V_drewN | apply Kd.V_drew)); exact Kd.V_mono HO_0.out (fun _ hk => hk.1)⟩, ⟨by (with_reducible repeat (first | apply Kd.V_alloc | apply Kd.V_drewN | apply Kd.V_drew)); exact Kd.V_mono HO_1.out (fun _ hk => hk.1)⟩, ⟨bB⟩⟩
     ·replace c10 := Bool.eq_false_iff.mpr c10
      subst c10
      have H1 : (laws_FnMatrixInvertsProducts.j1 kj2 l0 l1 true) = some r := by rw [if_neg (show ¬ (false = true) by decide)] at H; exact H
      clear H
      have H := H1
      clear H1
      have H' := Aside0.mk H
      clear H
      go_wp2_with (first | ((with_reducible refine gate_dst (N := 27) rfl ?_); (try (refine gate_guard (by rfl) ?_; dsimp only)); refine Kd.N_lit (Kd.slice 22 (Kd.slice 5 (Kd.int .u8))) _ 31 ?hg (N' := 27) ?hd (xs := ([l0, l1] : List (List (List Int)))) (inner := [.slice A0 l0.length c0, .slice A1 l1.length c1]) (ok := (fun k_ => ((P0_ k_ ∨ P1_ k_) ∨ w.heap.size ≤ k_))) (okp := (fun k_ => ((P0_ k_ ∨ P1_ k_) ∨ w.heap.size ≤ k_))) ?hr ?hp (fun _ hk => hk) ((show ∀ k_, wc.heap.size ≤ k_ → (fun k_ => ((P0_ k_ ∨ P1_ k_) ∨ w.heap.size ≤ k_)) k_ from fun k_ hk => (.inr (Nat.le_trans (below_size bB) hk))) _ (Nat.le_refl _)) (Below.refl _ _) (Nat.le_refl _) (by simp) ?_; (case hd => rfl); (case hg => rfl); (case hr => first | (go_simp; done) | (go_simp; rfl)); (case hp => exact (Reps.one (show Kd.FK (Kd.slice 22 (Kd.slice 5 (Kd.int .u8))) _ _ l0 [.slice A0 l0.length c0] from (Kd.FK_slice_mk (Kd.V_reads' (Kd.V_mono (ok' := (fun k_ => ((P0_ k_ ∨ P1_ k_) ∨ w.heap.size ≤ k_))) (HO_0.out) (fun k_ hk => hk))).2.1 (Kd.V_F (Kd.V_mono (ok' := (fun k_ => ((P0_ k_ ∨ P1_ k_) ∨ w.heap.size ≤ k_))) (HO_0.out) (fun k_ hk => hk))))) (Reps.one (show Kd.FK (Kd.slice 22 (Kd.slice 5 (Kd.int .u8))) _ _ l1 [.slice A1 l1.length c1] from (Kd.FK_slice_mk (Kd.V_reads' (Kd.V_mono (ok' := (fun k_ => ((P0_ k_ ∨ P1_ k_) ∨ w.heap.size ≤ k_))) (HO_1.out) (fun k_ hk => hk))).2.1 (Kd.V_F (Kd.V_mono (ok' := (fun k_ => ((P0_ k_ ∨ P1_ k_) ∨ w.heap.size ≤ k_))) (HO_1.out) (fun k_ hk => hk))))) (Reps.none _ _)))); intro v297 w34 ho35 hb hg_ hnew_; clear hg_ hnew_; (first | rw [← Ny296.out] at ho35 | (simp only [Int.reduceToNat] at ho35; rw [← Ny296.out] at ho35)); have n0_ := Aside0.mk (Kd.V_elder' (kV HO_0.out) (Kd.N_base ho35) hb); have n1_ := Aside0.mk (Kd.V_elder' (kV HO_1.out) (Kd.N_base ho35) hb); have n2_ := Aside0.mk (Kd.N_lower ho35 (below_size bB)); have n3_ := Aside0.mk (below_step bB hb); clear HO_0; clear HO_1; clear HB; have HO_0 := n0_; have HO_1 := n1_; have HO298 := n2_; have HB := n3_; clear n0_ n1_ n2_ n3_; clear hb ho35; obtain ⟨Ao36, co36, eo36⟩ := Kd.N_slice HO298.out; subst eo36) | ((with_reducible refine gate_callee (f := 20) rfl ?_); refine goesL_ (some 28) rfl rfl Tryd.func20 (by kernel_rfl) rfl #[.slice Ao36 y296.length co36] rfl aV ?_; (with_reducible refine (laws_moderate.calls kj2 _ _ y296 false _ ?side1 ?side2 A9.out).mono ?_); (case side1 => repeat (first | exact (Kd.N_reads' HO298.out).2.2 | (with_reducible refine Kd.C_alloc ?_ _) | (with_reducible refine Kd.C_drewN ?_ _) | (with_reducible refine Kd.C_drew ?_))); (case side2 => exact (Kd.N_reads' HO298.out).2.1); rintro e w' ⟨rfl, ⟨nd, rfl⟩⟩; refine ⟨_, rfl, ?_⟩))
      go_meet
      case rel => exact ⟨_, (true), (by first | rfl | (simp; done) | (simp [*]; done)), H', ⟨by have := HJ2.out; first | omega | exact Nat.le_refl _⟩, ⟨by (with_reducible repeat (first | apply Kd.V_alloc | apply Kd.V_drewN | apply Kd.V_drew)); exact Kd.V_mono HO_0.out (fun _ hk => hk.1)⟩, ⟨by (with_reducible repeat (first | apply Kd.V_alloc | apply Kd.V_drewN | apply Kd.V_drew)); exact Kd.V_mono HO_1.out (fun _ hk => hk.1)⟩, ⟨bB⟩⟩
    case rest =>
     clear HC8
     try clear c1
     try clear c2
     try clear p2
     try clear c5
     try clear c7
     try clear c8
     try clear c10
     try clear c12
     try clear c14
     try clear c16
     try clear c16b0
     try clear c16b1
     try clear c17
     try clear c17b0
     try clear c17b1
     try clear c17b2
     try clear c19
     try clear c20
     try clear p2
     obtain ⟨kq, x60_7, rfl, HA, HJ7, HO_0, HO_1, HB⟩ := hcut
     cases kq with
     | zero => exact absurd HA.out (by simp [laws_FnMatrixInvertsProducts.j1])
     | succ kj7 =>
      have H := HA.out
      clear HA
      simp only [laws_FnMatrixInvertsProducts.j1] at H
      by_cases c37 : x60_7 = true
      ·subst c37
       have H1 : (some true) = some r := by rw [if_pos rfl] at H; exact H
       clear H
       have H := H1
       clear H1
       obtain rfl := Option.some.inj H
       go_wp2
       go_ret
       exact ⟨by first | rfl | (simp [errW_none, errW_some] <;> rfl) | (simp [*, errW_none, errW_some] <;> rfl), bB⟩
      ·replace c37 := Bool.eq_false_iff.mpr c37
       subst c37
       have H1 : ((impl_Multiply.f kj7 l0 l1).bind fun bt304 => ((impl_Invert.f kj7 bt304.1).bind fun bt308 => ((impl_Invert.f kj7 l0).bind fun bt312 => ((impl_Invert.f kj7 l1).bind fun bt316 => (if bt304.2 = true then (if bt312.2 = true then (laws_FnMatrixInvertsProducts.j2 kj7 l0 bt308.1 bt308.2 bt312.1 bt316.1 (bt308.2 != bt316.2)) else (laws_FnMatrixInvertsProducts.j2 kj7 l0 bt308.1 bt308.2 bt312.1 bt316.1 (bt308.2 != false))) else (laws_FnMatrixInvertsProducts.j2 kj7 l0 bt308.1 bt308.2 bt312.1 bt316.1 true)))))) = some r := by rw [if_neg (show ¬ (false = true) by decide)] at H; exact H
       clear H
       have H := H1
       clear H1
       replace H := Option.bind_eq_some_iff.mp H
       obtain ⟨⟨t304, t305⟩, A380, H⟩ := H
       replace H : ((impl_Invert.f kj7 t304).bind fun bt308 => ((impl_Invert.f kj7 l0).bind fun bt312 => ((impl_Invert.f kj7 l1).bind fun bt316 => (if t305 = true then (if bt312.2 = true then (laws_FnMatrixInvertsProducts.j2 kj7 l0 bt308.1 bt308.2 bt312.1 bt316.1 (bt308.2 != bt316.2)) else (laws_FnMatrixInvertsProducts.j2 kj7 l0 bt308.1 bt308.2 bt312.1 bt316.1 (bt308.2 != false))) else (laws_FnMatrixInvertsProducts.j2 kj7 l0 bt308.1 bt308.2 bt312.1 bt316.1 true))))) = some r := H
       have A38 := Aside0.mk A380
       clear A380
       replace H := Option.bind_eq_some_iff.mp H
       obtain ⟨⟨t308, t309⟩, A390, H⟩ := H
       replace H : ((impl_Invert.f kj7 l0).bind fun bt312 => ((impl_Invert.f kj7 l1).bind fun bt316 => (if t305 = true then (if bt312.2 = true then (laws_FnMatrixInvertsProducts.j2 kj7 l0 t308 t309 bt312.1 bt316.1 (t309 != bt316.2)) else (laws_FnMatrixInvertsProducts.j2 kj7 l0 t308 t309 bt312.1 bt316.1 (t309 != false))) else (laws_FnMatrixInvertsProducts.j2 kj7 l0 t308 t309 bt312.1 bt316.1 true)))) = some r := H
       have A39 := Aside0.mk A390
       clear A390
       replace H := Option.bind_eq_some_iff.mp H
       obtain ⟨⟨t312, t313⟩, A400, H⟩ := H
       replace H : ((impl_Invert.f kj7 l1).bind fun bt316 => (if t305 = true then (if t313 = true then (laws_FnMatrixInvertsProducts.j2 kj7 l0 t308 t309 t312 bt316.1 (t309 != bt316.2)) else (laws_FnMatrixInvertsProducts.j2 kj7 l0 t308 t309 t312 bt316.1 (t309 != false))) else (laws_FnMatrixInvertsProducts.j2 kj7 l0 t308 t309 t312 bt316.1 true))) = some r := H
       have A40 := Aside0.mk A400
       clear A400
       replace H := Option.bind_eq_some_iff.mp H
       obtain ⟨⟨t316, t317⟩, A410, H⟩ := H
       replace H : (if t305 = true then (if t313 = true then (laws_FnMatrixInvertsProducts.j2 kj7 l0 t308 t309 t312 t316 (t309 != t317)) else (laws_FnMatrixInvertsProducts.j2 kj7 l0 t308 t309 t312 t316 (t309 != false))) else (laws_FnMatrixInvertsProducts.j2 kj7 l0 t308 t309 t312 t316 true)) = some r := H
       have A41 := Aside0.mk A410
       clear A410
       have HC42 := Aside0.mk H
       clear H
       go_upto_region 9 with (first | ((with_reducible refine gate_callee (f := 21) rfl ?_); refine goesL_ (some 64) rfl rfl Tryd.func21 (by kernel_rfl) rfl #[.slice A0 l0.length c0, .slice A1 l1.length c1] rfl aV ?_; (with_reducible refine (impl_Multiply.calls kj7 _ _ l0 _ _ l1 t304 t305 _ ?side1 ?side2 ?side3 ?side4 ?side5 A38.out).mono ?_); (case side1 => exact TabOK.below HT.out bB); (case side2 => repeat (first | exact (Kd.V_reads' HO_0.out).2.2 | (with_reducible refine Kd.C_alloc ?_ _) | (with_reducible refine Kd.C_drewN ?_ _) | (with_reducible refine Kd.C_drew ?_))); (case side3 => exact (Kd.V_reads' HO_0.out).2.1); (case side4 => repeat (first | exact (Kd.V_reads' HO_1.out).2.2 | (with_reducible refine Kd.C_alloc ?_ _) | (with_reducible refine Kd.C_drewN ?_ _) | (with_reducible refine Kd.C_drew ?_))); (case side5 => exact (Kd.V_reads' HO_1.out).2.1); rintro e w43 ⟨v306, rfl, ho0, hb⟩; refine ⟨_, rfl, ?_⟩; have n0_ := Aside0.mk (Kd.V_elder' (kV HO_0.out) (Kd.N_base (Kd.S_N ho0)) hb); have n1_ := Aside0.mk (Kd.V_elder' (kV HO_1.out) (Kd.N_base (Kd.S_N ho0)) hb); have n2_ := Aside0.mk (Kd.N_lower (Kd.N_mono (ok' := fun k_ => ((P0_ k_ ∨ P1_ k_) ∨ w.heap.size ≤ k_)) (Kd.S_N (Kd.S_bound ho0)) (fun k_ hk_ => (.inr (Nat.le_trans (below_size bB) hk_.2.1)))) (below_size bB)); have n3_ := Aside0.mk (below_step bB hb); clear HO_0; clear HO_1; clear HB; have HO_0 := n0_; have HO_1 := n1_; have HO307 := n2_; have HB := n3_; clear n0_ n1_ n2_ n3_; (try clear hb); (try clear hb2); (try clear hk); (try clear hi); (try clear ho0); obtain ⟨Ao44, co44, eo44⟩ := Kd.N_slice HO307.out; subst eo44) | ((with_reducible refine gate_callee (f := 25) rfl ?_); refine goesL_ (some 69) rfl rfl Tryd.func25 (by kernel_rfl) rfl #[.slice Ao44 t304.length co44] rfl aV ?_; (with_reducible refine (impl_Invert.calls kj7 _ _ t304 t308 t309 _ ?side1 ?side2 ?side3 A39.out).mono ?_); (case side1 => exact TabOK.below HT.out bB); (case side2 => repeat (first | exact (Kd.N_reads' HO307.out).2.2 | (with_reducible refine Kd.C_alloc ?_ _) | (with_reducible refine Kd.C_drewN ?_ _) | (with_reducible refine Kd.C_drew ?_))); (case side3 => exact (Kd.N_reads' HO307.out).2.1); rintro e w45 ⟨v310, rfl, ho0, hb⟩; refine ⟨_, rfl, ?_⟩; have n0_ := Aside0.mk (Kd.V_elder' (kV HO_0.out) (Kd.N_base (Kd.S_N ho0)) hb); have n1_ := Aside0.mk (Kd.V_elder' (kV HO_1.out) (Kd.N_base (Kd.S_N ho0)) hb); have n2_ := Aside0.mk (Kd.N_elder' (by (with_reducible repeat (first | apply Kd.N_alloc | apply Kd.N_drewN | apply Kd.N_drew)); exact HO307.out) (Kd.N_base (Kd.S_N ho0)) hb); have n3_ := Aside0.mk (Kd.N_lower (Kd.N_mono (ok' := fun k_ => ((P0_ k_ ∨ P1_ k_) ∨ w.heap.size ≤ k_) ∧ some k_ ≠ (.slice Ao44 t304.length co44 : Value).ownBlock) (Kd.S_N (Kd.S_bound ho0)) (fun k_ hk_ => ⟨(.inr (Nat.le_trans (below_size bB) hk_.2.1)), (Kd.fresh' (Kd.N_lt (by (with_reducible repeat (first | apply Kd.N_alloc | apply Kd.N_drewN | apply Kd.N_drew)); exact HO307.out)) k_ hk_.2.1)⟩)) (below_size bB)); have n4_ := Aside0.mk (below_step bB hb); clear HO_0; clear HO_1; clear HO307; clear HB; have HO_0 := n0_; have HO_1 := n1_; have HO307 := n2_; have HO311 := n3_; have HB := n4_; clear n0_ n1_ n2_ n3_ n4_; (try clear hb); (try clear hb2); (try clear hk); (try clear hi); (try clear ho0)) | ((with_reducible refine gate_callee (f := 25) rfl ?_); refine goesL_ (some 74) rfl rfl Tryd.func25 (by kernel_rfl) rfl #[.slice A0 l0.length c0] rfl aV ?_; (with_reducible refine (impl_Invert.calls kj7 _ _ l0 t312 t313 _ ?side1 ?side2 ?side3 A40.out).mono ?_); (case side1 => exact TabOK.below HT.out bB); (case side2 => repeat (first | exact (Kd.V_reads' HO_0.out).2.2 | (with_reducible refine Kd.C_alloc ?_ _) | (with_reducible refine Kd.C_drewN ?_ _) | (with_reducible refine Kd.C_drew ?_))); (case side3 => exact (Kd.V_reads' HO_0.out).2.1); rintro e w46 ⟨v314, rfl, ho0, hb⟩; refine ⟨_, rfl, ?_⟩; have n0_ := Aside0.mk (Kd.V_elder' (kV HO_0.out) (Kd.N_base (Kd.S_N ho0)) hb); have n1_ := Aside0.mk (Kd.V_elder' (kV HO_1.out) (Kd.N_base (Kd.S_N ho0)) hb); have n2_ := Aside0.mk (Kd.N_elder' (by (with_reducible repeat (first | apply Kd.N_alloc | apply Kd.N_drewN | apply Kd.N_drew)); exact HO307.out) (Kd.N_base (Kd.S_N ho0)) hb); have n3_ := Aside0.mk (Kd.N_elder' (by (with_reducible repeat (first | apply Kd.N_alloc | apply Kd.N_drewN | apply Kd.N_drew)); exact HO311.out) (Kd.N_base (Kd.S_N ho0)) hb); have n4_ := Aside0.mk (Kd.N_lower (Kd.N_mono (ok' := fun k_ => ((P0_ k_ ∨ P1_ k_) ∨ w.heap.size ≤ k_) ∧ some k_ ≠ (.slice Ao44 t304.length co44 : Value).ownBlock ∧ some k_ ≠ (v310 : Value).ownBlock) (Kd.S_N (Kd.S_bound ho0)) (fun k_ hk_ => ⟨(.inr (Nat.le_trans (below_size bB) hk_.2.1)), (Kd.fresh' (Kd.N_lt (by (with_reducible repeat (first | apply Kd.N_alloc | apply Kd.N_drewN | apply Kd.N_drew)); exact HO307.out)) k_ hk_.2.1), (Kd.fresh' (Kd.N_lt (by (with_reducible repeat (first | apply Kd.N_alloc | apply Kd.N_drewN | apply Kd.N_drew)); exact HO311.out)) k_ hk_.2.1)⟩)) (below_size bB)); have n5_ := Aside0.mk (below_step bB hb); clear HO_0; clear HO_1; clear HO307; clear HO311; clear HB; have HO_0 := n0_; have HO_1 := n1_; have HO307 := n2_; have HO311 := n3_; have HO315 := n4_; have HB := n5_; clear n0_ n1_ n2_ n3_ n4_ n5_; (try clear hb); (try clear hb2); (try clear hk); (try clear hi); (try clear ho0)) | ((with_reducible refine gate_callee (f := 25) rfl ?_); refine goesL_ (some 79) rfl rfl Tryd.func25 (by kernel_rfl) rfl #[.slice A1 l1.length c1] rfl aV ?_; (with_reducible refine (impl_Invert.calls kj7 _ _ l1 t316 t317 _ ?side1 ?side2 ?side3 A41.out).mono ?_); (case side1 => exact TabOK.below HT.out bB); (case side2 => repeat (first | exact (Kd.V_reads' HO_1.out).2.2 | (with_reducible refine Kd.C_alloc ?_ _) | (with_reducible refine Kd.C_drewN ?_ _) | (with_reducible refine Kd.C_drew ?_))); (case side3 => exact (Kd.V_reads' HO_1.out).2.1); rintro e w47 ⟨v318, rfl, ho0, hb⟩; refine ⟨_, rfl, ?_⟩; have n0_ := Aside0.mk (Kd.V_elder' (kV HO_0.out) (Kd.N_base (Kd.S_N ho0)) hb); have n1_ := Aside0.mk (Kd.V_elder' (kV HO_1.out) (Kd.N_base (Kd.S_N ho0)) hb); have n2_ := Aside0.mk (Kd.N_elder' (by (with_reducible repeat (first | apply Kd.N_alloc | apply Kd.N_drewN | apply Kd.N_drew)); exact HO307.out) (Kd.N_base (Kd.S_N ho0)) hb); have n3_ := Aside0.mk (Kd.N_elder' (by (with_reducible repeat (first | apply Kd.N_alloc | apply Kd.N_drewN | apply Kd.N_drew)); exact HO311.out) (Kd.N_base (Kd.S_N ho0)) hb); have n4_ := Aside0.mk (Kd.N_elder' (by (with_reducible repeat (first | apply Kd.N_alloc | apply Kd.N_drewN | apply Kd.N_drew)); exact HO315.out) (Kd.N_base (Kd.S_N ho0)) hb); have n5_ := Aside0.mk (Kd.N_lower (Kd.N_mono (ok' := fun k_ => ((P0_ k_ ∨ P1_ k_) ∨ w.heap.size ≤ k_) ∧ some k_ ≠ (.slice Ao44 t304.length co44 : Value).ownBlock ∧ some k_ ≠ (v310 : Value).ownBlock ∧ some k_ ≠ (v314 : Value).ownBlock) (Kd.S_N (Kd.S_bound ho0)) (fun k_ hk_ => ⟨(.inr (Nat.le_trans (below_size bB) hk_.2.1)), (Kd.fresh' (Kd.N_lt (by (with_reducible repeat (first | apply Kd.N_alloc | apply Kd.N_drewN | apply Kd.N_drew)); exact HO307.out)) k_ hk_.2.1), (Kd.fresh' (Kd.N_lt (by (with_reducible repeat (first | apply Kd.N_alloc | apply Kd.N_drewN | apply Kd.N_drew)); exact HO311.out)) k_ hk_.2.1), (Kd.fresh' (Kd.N_lt (by (with_reducible repeat (first | apply Kd.N_alloc | apply Kd.N_drewN | apply Kd.N_drew)); exact HO315.out)) k_ hk_.2.1)⟩)) (below_size bB)); have n6_ := Aside0.mk (below_step bB hb); clear HO_0; clear HO_1; clear HO307; clear HO311; clear HO315; clear HB; have HO_0 := n0_; have HO_1 := n1_; have HO307 := n2_; have HO311 := n3_; have HO315 := n4_; have HO319 := n5_; have HB := n6_; clear n0_ n1_ n2_ n3_ n4_ n5_ n6_; (try clear hb); (try clear hb2); (try clear hk); (try clear hi); (try clear ho0)))
       (try simp only [Act.put, List.setIfInBounds_toArray, List.set_cons_zero, List.set_cons_succ])
       go_cut [91] (fun v91 wc => ∃ (kq : Nat) (x91_41 : Bool), v91 = .bool x91_41 ∧ Aside0 (laws_FnMatrixInvertsProducts.j2 kq l0 t308 t309 t312 t316 x91_41 = some r) ∧ Aside0 (kq ≤ kj7) ∧ Aside0 (Kd.V (Kd.slice 5 (Kd.int .u8)) 22 wc w.heap.size (fun k_ => ((P0_ k_ ∨ P1_ k_) ∨ w.heap.size ≤ k_) ∧ some k_ ≠ (v310 : Value).ownBlock ∧ some k_ ≠ (v314 : Value).ownBlock ∧ some k_ ≠ (v318 : Value).ownBlock) (.slice A0 l0.length c0) l0) ∧ Aside0 (Kd.N (Kd.slice 5 (Kd.int .u8)) 22 wc w.heap.size (fun k_ => ((P0_ k_ ∨ P1_ k_) ∨ w.heap.size ≤ k_) ∧ some k_ ≠ (v314 : Value).ownBlock ∧ some k_ ≠ (v318 : Value).ownBlock) v310 t308) ∧ Aside0 (Kd.N (Kd.slice 5 (Kd.int .u8)) 22 wc w.heap.size (fun k_ => ((P0_ k_ ∨ P1_ k_) ∨ w.heap.size ≤ k_) ∧ some k_ ≠ (v310 : Value).ownBlock ∧ some k_ ≠ (v318 : Value).ownBlock) v314 t312) ∧ Aside0 (Kd.N (Kd.slice 5 (Kd.int .u8)) 22 wc w.heap.size (fun k_ => ((P0_ k_ ∨ P1_ k_) ∨ w.heap.size ≤ k_) ∧ some k_ ≠ (v310 : Value).ownBlock ∧ some k_ ≠ (v314 : Value).ownBlock) v318 t316) ∧ Aside0 (Below w.heap.size w wc))
       case first =>
        have H := HC42.out
        clear HC42
        by_cases c48 : t305 = true
        ·subst c48
         have H1 : (if t313 = true then (laws_FnMatrixInvertsProducts.j2 kj7 l0 t308 t309 t312 t316 (t309 != t317)) else (laws_FnMatrixInvertsProducts.j2 kj7 l0 t308 t309 t312 t316 (t309 != false))) = some r := by rw [if_pos rfl] at H; exact H
         clear H
         have H := H1
         clear H1
         by_cases c49 : t313 = true
         ·subst c49
          have H1 : (laws_FnMatrixInvertsProducts.j2 kj7 l0 t308 t309 t312 t316 (t309 != t317)) = some r := by rw [if_pos rfl] at H; exact H
          clear H
          have H := H1
          clear H1
          have H' := Aside0.mk H
          clear H
          go_wp2
          go_meet
          case rel => exact ⟨_, ((t309 != t317)), (by first | rfl | (simp; done) | (simp [*]; done)), H', ⟨by have := HJ2.out; have := HJ7.out; first | omega | exact Nat.le_refl _⟩, ⟨by (with_reducible repeat (first | apply Kd.V_alloc | apply Kd.V_drewN | apply Kd.V_drew)); exact Kd.V_mono HO_0.out (fun _ hk => ⟨hk.1.1.1.1, ⟨hk.1.1.2, ⟨hk.1.2, hk.2⟩⟩⟩)⟩, ⟨by (with_reducible repeat (first | apply Kd.N_alloc | apply Kd.N_drewN | apply Kd.N_drew)); exact Kd.N_mono HO311.out (fun _ hk => ⟨hk.1.1.1, ⟨hk.1.2, hk.2⟩⟩)⟩, ⟨by (with_reducible repeat (first | apply Kd.N_alloc | apply Kd.N_drewN | apply Kd.N_drew)); exact Kd.N_mono HO315.out (fun _ hk => ⟨hk.1.1, ⟨hk.1.2.2, hk.2⟩⟩)⟩, ⟨by (with_reducible repeat (first | apply Kd.N_alloc | apply Kd.N_drewN | apply Kd.N_drew)); exact Kd.N_mono HO319.out (fun _ hk => ⟨hk.1, ⟨hk.2.2.1, hk.2.2.2⟩⟩)⟩, ⟨bB⟩⟩
         ·replace c49 := Bool.eq_false_iff.mpr c49
          subst c49
          have H1 : (laws_FnMatrixInvertsProducts.j2 kj7 l0 t308 t309 t312 t316 (t309 != false)) = some r := by rw [if_neg (show ¬ (false = true) by decide)] at H; exact H
          clear H
          have H := H1
          clear H1
          have H' := Aside0.mk H
          clear H
          go_wp2
          go_meet
          case rel => exact ⟨_, ((t309 != false)), (by first | rfl | (simp; done) | (simp [*]; done)), H', ⟨by have := HJ2.out; have := HJ7.out; first | omega | exact Nat.le_refl _⟩, ⟨by (with_reducible repeat (first | apply Kd.V_alloc | apply Kd.V_drewN | apply Kd.V_drew)); exact Kd.V_mono HO_0.out (fun _ hk => ⟨hk.1.1.1.1, ⟨hk.1.1.2, ⟨hk.1.2, hk.2⟩⟩⟩)⟩, ⟨by (with_reducible repeat (first | apply Kd.N_alloc | apply Kd.N_drewN | apply Kd.N_drew)); exact Kd.N_mono HO311.out (fun _ hk => ⟨hk.1.1.1, ⟨hk.1.2, hk.2⟩⟩)⟩, ⟨by (with_reducible repeat (first | apply Kd.N_alloc | apply Kd.N_drewN | apply Kd.N_drew)); exact Kd.N_mono HO315.out (fun _ hk => ⟨hk.1.1, ⟨hk.1.2.2, hk.2⟩⟩)⟩, ⟨by (with_reducible repeat (first | apply Kd.N_alloc | apply Kd.N_drewN | apply Kd.N_drew)); exact Kd.N_mono HO319.out (fun _ hk => ⟨hk.1, ⟨hk.2.2.1, hk.2.2.2⟩⟩)⟩, ⟨bB⟩⟩
        ·replace c48 := Bool.eq_false_iff.mpr c48
         subst c48
         have H1 : (laws_FnMatrixInvertsProducts.j2 kj7 l0 t308 t309 t312 t316 true) = some r := by rw [if_neg (show ¬ (false = true) by decide)] at H; exact H
         clear H
         have H := H1
         clear H1
         have H' := Aside0.mk H
         clear H
         go_wp2
         go_meet
         case rel => exact ⟨_, (true), (by first | rfl | (simp; done) | (simp [*]; done)), H', ⟨by have := HJ2.out; have := HJ7.out; first | omega | exact Nat.le_refl _⟩, ⟨by (with_reducible repeat (first | apply Kd.V_alloc | apply Kd.V_drewN | apply Kd.V_drew)); exact Kd.V_mono HO_0.out (fun _ hk => ⟨hk.1.1.1.1, ⟨hk.1.1.2, ⟨hk.1.2, hk.2⟩⟩⟩)⟩, ⟨by (with_reducible repeat (first | apply Kd.N_alloc | apply Kd.N_drewN | apply Kd.N_drew)); exact Kd.N_mono HO311.out (fun _ hk => ⟨hk.1.1.1, ⟨hk.1.2, hk.2⟩⟩)⟩, ⟨by (with_reducible repeat (first | apply Kd.N_alloc | apply Kd.N_drewN | apply Kd.N_drew)); exact Kd.N_mono HO315.out (fun _ hk => ⟨hk.1.1, ⟨hk.1.2.2, hk.2⟩⟩)⟩, ⟨by (with_reducible repeat (first | apply Kd.N_alloc | apply Kd.N_drewN | apply Kd.N_drew)); exact Kd.N_mono HO319.out (fun _ hk => ⟨hk.1, ⟨hk.2.2.1, hk.2.2.2⟩⟩)⟩, ⟨bB⟩⟩
       case rest =>
        clear HC42
        try clear c1
        try clear c2
        try clear p2
        try clear c3
        try clear c4
        try clear c5
        try clear c7
        try clear c8
        try clear c10
        try clear c12
        try clear c14
        try clear c16
        try clear c16b0
        try clear c16b1
        try clear c17
        try clear c17b0
        try clear c17b1
        try clear c17b2
        try clear c19
        try clear c20
        try clear c21
        try clear c25
        try clear c37
        try clear c48
        try clear c49
        try clear p2
        obtain ⟨kq, x91_41, rfl, HA, HJ41, HO_0, HO_7, HO_9, HO_11, HB⟩ := hcut
        cases kq with
        | zero => exact absurd HA.out (by simp [laws_FnMatrixInvertsProducts.j2])
        | succ kj41 =>
         have H := HA.out
         clear HA
         simp only [laws_FnMatrixInvertsProducts.j2] at H
         by_cases c50 : x91_41 = true
         ·subst c50
          have H1 : (some false) = some r := by rw [if_pos rfl] at H; exact H
          clear H
          have H := H1
          clear H1
          obtain rfl := Option.some.inj H
          go_wp2
          go_ret
          exact ⟨by first | rfl | (simp [errW_none, errW_some] <;> rfl) | (simp [*, errW_none, errW_some] <;> rfl), bB⟩
         ·replace c50 := Bool.eq_false_iff.mpr c50
          subst c50
          have H1 : (if t309 = true then ((impl_Multiply.f kj41 t316 t312).bind fun bt320 => ((impl_Invert.f kj41 t312).bind fun bt324 => (if bt320.2 = true then (if bt324.2 = true then ((spec_EqualMatrices.f kj41 t308 bt320.1).bind fun t328 => (if t328 = true then ((spec_EqualMatrices.f kj41 bt324.1 l0).bind fun t329 => (some t329)) else (some false))) else (some false)) else (some false)))) else (some true)) = some r := by rw [if_neg (show ¬ (false = true) by decide)] at H; exact H
          clear H
          have H := H1
          clear H1
          by_cases c51 : t309 = true
          ·subst c51
           have H1 : ((impl_Multiply.f kj41 t316 t312).bind fun bt320 => ((impl_Invert.f kj41 t312).bind fun bt324 => (if bt320.2 = true then (if bt324.2 = true then ((spec_EqualMatrices.f kj41 t308 bt320.1).bind fun t328 => (if t328 = true then ((spec_EqualMatrices.f kj41 bt324.1 l0).bind fun t329 => (some t329)) else (some false))) else (some false)) else (some false)))) = some r := by rw [if_pos rfl] at H; exact H
           clear H
           have H := H1
           clear H1
           replace H := Option.bind_eq_some_iff.mp H
           obtain ⟨⟨t320, t321⟩, A520, H⟩ := H
           replace H : ((impl_Invert.f kj41 t312).bind fun bt324 => (if t321 = true then (if bt324.2 = true then ((spec_EqualMatrices.f kj41 t308 t320).bind fun t328 => (if t328 = true then ((spec_EqualMatrices.f kj41 bt324.1 l0).bind fun t329 => (some t329)) else (some false))) else (some false)) else (some false))) = some r := H
           have A52 := Aside0.mk A520
           clear A520
           replace H := Option.bind_eq_some_iff.mp H
           obtain ⟨⟨t324, t325⟩, A530, H⟩ := H
           replace H : (if t321 = true then (if t325 = true then ((spec_EqualMatrices.f kj41 t308 t320).bind fun t328 => (if t328 = true then ((spec_EqualMatrices.f kj41 t324 l0).bind fun t329 => (some t329)) else (some false))) else (some false)) else (some false)) = some r := H
           have A53 := Aside0.mk A530
           clear A530
           by_cases c54 : t321 = true
           ·subst c54
            have H1 : (if t325 = true then ((spec_EqualMatrices.f kj41 t308 t320).bind fun t328 => (if t328 = true then ((spec_EqualMatrices.f kj41 t324 l0).bind fun t329 => (some t329)) else (some false))) else (some false)) = some r := by rw [if_pos rfl] at H; exact H
            clear H
            have H := H1
            clear H1
            by_cases c55 : t325 = true
            ·subst c55
             have H1 : ((spec_EqualMatrices.f kj41 t308 t320).bind fun t328 => (if t328 = true then ((spec_EqualMatrices.f kj41 t324 l0).bind fun t329 => (some t329)) else (some false))) = some r := by rw [if_pos rfl] at H; exact H
             clear H
             have H := H1
             clear H1
             replace H := Option.bind_eq_some_iff.mp H
             obtain ⟨t328, A560, H⟩ := H
             replace H : (if t328 = true then ((spec_EqualMatrices.f kj41 t324 l0).bind fun t329 => (some t329)) else (some false)) = some r := H
             have A56 := Aside0.mk A560
             clear A560
             by_cases c57 : t328 = true
             ·subst c57
              have H1 : ((spec_EqualMatrices.f kj41 t324 l0).bind fun t329 => (some t329)) = some r := by rw [if_pos rfl] at H; exact H
              clear H
              have H := H1
              clear H1
              replace H := Option.bind_eq_some_iff.mp H
              obtain ⟨t329, A580, H⟩ := H
              replace H : (some t329) = some r := H
              have A58 := Aside0.mk A580
              clear A580
              obtain rfl := Option.some.inj H
              obtain ⟨Ao59, co59, eo59⟩ := Kd.N_slice HO_11.out
              subst eo59
              obtain ⟨Ao60, co60, eo60⟩ := Kd.N_slice HO_9.out
              subst eo60
              go_wp2_with (first | ((with_reducible refine gate_callee (f := 21) rfl ?_); refine goesL_ (some 97) rfl rfl Tryd.func21 (by kernel_rfl) rfl #[.slice Ao59 t316.length co59, .slice Ao60 t312.length co60] rfl aV ?_; (with_reducible refine (impl_Multiply.calls kj41 _ _ t316 _ _ t312 t320 true _ ?side1 ?side2 ?side3 ?side4 ?side5 A52.out).mono ?_); (case side1 => exact TabOK.below HT.out bB); (case side2 => repeat (first | exact (Kd.N_reads' HO_11.out).2.2 | (with_reducible refine Kd.C_alloc ?_ _) | (with_reducible refine Kd.C_drewN ?_ _) | (with_reducible refine Kd.C_drew ?_))); (case side3 => exact (Kd.N_reads' HO_11.out).2.1); (case side4 => repeat (first | exact (Kd.N_reads' HO_9.out).2.2 | (with_reducible refine Kd.C_alloc ?_ _) | (with_reducible refine Kd.C_drewN ?_ _) | (with_reducible refine Kd.C_drew ?_))); (case side5 => exact (Kd.N_reads' HO_9.out).2.1); rintro e w61 ⟨v322, rfl, ho0, hb⟩; refine ⟨_, rfl, ?_⟩; have n0_ := Aside0.mk (Kd.V_elder' (kV HO_0.out) (Kd.N_base (Kd.S_N ho0)) hb); have n1_ := Aside0.mk (Kd.N_elder' (by (with_reducible repeat (first | apply Kd.N_alloc | apply Kd.N_drewN | apply Kd.N_drew)); exact HO_7.out) (Kd.N_base (Kd.S_N ho0)) hb); have n2_ := Aside0.mk (Kd.N_elder' (by (with_reducible repeat (first | apply Kd.N_alloc | apply Kd.N_drewN | apply Kd.N_drew)); exact HO_9.out) (Kd.N_base (Kd.S_N ho0)) hb); have n3_ := Aside0.mk (Kd.N_elder' (by (with_reducible repeat (first | apply Kd.N_alloc | apply Kd.N_drewN | apply Kd.N_drew)); exact HO_11.out) (Kd.N_base (Kd.S_N ho0)) hb); have n4_ := Aside0.mk (Kd.N_lower (Kd.N_mono (ok' := fun k_ => ((P0_ k_ ∨ P1_ k_) ∨ w.heap.size ≤ k_) ∧ some k_ ≠ (v310 : Value).ownBlock ∧ some k_ ≠ (.slice Ao60 t312.length co60 : Value).ownBlock ∧ some k_ ≠ (.slice Ao59 t316.length co59 : Value).ownBlock) (Kd.S_N (Kd.S_bound ho0)) (fun k_ hk_ => ⟨(.inr (Nat.le_trans (below_size bB) hk_.2.1)), (Kd.fresh' (Kd.N_lt (by (with_reducible repeat (first | apply Kd.N_alloc | apply Kd.N_drewN | apply Kd.N_drew)); exact HO_7.out)) k_ hk_.2.1), (Kd.fresh' (Kd.N_lt (by (with_reducible repeat (first | apply Kd.N_alloc | apply Kd.N_drewN | apply Kd.N_drew)); exact HO_9.out)) k_ hk_.2.1), (Kd.fresh' (Kd.N_lt (by (with_reducible repeat (first | apply Kd.N_alloc | apply Kd.N_drewN | apply Kd.N_drew)); exact HO_11.out)) k_ hk_.2.1)⟩)) (below_size bB)); have n5_ := Aside0.mk (below_step bB hb); clear HO_0; clear HO_7; clear HO_9; clear HO_11; clear HB; have HO_0 := n0_; have HO_7 := n1_; have HO_9 := n2_; have HO_11 := n3_; have HO323 := n4_; have HB := n5_; clear n0_ n1_ n2_ n3_ n4_ n5_; (try clear hb); (try clear hb2); (try clear hk); (try clear hi); (try clear ho0)) | ((with_reducible refine gate_callee (f := 25) rfl ?_); refine goesL_ (some 102) rfl rfl Tryd.func25 (by kernel_rfl) rfl #[.slice Ao60 t312.length co60] rfl aV ?_; (with_reducible refine (impl_Invert.calls kj41 _ _ t312 t324 true _ ?side1 ?side2 ?side3 A53.out).mono ?_); (case side1 => exact TabOK.below HT.out bB); (case side2 => repeat (first | exact (Kd.N_reads' HO_9.out).2.2 | (with_reducible refine Kd.C_alloc ?_ _) | (with_reducible refine Kd.C_drewN ?_ _) | (with_reducible refine Kd.C_drew ?_))); (case side3 => exact (Kd.N_reads' HO_9.out).2.1); rintro e w62 ⟨v326, rfl, ho0, hb⟩; refine ⟨_, rfl, ?_⟩; have n0_ := Aside0.mk (Kd.V_elder' (kV HO_0.out) (Kd.N_base (Kd.S_N ho0)) hb); have n1_ := Aside0.mk (Kd.N_elder' (by (with_reducible repeat (first | apply Kd.N_alloc | apply Kd.N_drewN | apply Kd.N_drew)); exact HO_7.out) (Kd.N_base (Kd.S_N ho0)) hb); have n2_ := Aside0.mk (Kd.N_elder' (by (with_reducible repeat (first | apply Kd.N_alloc | apply Kd.N_drewN | apply Kd.N_drew)); exact HO_9.out) (Kd.N_base (Kd.S_N ho0)) hb); have n3_ := Aside0.mk (Kd.N_elder' (by (with_reducible repeat (first | apply Kd.N_alloc | apply Kd.N_drewN | apply Kd.N_drew)); exact HO_11.out) (Kd.N_base (Kd.S_N ho0)) hb); have n4_ := Aside0.mk (Kd.N_elder' (by (with_reducible repeat (first | apply Kd.N_alloc | apply Kd.N_drewN | apply Kd.N_drew)); exact HO323.out) (Kd.N_base (Kd.S_N ho0)) hb); have n5_ := Aside0.mk (Kd.N_lower (Kd.N_mono (ok' := fun k_ => ((P0_ k_ ∨ P1_ k_) ∨ w.heap.size ≤ k_) ∧ some k_ ≠ (v310 : Value).ownBlock ∧ some k_ ≠ (.slice Ao60 t312.length co60 : Value).ownBlock ∧ some k_ ≠ (.slice Ao59 t316.length co59 : Value).ownBlock ∧ some k_ ≠ (v322 : Value).ownBlock) (Kd.S_N (Kd.S_bound ho0)) (fun k_ hk_ => ⟨(.inr (Nat.le_trans (below_size bB) hk_.2.1)), (Kd.fresh' (Kd.N_lt (by (with_reducible repeat (first | apply Kd.N_alloc | apply Kd.N_drewN | apply Kd.N_drew)); exact HO_7.out)) k_ hk_.2.1), (Kd.fresh' (Kd.N_lt (by (with_reducible repeat (first | apply Kd.N_alloc | apply Kd.N_drewN | apply Kd.N_drew)); exact HO_9.out)) k_ hk_.2.1), (Kd.fresh' (Kd.N_lt (by (with_reducible repeat (first | apply Kd.N_alloc | apply Kd.N_drewN | apply Kd.N_drew)); exact HO_11.out)) k_ hk_.2.1), (Kd.fresh' (Kd.N_lt (by (with_reducible repeat (first | apply Kd.N_alloc | apply Kd.N_drewN | apply Kd.N_drew)); exact HO323.out)) k_ hk_.2.1)⟩)) (below_size bB)); have n6_ := Aside0.mk (below_step bB hb); clear HO_0; clear HO_7; clear HO_9; clear HO_11; clear HO323; clear HB; have HO_0 := n0_; have HO_7 := n1_; have HO_9 := n2_; have HO_11 := n3_; have HO323 := n4_; have HO327 := n5_; have HB := n6_; clear n0_ n1_ n2_ n3_ n4_ n5_ n6_; (try clear hb); (try clear hb2); (try clear hk); (try clear hi); (try clear ho0); obtain ⟨Ao63, co63, eo63⟩ := Kd.N_slice HO_7.out; subst eo63; obtain ⟨Ao64, co64, eo64⟩ := Kd.N_slice HO323.out; subst eo64) | (go_at_call 17; (with_reducible refine (spec_EqualMatrices.calls kj41 _ _ t308 _ _ t320 true _ ?side1 ?side2 ?side3 ?side4 A56.out).mono ?_); (case side1 => repeat (first | exact (Kd.N_reads' HO_7.out).2.2 | (with_reducible refine Kd.C_alloc ?_ _) | (with_reducible refine Kd.C_drewN ?_ _) | (with_reducible refine Kd.C_drew ?_))); (case side2 => exact (Kd.N_reads' HO_7.out).2.1); (case side3 => repeat (first | exact (Kd.N_reads' HO323.out).2.2 | (with_reducible refine Kd.C_alloc ?_ _) | (with_reducible refine Kd.C_drewN ?_ _) | (with_reducible refine Kd.C_drew ?_))); (case side4 => exact (Kd.N_reads' HO323.out).2.1); rintro e w' ⟨rfl, ⟨nd, rfl⟩⟩; obtain ⟨Ao65, co65, eo65⟩ := Kd.N_slice HO327.out; subst eo65) | (go_at_call 17; (with_reducible refine (spec_EqualMatrices.calls kj41 _ _ t324 _ _ l0 t329 _ ?side1 ?side2 ?side3 ?side4 A58.out).mono ?_); (case side1 => repeat (first | exact (Kd.N_reads' HO327.out).2.2 | (with_reducible refine Kd.C_alloc ?_ _) | (with_reducible refine Kd.C_drewN ?_ _) | (with_reducible refine Kd.C_drew ?_))); (case side2 => exact (Kd.N_reads' HO327.out).2.1); (case side3 => repeat (first | exact (Kd.V_reads' HO_0.out).2.2 | (with_reducible refine Kd.C_alloc ?_ _) | (with_reducible refine Kd.C_drewN ?_ _) | (with_reducible refine Kd.C_drew ?_))); (case side4 => exact (Kd.V_reads' HO_0.out).2.1); rintro e w' ⟨rfl, ⟨nd, rfl⟩⟩))
              go_ret
              exact ⟨by first | rfl | (simp [errW_none, errW_some] <;> rfl) | (simp [*, errW_none, errW_some] <;> rfl), bB⟩
             ·replace c57 := Bool.eq_false_iff.mpr c57
              subst c57
              have H1 : (some false) = some r := by rw [if_neg (show ¬ (false = true) by decide)] at H; exact H
              clear H
              have H := H1
              clear H1
              obtain rfl := Option.some.inj H
              obtain ⟨Ao66, co66, eo66⟩ := Kd.N_slice HO_11.out
              subst eo66
              obtain ⟨Ao67, co67, eo67⟩ := Kd.N_slice HO_9.out
              subst eo67
              go_wp2_with (first | ((with_reducible refine gate_callee (f := 21) rfl ?_); refine goesL_ (some 97) rfl rfl Tryd.func21 (by kernel_rfl) rfl #[.slice Ao66 t316.length co66, .slice Ao67 t312.length co67] rfl aV ?_; (with_reducible refine (impl_Multiply.calls kj41 _ _ t316 _ _ t312 t320 true _ ?side1 ?side2 ?side3 ?side4 ?side5 A52.out).mono ?_); (case side1 => exact TabOK.below HT.out bB); (case side2 => repeat (first | exact (Kd.N_reads' HO_11.out).2.2 | (with_reducible refine Kd.C_alloc ?_ _) | (with_reducible refine Kd.C_drewN ?_ _) | (with_reducible refine Kd.C_drew ?_))); (case side3 => exact (Kd.N_reads' HO_11.out).2.1); (case side4 => repeat (first | exact (Kd.N_reads' HO_9.out).2.2 | (with_reducible refine Kd.C_alloc ?_ _) | (with_reducible refine Kd.C_drewN ?_ _) | (with_reducible refine Kd.C_drew ?_))); (case side5 => exact (Kd.N_reads' HO_9.out).2.1); rintro e w68 ⟨v322, rfl, ho0, hb⟩; refine ⟨_, rfl, ?_⟩; have n0_ := Aside0.mk (Kd.V_elder' (kV HO_0.out) (Kd.N_base (Kd.S_N ho0)) hb); have n1_ := Aside0.mk (Kd.N_elder' (by (with_reducible repeat (first | apply Kd.N_alloc | apply Kd.N_drewN | apply Kd.N_drew)); exact HO_7.out) (Kd.N_base (Kd.S_N ho0)) hb); have n2_ := Aside0.mk (Kd.N_elder' (by (with_reducible repeat (first | apply Kd.N_alloc | apply Kd.N_drewN | apply Kd.N_drew)); exact HO_9.out) (Kd.N_base (Kd.S_N ho0)) hb); have n3_ := Aside0.mk (Kd.N_elder' (by (with_reducible repeat (first | apply Kd.N_alloc | apply Kd.N_drewN | apply Kd.N_drew)); exact HO_11.out) (Kd.N_base (Kd.S_N ho0)) hb); have n4_ := Aside0.mk (Kd.N_lower (Kd.N_mono (ok' := fun k_ => ((P0_ k_ ∨ P1_ k_) ∨ w.heap.size ≤ k_) ∧ some k_ ≠ (v310 : Value).ownBlock ∧ some k_ ≠ (.slice Ao67 t312.length co67 : Value).ownBlock ∧ some k_ ≠ (.slice Ao66 t316.length co66 : Value).ownBlock) (Kd.S_N (Kd.S_bound ho0)) (fun k_ hk_ => ⟨(.inr (Nat.le_trans (below_size bB) hk_.2.1)), (Kd.fresh' (Kd.N_lt (by (with_reducible repeat (first | apply Kd.N_alloc | apply Kd.N_drewN | apply Kd.N_drew)); exact HO_7.out)) k_ hk_.2.1), (Kd.fresh' (Kd.N_lt (by (with_reducible repeat (first | apply Kd.N_alloc | apply Kd.N_drewN | apply Kd.N_drew)); exact HO_9.out)) k_ hk_.2.1), (Kd.fresh' (Kd.N_lt (by (with_reducible repeat (first | apply Kd.N_alloc | apply Kd.N_drewN | apply Kd.N_drew)); exact HO_11.out)) k_ hk_.2.1)⟩)) (below_size bB)); have n5_ := Aside0.mk (below_step bB hb); clear HO_0; clear HO_7; clear HO_9; clear HO_11; clear HB; have HO_0 := n0_; have HO_7 := n1_; have HO_9 := n2_; have HO_11 := n3_; have HO323 := n4_; have HB := n5_; clear n0_ n1_ n2_ n3_ n4_ n5_; (try clear hb); (try clear hb2); (try clear hk); (try clear hi); (try clear ho0)) | ((with_reducible refine gate_callee (f := 25) rfl ?_); refine goesL_ (some 102) rfl rfl Tryd.func25 (by kernel_rfl) rfl #[.slice Ao67 t312.length co67] rfl aV ?_; (with_reducible refine (impl_Invert.calls kj41 _ _ t312 t324 true _ ?side1 ?side2 ?side3 A53.out).mono ?_); (case side1 => exact TabOK.below HT.out bB); (case side2 => repeat (first | exact (Kd.N_reads' HO_9.out).2.2 | (with_reducible refine Kd.C_alloc ?_ _) | (with_reducible refine Kd.C_drewN ?_ _) | (with_reducible refine Kd.C_drew ?_))); (case side3 => exact (Kd.N_reads' HO_9.out).2.1); rintro e w69 ⟨v326, rfl, ho0, hb⟩; refine ⟨_, rfl, ?_⟩; have n0_ := Aside0.mk (Kd.V_elder' (kV HO_0.out) (Kd.N_base (Kd.S_N ho0)) hb); have n1_ := Aside0.mk (Kd.N_elder' (by (with_reducible repeat (first | apply Kd.N_alloc | apply Kd.N_drewN | apply Kd.N_drew)); exact HO_7.out) (Kd.N_base (Kd.S_N ho0)) hb); have n2_ := Aside0.mk (Kd.N_elder' (by (with_reducible repeat (first | apply Kd.N_alloc | apply Kd.N_drewN | apply Kd.N_drew)); exact HO_9.out) (Kd.N_base (Kd.S_N ho0)) hb); have n3_ := Aside0.mk (Kd.N_elder' (by (with_reducible repeat (first | apply Kd.N_alloc | apply Kd.N_drewN | apply Kd.N_drew)); exact HO_11.out) (Kd.N_base (Kd.S_N ho0)) hb); have n4_ := Aside0.mk (Kd.N_elder' (by (with_reducible repeat (first | apply Kd.N_alloc | apply Kd.N_drewN | apply Kd.N_drew)); exact HO323.out) (Kd.N_base (Kd.S_N ho0)) hb); have n5_ := Aside0.mk (Kd.N_lower (Kd.N_mono (ok' := fun k_ => ((P0_ k_ ∨ P1_ k_) ∨ w.heap.size ≤ k_) ∧ some k_ ≠ (v310 : Value).ownBlock ∧ some k_ ≠ (.slice Ao67 t312.length co67 : Value).ownBlock ∧ some k_ ≠ (.slice Ao66 t316.length co66 : Value).ownBlock ∧ some k_ ≠ (v322 : Value).ownBlock) (Kd.S_N (Kd.S_bound ho0)) (fun k_ hk_ => ⟨(.inr (Nat.le_trans (below_size bB) hk_.2.1)), (Kd.fresh' (Kd.N_lt (by (with_reducible repeat (first | apply Kd.N_alloc | apply Kd.N_drewN | apply Kd.N_drew)); exact HO_7.out)) k_ hk_.2.1), (Kd.fresh' (Kd.N_lt (by (with_reducible repeat (first | apply Kd.N_alloc | apply Kd.N_drewN | apply Kd.N_drew)); exact HO_9.out)) k_ hk_.2.1), (Kd.fresh' (Kd.N_lt (by (with_reducible repeat (first | apply Kd.N_alloc | apply Kd.N_drewN | apply Kd.N_drew)); exact HO_11.out)) k_ hk_.2.1), (Kd.fresh' (Kd.N_lt (by (with_reducible repeat (first | apply Kd.N_alloc | apply Kd.N_drewN | apply Kd.N_drew)); exact HO323.out)) k_ hk_.2.1)⟩)) (below_size bB)); have n6_ := Aside0.mk (below_step bB hb); clear HO_0; clear HO_7; clear HO_9; clear HO_11; clear HO323; clear HB; have HO_0 := n0_; have HO_7 := n1_; have HO_9 := n2_; have HO_11 := n3_; have HO323 := n4_; have HO327 := n5_; have HB := n6_; clear n0_ n1_ n2_ n3_ n4_ n5_ n6_; (try clear hb); (try clear hb2); (try clear hk); (try clear hi); (try clear ho0); obtain ⟨Ao70, co70, eo70⟩ := Kd.N_slice HO_7.out; subst eo70; obtain ⟨Ao71, co71, eo71⟩ := Kd.N_slice HO323.out; subst eo71) | (go_at_call 17; (with_reducible refine (spec_EqualMatrices.calls kj41 _ _ t308 _ _ t320 false _ ?side1 ?side2 ?side3 ?side4 A56.out).mono ?_); (case side1 => repeat (first | exact (Kd.N_reads' HO_7.out).2.2 | (with_reducible refine Kd.C_alloc ?_ _) | (with_reducible refine Kd.C_drewN ?_ _) | (with_reducible refine Kd.C_drew ?_))); (case side2 => exact (Kd.N_reads' HO_7.out).2.1); (case side3 => repeat (first | exact (Kd.N_reads' HO323.out).2.2 | (with_reducible refine Kd.C_alloc ?_ _) | (with_reducible refine Kd.C_drewN ?_ _) | (with_reducible refine Kd.C_drew ?_))); (case side4 => exact (Kd.N_reads' HO323.out).2.1); rintro e w' ⟨rfl, ⟨nd, rfl⟩⟩))
              go_ret
              exact ⟨by first | rfl | (simp [errW_none, errW_some] <;> rfl) | (simp [*, errW_none, errW_some] <;> rfl), bB⟩
            ·replace c55 := Bool.eq_false_iff.mpr c55
             subst c55
             have H1 : (some false) = some r := by rw [if_neg (show ¬ (false = true) by decide)] at H; exact H
             clear H
             have H := H1
             clear H1
             obtain rfl := Option.some.inj H
             obtain ⟨Ao72, co72, eo72⟩ := Kd.N_slice HO_11.out
             subst eo72
             obtain ⟨Ao73, co73, eo73⟩ := Kd.N_slice HO_9.out
             subst eo73
             go_wp2_with (first | ((with_reducible refine gate_callee (f := 21) rfl ?_); refine goesL_ (some 97) rfl rfl Tryd.func21 (by kernel_rfl) rfl #[.slice Ao72 t316.length co72, .slice Ao73 t312.length co73] rfl aV ?_; (with_reducible refine (impl_Multiply.calls kj41 _ _ t316 _ _ t312 t320 true _ ?side1 ?side2 ?side3 ?side4 ?side5 A52.out).mono ?_); (case side1 => exact TabOK.below HT.out bB); (case side2 => repeat (first | exact (Kd.N_reads' HO_11.out).2.2 | (with_reducible refine Kd.C_alloc ?_ _) | (with_reducible refine Kd.C_drewN ?_ _) | (with_reducible refine Kd.C_drew ?_))); (case side3 => exact (Kd.N_reads' HO_11.out).2.1); (case side4 => repeat (first | exact (Kd.N_reads' HO_9.out).2.2 | (with_reducible refine Kd.C_alloc ?_ _) | (with_reducible refine Kd.C_drewN ?_ _) | (with_reducible refine Kd.C_drew ?_))); (case side5 => exact (Kd.N_reads' HO_9.out).2.1); rintro e w74 ⟨v322, rfl, ho0, hb⟩; refine ⟨_, rfl, ?_⟩; have n0_ := Aside0.mk (Kd.V_elder' (kV HO_0.out) (Kd.N_base (Kd.S_N ho0)) hb); have n1_ := Aside0.mk (Kd.N_elder' (by (with_reducible repeat (first | apply Kd.N_alloc | apply Kd.N_drewN | apply Kd.N_drew)); exact HO_7.out) (Kd.N_base (Kd.S_N ho0)) hb); have n2_ := Aside0.mk (Kd.N_elder' (by (with_reducible repeat (first | apply Kd.N_alloc | apply Kd.N_drewN | apply Kd.N_drew)); exact HO_9.out) (Kd.N_base (Kd.S_N ho0)) hb); have n3_ := Aside0.mk (Kd.N_elder' (by (with_reducible repeat (first | apply Kd.N_alloc | apply Kd.N_drewN | apply Kd.N_drew)); exact HO_11.out) (Kd.N_base (Kd.S_N ho0)) hb); have n4_ := Aside0.mk (Kd.N_lower (Kd.N_mono (ok' := fun k_ => ((P0_ k_ ∨ P1_ k_) ∨ w.heap.size ≤ k_) ∧ some k_ ≠ (v310 : Value).ownBlock ∧ some k_ ≠ (.slice Ao73 t312.length co73 : Value).ownBlock ∧ some k_ ≠ (.slice Ao72 t316.length co72 : Value).ownBlock) (Kd.S_N (Kd.S_bound ho0)) (fun k_ hk_ => ⟨(.inr (Nat.le_trans (below_size bB) hk_.2.1)), (Kd.fresh' (Kd.N_lt (by (with_reducible repeat (first | apply Kd.N_alloc | apply Kd.N_drewN | apply Kd.N_drew)); exact HO_7.out)) k_ hk_.2.1), (Kd.fresh' (Kd.N_lt (by (with_reducible repeat (first | apply Kd.N_alloc | apply Kd.N_drewN | apply Kd.N_drew)); exact HO_9.out)) k_ hk_.2.1), (Kd.fresh' (Kd.N_lt (by (with_reducible repeat (first | apply Kd.N_alloc | apply Kd.N_drewN | apply Kd.N_drew)); exact HO_11.out)) k_ hk_.2.1)⟩)) (below_size bB)); have n5_ := Aside0.mk (below_step bB hb); clear HO_0; clear HO_7; clear HO_9; clear HO_11; clear HB; have HO_0 := n0_; have HO_7 := n1_; have HO_9 := n2_; have HO_11 := n3_; have HO323 := n4_; have HB := n5_; clear n0_ n1_ n2_ n3_ n4_ n5_; (try clear hb); (try clear hb2); (try clear hk); (try clear hi); (try clear ho0)) | ((with_reducible refine gate_callee (f := 25) rfl ?_); refine goesL_ (some 102) rfl rfl Tryd.func25 (by kernel_rfl) rfl #[.slice Ao73 t312.length co73] rfl aV ?_; (with_reducible refine (impl_Invert.calls kj41 _ _ t312 t324 false _ ?side1 ?side2 ?side3 A53.out).mono ?_); (case side1 => exact TabOK.below HT.out bB); (case side2 => repeat (first | exact (Kd.N_reads' HO_9.out).2.2 | (with_reducible refine Kd.C_alloc ?_ _) | (with_reducible refine Kd.C_drewN ?_ _) | (with_reducible refine Kd.C_drew ?_))); (case side3 => exact (Kd.N_reads' HO_9.out).2.1); rintro e w75 ⟨v326, rfl, ho0, hb⟩; refine ⟨_, rfl, ?_⟩; have n0_ := Aside0.mk (Kd.V_elder' (kV HO_0.out) (Kd.N_base (Kd.S_N ho0)) hb); have n1_ := Aside0.mk (Kd.N_elder' (by (with_reducible repeat (first | apply Kd.N_alloc | apply Kd.N_drewN | apply Kd.N_drew)); exact HO_7.out) (Kd.N_base (Kd.S_N ho0)) hb); have n2_ := Aside0.mk (Kd.N_elder' (by (with_reducible repeat (first | apply Kd.N_alloc | apply Kd.N_drewN | apply Kd.N_drew)); exact HO_9.out) (Kd.N_base (Kd.S_N ho0)) hb); have n3_ := Aside0.mk (Kd.N_elder' (by (with_reducible repeat (first | apply Kd.N_alloc | apply Kd.N_drewN | apply Kd.N_drew)); exact HO_11.out) (Kd.N_base (Kd.S_N ho0)) hb); have n4_ := Aside0.mk (Kd.N_elder' (by (with_reducible repeat (first | apply Kd.N_alloc | apply Kd.N_drewN | apply Kd.N_drew)); exact HO323.out) (Kd.N_base (Kd.S_N ho0)) hb); have n5_ := Aside0.mk (Kd.N_lower (Kd.N_mono (ok' := fun k_ => ((P0_ k_ ∨ P1_ k_) ∨ w.heap.size ≤ k_) ∧ some k_ ≠ (v310 : Value).ownBlock ∧ some k_ ≠ (.slice Ao73 t312.length co73 : Value).ownBlock ∧ some k_ ≠ (.slice Ao72 t316.length co72 : Value).ownBlock ∧ some k_ ≠ (v322 : Value).ownBlock) (Kd.S_N (Kd.S_bound ho0)) (fun k_ hk_ => ⟨(.inr (Nat.le_trans (below_size bB) hk_.2.1)), (Kd.fresh' (Kd.N_lt (by (with_reducible repeat (first | apply Kd.N_alloc | apply Kd.N_drewN | apply Kd.N_drew)); exact HO_7.out)) k_ hk_.2.1), (Kd.fresh' (Kd.N_lt (by (with_reducible repeat (first | apply Kd.N_alloc | apply Kd.N_drewN | apply Kd.N_drew)); exact HO_9.out)) k_ hk_.2.1), (Kd.fresh' (Kd.N_lt (by (with_reducible repeat (first | apply Kd.N_alloc | apply Kd.N_drewN | apply Kd.N_drew)); exact HO_11.out)) k_ hk_.2.1), (Kd.fresh' (Kd.N_lt (by (with_reducible repeat (first | apply Kd.N_alloc | apply Kd.N_drewN | apply Kd.N_drew)); exact HO323.out)) k_ hk_.2.1)⟩)) (below_size bB)); have n6_ := Aside0.mk (below_step bB hb); clear HO_0; clear HO_7; clear HO_9; clear HO_11; clear HO323; clear HB; have HO_0 := n0_; have HO_7 := n1_; have HO_9 := n2_; have HO_11 := n3_; have HO323 := n4_; have HO327 := n5_; have HB := n6_; clear n0_ n1_ n2_ n3_ n4_ n5_ n6_; (try clear hb); (try clear hb2); (try clear hk); (try clear hi); (try clear ho0)))
             go_ret
             exact ⟨by first | rfl | (simp [errW_none, errW_some] <;> rfl) | (simp [*, errW_none, errW_some] <;> rfl), bB⟩
           ·replace c54 := Bool.eq_false_iff.mpr c54
            subst c54
            have H1 : (some false) = some r := by rw [if_neg (show ¬ (false = true) by decide)] at H; exact H
            clear H
            have H := H1
            clear H1
            obtain rfl := Option.some.inj H
            obtain ⟨Ao76, co76, eo76⟩ := Kd.N_slice HO_11.out
            subst eo76
            obtain ⟨Ao77, co77, eo77⟩ := Kd.N_slice HO_9.out
            subst eo77
            go_wp2_with (first | ((with_reducible refine gate_callee (f := 21) rfl ?_); refine goesL_ (some 97) rfl rfl Tryd.func21 (by kernel_rfl) rfl #[.slice Ao76 t316.length co76, .slice Ao77 t312.length co77] rfl aV ?_; (with_reducible refine (impl_Multiply.calls kj41 _ _ t316 _ _ t312 t320 false _ ?side1 ?side2 ?side3 ?side4 ?side5 A52.out).mono ?_); (case side1 => exact TabOK.below HT.out bB); (case side2 => repeat (first | exact (Kd.N_reads' HO_11.out).2.2 | (with_reducible refine Kd.C_alloc ?_ _) | (with_reducible refine Kd.C_drewN ?_ _) | (with_reducible refine Kd.C_drew ?_))); (case side3 => exact (Kd.N_reads' HO_11.out).2.1); (case side4 => repeat (first | exact (Kd.N_reads' HO_9.out).2.2 | (with_reducible refine Kd.C_alloc ?_ _) | (with_reducible refine Kd.C_drewN ?_ _) | (with_reducible refine Kd.C_drew ?_))); (case side5 => exact (Kd.N_reads' HO_9.out).2.1); rintro e w78 ⟨v322, rfl, ho0, hb⟩; refine ⟨_, rfl, ?_⟩; have n0_ := Aside0.mk (Kd.V_elder' (kV HO_0.out) (Kd.N_base (Kd.S_N ho0)) hb); have n1_ := Aside0.mk (Kd.N_elder' (by (with_reducible repeat (first | apply Kd.N_alloc | apply Kd.N_drewN | apply Kd.N_drew)); exact HO_7.out) (Kd.N_base (Kd.S_N ho0)) hb); have n2_ := Aside0.mk (Kd.N_elder' (by (with_reducible repeat (first | apply Kd.N_alloc | apply Kd.N_drewN | apply Kd.N_drew)); exact HO_9.out) (Kd.N_base (Kd.S_N ho0)) hb); have n3_ := Aside0.mk (Kd.N_elder' (by (with_reducible repeat (first | apply Kd.N_alloc | apply Kd.N_drewN | apply Kd.N_drew)); exact HO_11.out) (Kd.N_base (Kd.S_N ho0)) hb); have n4_ := Aside0.mk (Kd.N_lower (Kd.N_mono (ok' := fun k_ => ((P0_ k_ ∨ P1_ k_) ∨ w.heap.size ≤ k_) ∧ some k_ ≠ (v310 : Value).ownBlock ∧ some k_ ≠ (.slice Ao77 t312.length co77 : Value).ownBlock ∧ some k_ ≠ (.slice Ao76 t316.length co76 : Value).ownBlock) (Kd.S_N (Kd.S_bound ho0)) (fun k_ hk_ => ⟨(.inr (Nat.le_trans (below_size bB) hk_.2.1)), (Kd.fresh' (Kd.N_lt (by (with_reducible repeat (first | apply Kd.N_alloc | apply Kd.N_drewN | apply Kd.N_drew)); exact HO_7.out)) k_ hk_.2.1), (Kd.fresh' (Kd.N_lt (by (with_reducible repeat (first | apply Kd.N_alloc | apply Kd.N_drewN | apply Kd.N_drew)); exact HO_9.out)) k_ hk_.2.1), (Kd.fresh' (Kd.N_lt (by (with_reducible repeat (first | apply Kd.N_alloc | apply Kd.N_drewN | apply Kd.N_drew)); exact HO_11.out)) k_ hk_.2.1)⟩)) (below_size bB)); have n5_ := Aside0.mk (below_step bB hb); clear HO_0; clear HO_7; clear HO_9; clear HO_11; clear HB; have HO_0 := n0_; have HO_7 := n1_; have HO_9 := n2_; have HO_11 := n3_; have HO323 := n4_; have HB := n5_; clear n0_ n1_ n2_ n3_ n4_ n5_; (try clear hb); (try clear hb2); (try clear hk); (try clear hi); (try clear ho0)) | ((with_reducible refine gate_callee (f := 25) rfl ?_); refine goesL_ (some 102) rfl rfl Tryd.func25 (by kernel_rfl) rfl #[.slice Ao77 t312.length co77] rfl aV ?_; (with_reducible refine (impl_Invert.calls kj41 _ _ t312 t324 t325 _ ?side1 ?side2 ?side3 A53.out).mono ?_); (case side1 => exact TabOK.below HT.out bB); (case side2 => repeat (first | exact (Kd.N_reads' HO_9.out).2.2 | (with_reducible refine Kd.C_alloc ?_ _) | (with_reducible refine Kd.C_drewN ?_ _) | (with_reducible refine Kd.C_drew ?_))); (case side3 => exact (Kd.N_reads' HO_9.out).2.1); rintro e w79 ⟨v326, rfl, ho0, hb⟩; refine ⟨_, rfl, ?_⟩; have n0_ := Aside0.mk (Kd.V_elder' (kV HO_0.out) (Kd.N_base (Kd.S_N ho0)) hb); have n1_ := Aside0.mk (Kd.N_elder' (by (with_reducible repeat (first | apply Kd.N_alloc | apply Kd.N_drewN | apply Kd.N_drew)); exact HO_7.out) (Kd.N_base (Kd.S_N ho0)) hb); have n2_ := Aside0.mk (Kd.N_elder' (by (with_reducible repeat (first | apply Kd.N_alloc | apply Kd.N_drewN | apply Kd.N_drew)); exact HO_9.out) (Kd.N_base (Kd.S_N ho0)) hb); have n3_ := Aside0.mk (Kd.N_elder' (by (with_reducible repeat (first | apply Kd.N_alloc | apply Kd.N_drewN | apply Kd.N_drew)); exact HO_11.out) (Kd.N_base (Kd.S_N ho0)) hb); have n4_ := Aside0.mk (Kd.N_elder' (by (with_reducible repeat (first | apply Kd.N_alloc | apply Kd.N_drewN | apply Kd.N_drew)); exact HO323.out) (Kd.N_base (Kd.S_N ho0)) hb); have n5_ := Aside0.mk (Kd.N_lower (Kd.N_mono (ok' := fun k_ => ((P0_ k_ ∨ P1_ k_) ∨ w.heap.size ≤ k_) ∧ some k_ ≠ (v310 : Value).ownBlock ∧ some k_ ≠ (.slice Ao77 t312.length co77 : Value).ownBlock ∧ some k_ ≠ (.slice Ao76 t316.length co76 : Value).ownBlock ∧ some k_ ≠ (v322 : Value).ownBlock) (Kd.S_N (Kd.S_bound ho0)) (fun k_ hk_ => ⟨(.inr (Nat.le_trans (below_size bB) hk_.2.1)), (Kd.fresh' (Kd.N_lt (by (with_reducible repeat (first | apply Kd.N_alloc | apply Kd.N_drewN | apply Kd.N_drew)); exact HO_7.out)) k_ hk_.2.1), (Kd.fresh' (Kd.N_lt (by (with_reducible repeat (first | apply Kd.N_alloc | apply Kd.N_drewN | apply Kd.N_drew)); exact HO_9.out)) k_ hk_.2.1), (Kd.fresh' (Kd.N_lt (by (with_reducible repeat (first | apply Kd.N_alloc | apply Kd.N_drewN | apply Kd.N_drew)); exact HO_11.out)) k_ hk_.2.1), (Kd.fresh' (Kd.N_lt (by (with_reducible repeat (first | apply Kd.N_alloc | apply Kd.N_drewN | apply Kd.N_drew)); exact HO323.out)) k_ hk_.2.1)⟩)) (below_size bB)); have n6_ := Aside0.mk (below_step bB hb); clear HO_0; clear HO_7; clear HO_9; clear HO_11; clear HO323; clear HB; have HO_0 := n0_; have HO_7 := n1_; have HO_9 := n2_; have HO_11 := n3_; have HO323 := n4_; have HO327 := n5_; have HB := n6_; clear n0_ n1_ n2_ n3_ n4_ n5_ n6_; (try clear hb); (try clear hb2); (try clear hk); (try clear hi); (try clear ho0)))
            go_ret
            exact ⟨by first | rfl | (simp [errW_none, errW_some] <;> rfl) | (simp [*, errW_none, errW_some] <;> rfl), bB⟩
          ·replace c51 := Bool.eq_false_iff.mpr c51
           subst c51
           have H1 : (some true) = some r := by rw [if_neg (show ¬ (false = true) by decide)] at H; exact H
           clear H
           have H := H1
           clear H1
           obtain rfl := Option.some.inj H
           go_wp2
           go_ret
           exact ⟨by first | rfl | (simp [errW_none, errW_some] <;> rfl) | (simp [*, errW_none, errW_some] <;> rfl), bB⟩

end Go.Proofs.YtipbhclpeogcmaaDoor.M

