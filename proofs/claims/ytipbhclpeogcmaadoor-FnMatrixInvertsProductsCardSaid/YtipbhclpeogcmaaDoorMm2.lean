-- Written by a program of ours (wip/xp) out of the translation; Lean checks it.
import Derived.Test.YtipbhclpeogcmaaDoorSq
import Derived.Test.YtipbhclpeogcmaaDoorMm1
namespace Go.Proofs.YtipbhclpeogcmaaDoor.M
open Go.RowKit Go.Proofs.YtipbhclpeogcmaaDoorW.PrintWords Go.Proofs.YtipbhclpeogcmaaDoorW.PrintLast Go.Proofs.YtipbhclpeogcmaaDoorW.PrintMore
attribute [local go_sem] max2_int min2_int max_two min_two max_three min_three max_four min_four   -- for this text's walks alone
set_option linter.unusedVariables false
set_option linter.unusedSimpArgs false

/-! ### reedsolomon_matrix_Augment: function 60 -/
mutual
def reedsolomon_matrix_Augment.l0 : Nat → List (List Int) → List (List Int) → List (List Int) → List (List Int) → Int → Int → Option ((List (List Int)) × Option Int)
 | 0, _, _, _, _, _, _ => none
 | k + 1, x0, x1, x6, x34, x35, x36 => if x36 < x35 then (if 0 ≤ x36 then (if x36 < (x34.length : Int) then (reedsolomon_matrix_Augment.l1 k x0 x1 x6 x36 x34 x35 x36 ((rd_L1 x34 x36).length : Int) 0) else (none)) else (none)) else (some (x6, none))
def reedsolomon_matrix_Augment.l1 : Nat → List (List Int) → List (List Int) → List (List Int) → Int → List (List Int) → Int → Int → Int → Int → Option ((List (List Int)) × Option Int)
 | 0, _, _, _, _, _, _, _, _, _ => none
 | k + 1, x0, x1, x6, x8, x34, x35, x36, x42, x43 => if x43 < x42 then (if 0 ≤ x8 then (if x8 < (x6.length : Int) then (if x8 < (x0.length : Int) then (if 0 ≤ x43 then (if x43 < ((rd_L1 x0 x8).length : Int) then (if x43 < ((rd_L1 x6 x8).length : Int) then (reedsolomon_matrix_Augment.l1 k x0 x1 (x6.set (x8 : Int).toNat ((rd_L1 x6 x8).set (x43 : Int).toNat (rd (rd_L1 x0 x8) x43))) x8 x34 x35 x36 x42 (wrap64 (x43 + 1))) else (none)) else (none)) else (none)) else (none)) else (none)) else (none)) else (if 0 < (x0.length : Int) then (if 0 < (x1.length : Int) then (reedsolomon_matrix_Augment.l2 k x0 x1 x6 x8 ((rd_L1 x0 0).length : Int) x34 x35 x36 ((rd_L1 x1 0).length : Int) 0) else (none)) else (none))
def reedsolomon_matrix_Augment.l2 : Nat → List (List Int) → List (List Int) → List (List Int) → Int → Int → List (List Int) → Int → Int → Int → Int → Option ((List (List Int)) × Option Int)
 | 0, _, _, _, _, _, _, _, _, _, _ => none
 | k + 1, x0, x1, x6, x8, x11, x34, x35, x36, x67, x68 => if x68 < x67 then (if 0 ≤ x8 then (if x8 < (x6.length : Int) then (if x8 < (x1.length : Int) then (if 0 ≤ x68 then (if x68 < ((rd_L1 x1 x8).length : Int) then (if 0 ≤ (wrap64 (x11 + x68)) then (if (wrap64 (x11 + x68)) < ((rd_L1 x6 x8).length : Int) then (reedsolomon_matrix_Augment.l2 k x0 x1 (x6.set (x8 : Int).toNat ((rd_L1 x6 x8).set ((wrap64 (x11 + x68)) : Int).toNat (rd (rd_L1 x1 x8) x68))) x8 x11 x34 x35 x36 x67 (wrap64 (x68 + 1))) else (none)) else (none)) else (none)) else (none)) else (none)) else (none)) else (none)) else (reedsolomon_matrix_Augment.l0 k x0 x1 x6 x34 x35 (wrap64 (x36 + 1)))
end
def reedsolomon_matrix_Augment.f (k : Nat) (l0 : List (List Int)) (l1 : List (List Int)) : Option ((List (List Int)) × Option Int) := if (l0.length : Int) = (l1.length : Int) then (if 0 < (l0.length : Int) then (if 0 < (l1.length : Int) then ((reedsolomon_newMatrix.f k (l0.length : Int) (wrap64 (((rd_L1 l0 0).length : Int) + ((rd_L1 l1 0).length : Int)))).bind fun bt186 => (reedsolomon_matrix_Augment.l0 k l0 l1 bt186.1 l0 (l0.length : Int) 0)) else (none)) else (none)) else (some (([] : List (List Int)), some 7))
theorem reedsolomon_matrix_Augment.mono_l : ∀ k, (∀ y0 y1 y2 y3 y4 y5, LeO (reedsolomon_matrix_Augment.l0 k y0 y1 y2 y3 y4 y5) (reedsolomon_matrix_Augment.l0 (k + 1) y0 y1 y2 y3 y4 y5)) ∧ (∀ y0 y1 y2 y3 y4 y5 y6 y7 y8, LeO (reedsolomon_matrix_Augment.l1 k y0 y1 y2 y3 y4 y5 y6 y7 y8) (reedsolomon_matrix_Augment.l1 (k + 1) y0 y1 y2 y3 y4 y5 y6 y7 y8)) ∧ (∀ y0 y1 y2 y3 y4 y5 y6 y7 y8 y9, LeO (reedsolomon_matrix_Augment.l2 k y0 y1 y2 y3 y4 y5 y6 y7 y8 y9) (reedsolomon_matrix_Augment.l2 (k + 1) y0 y1 y2 y3 y4 y5 y6 y7 y8 y9))
 | 0 => ⟨fun _ _ _ _ _ _ r h => by simp [reedsolomon_matrix_Augment.l0] at h, fun _ _ _ _ _ _ _ _ _ r h => by simp [reedsolomon_matrix_Augment.l1] at h, fun _ _ _ _ _ _ _ _ _ _ r h => by simp [reedsolomon_matrix_Augment.l2] at h⟩
 | k + 1 => by
  obtain ⟨ih0, ih1, ih2⟩ := reedsolomon_matrix_Augment.mono_l k
  refine ⟨?_, ?_, ?_⟩
  ·intro y0 y1 y2 y3 y4 y5
   unfold reedsolomon_matrix_Augment.l0
   repeat' first
   | (with_reducible exact ih0 _ _ _ _ _ _)
   | (with_reducible exact ih1 _ _ _ _ _ _ _ _ _)
   | (with_reducible exact ih2 _ _ _ _ _ _ _ _ _ _)
   | (with_reducible exact reedsolomon_newMatrix.mono _ _ _)
   | (with_reducible exact LeO.refl _)
   | (with_reducible exact LeO.none _)
   | (with_reducible refine LeO.ite ?_ ?_)
   | (with_reducible refine LeO.bind ?_ (fun _ => ?_))
   | exact ih0 _ _ _ _ _ _
   | exact ih1 _ _ _ _ _ _ _ _ _
   | exact ih2 _ _ _ _ _ _ _ _ _ _
   | exact reedsolomon_newMatrix.mono _ _ _
   | exact LeO.none _
   | refine LeO.ite ?_ ?_
   | refine LeO.bind ?_ (fun _ => ?_)
  ·intro y0 y1 y2 y3 y4 y5 y6 y7 y8
   unfold reedsolomon_matrix_Augment.l1
   repeat' first
   | (with_reducible exact ih0 _ _ _ _ _ _)
   | (with_reducible exact ih1 _ _ _ _ _ _ _ _ _)
   | (with_reducible exact ih2 _ _ _ _ _ _ _ _ _ _)
   | (with_reducible exact reedsolomon_newMatrix.mono _ _ _)
   | (with_reducible exact LeO.refl _)
   | (with_reducible exact LeO.none _)
   | (with_reducible refine LeO.ite ?_ ?_)
   | (with_reducible refine LeO.bind ?_ (fun _ => ?_))
   | exact ih0 _ _ _ _ _ _
   | exact ih1 _ _ _ _ _ _ _ _ _
   | exact ih2 _ _ _ _ _ _ _ _ _ _
   | exact reedsolomon_newMatrix.mono _ _ _
   | exact LeO.none _
   | refine LeO.ite ?_ ?_
   | refine LeO.bind ?_ (fun _ => ?_)
  ·intro y0 y1 y2 y3 y4 y5 y6 y7 y8 y9
   unfold reedsolomon_matrix_Augment.l2
   repeat' first
   | (with_reducible exact ih0 _ _ _ _ _ _)
   | (with_reducible exact ih1 _ _ _ _ _ _ _ _ _)
   | (with_reducible exact ih2 _ _ _ _ _ _ _ _ _ _)
   | (with_reducible exact reedsolomon_newMatrix.mono _ _ _)
   | (with_reducible exact LeO.refl _)
   | (with_reducible exact LeO.none _)
   | (with_reducible refine LeO.ite ?_ ?_)
   | (with_reducible refine LeO.bind ?_ (fun _ => ?_))
   | exact ih0 _ _ _ _ _ _
   | exact ih1 _ _ _ _ _ _ _ _ _
   | exact ih2 _ _ _ _ _ _ _ _ _ _
   | exact reedsolomon_newMatrix.mono _ _ _
   | exact LeO.none _
   | refine LeO.ite ?_ ?_
   | refine LeO.bind ?_ (fun _ => ?_)
theorem reedsolomon_matrix_Augment.mono : ∀ a0 a1 k, LeO (reedsolomon_matrix_Augment.f k a0 a1) (reedsolomon_matrix_Augment.f (k + 1) a0 a1) := by
 intro a0 a1 k
 obtain ⟨ih0, ih1, ih2⟩ := reedsolomon_matrix_Augment.mono_l k
 unfold reedsolomon_matrix_Augment.f
 repeat' first
   | (with_reducible exact ih0 _ _ _ _ _ _)
   | (with_reducible exact ih1 _ _ _ _ _ _ _ _ _)
   | (with_reducible exact ih2 _ _ _ _ _ _ _ _ _ _)
   | (with_reducible exact reedsolomon_newMatrix.mono _ _ _)
   | (with_reducible exact LeO.refl _)
   | (with_reducible exact LeO.none _)
   | (with_reducible refine LeO.ite ?_ ?_)
   | (with_reducible refine LeO.bind ?_ (fun _ => ?_))
   | exact ih0 _ _ _ _ _ _
   | exact ih1 _ _ _ _ _ _ _ _ _
   | exact ih2 _ _ _ _ _ _ _ _ _ _
   | exact reedsolomon_newMatrix.mono _ _ _
   | exact LeO.none _
   | refine LeO.ite ?_ ?_
   | refine LeO.bind ?_ (fun _ => ?_)
def reedsolomon_matrix_Augment.T3 : Bool × List (List Nat × List Nat) := (true, [([], []), ([0], [0]), ([], []), ([2], [2]), ([3], [3]), ([4], [4]), ([], []), ([6], [6]), ([7], [7]), ([8], [8]), ([5, 9], [5, 9]), ([1, 10], [1, 10]), ([11], [11]), ([12], [12]), ([12], [12]), ([13, 11, 0, 1, 2, 3, 4, 5, 6, 7, 8, 9, 10, 11, 12, 13], [13]), ([14, 15, 0, 1, 2, 3, 4, 5, 6, 7, 8, 9, 10, 11, 12, 13, 14, 15], [14])])
def reedsolomon_matrix_Augment.B3 : List Nat := [0, 1, 0, 4, 12, 28, 0, 64, 192, 448, 1020, 2047, 4095, 8191, 8191, 16383, 65535]
theorem reedsolomon_matrix_Augment.tab3 : rtab .any (opsOf Tryd.f60 3) = reedsolomon_matrix_Augment.T3 := by kernel_rfl
theorem reedsolomon_matrix_Augment.bits3 : waitsOk reedsolomon_matrix_Augment.T3.2 reedsolomon_matrix_Augment.B3 = true := by kernel_rfl
def reedsolomon_matrix_Augment.T10 : Bool × List (List Nat × List Nat) := (true, [([], []), ([], []), ([0, 1], [0, 1]), ([2], [2]), ([], []), ([], []), ([], []), ([5, 6], [5, 6]), ([7], [7]), ([], []), ([8, 9], [8, 9]), ([10], [10]), ([3, 4, 0, 1, 2, 3, 4, 5, 6, 7, 8, 9, 10, 11], [3, 4]), ([12, 11, 0, 1, 2, 3, 4, 5, 6, 7, 8, 9, 10, 11], [11, 12])])
def reedsolomon_matrix_Augment.B10 : List Nat := [0, 0, 3, 7, 0, 0, 0, 96, 224, 0, 992, 2016, 4095, 8191]
theorem reedsolomon_matrix_Augment.tab10 : rtab .any (opsOf Tryd.f60 10) = reedsolomon_matrix_Augment.T10 := by kernel_rfl
theorem reedsolomon_matrix_Augment.bits10 : waitsOk reedsolomon_matrix_Augment.T10.2 reedsolomon_matrix_Augment.B10 = true := by kernel_rfl
def reedsolomon_matrix_Augment.T16 : Bool × List (List Nat × List Nat) := (true, [([], []), ([], []), ([0, 1], [0, 1]), ([2], [2]), ([], []), ([], []), ([4, 5], [4, 5]), ([], []), ([], []), ([7, 8], [7, 8]), ([9], [9]), ([], []), ([10, 11], [10, 11]), ([12], [12]), ([3, 6, 0, 1, 2, 3, 4, 5, 6, 7, 8, 9, 10, 11, 12, 13], [3, 6]), ([14, 13, 0, 1, 2, 3, 4, 5, 6, 7, 8, 9, 10, 11, 12, 13], [13, 14])])
def reedsolomon_matrix_Augment.B16 : List Nat := [0, 0, 3, 7, 0, 0, 48, 0, 0, 384, 896, 0, 3968, 8064, 16383, 32767]
theorem reedsolomon_matrix_Augment.tab16 : rtab .any (opsOf Tryd.f60 16) = reedsolomon_matrix_Augment.T16 := by kernel_rfl
theorem reedsolomon_matrix_Augment.bits16 : waitsOk reedsolomon_matrix_Augment.T16.2 reedsolomon_matrix_Augment.B16 = true := by kernel_rfl
set_option maxHeartbeats 8000000 in
set_option maxRecDepth 100000 in
theorem reedsolomon_matrix_Augment.calls (k : Nat) (A0 : Option Addr) (c0 : Nat) (l0 : List (List Int)) (A1 : Option Addr) (c1 : Nat) (l1 : List (List Int)) (r1 : List (List Int)) (r2 : Option Int) (w : World) (hT : TabOK w) (hr0 : Kd.C (Kd.slice 5 (Kd.int .u8)) w A0 l0.length l0) (hc0 : l0.length ≤ c0) (hr1 : Kd.C (Kd.slice 5 (Kd.int .u8)) w A1 l1.length l1) (hc1 : l1.length ≤ c1) (h : reedsolomon_matrix_Augment.f k l0 l1 = some (r1, r2)) :
  Calls Tryd.prog 60 #[.slice A0 l0.length c0, .slice A1 l1.length c1] w fun e w' => ∃ (T_ : Int → TypeId) (X_ : Int → Value), ∃ v0_ : Value, e = .returned (.tuple #[v0_, errW T_ X_ r2]) ∧ Kd.S (Kd.slice 5 (Kd.int .u8)) 22 w' w.heap.size (fun _ => True) v0_ r1 ∧ Below w.heap.size w w' := by
 obtain ⟨te7_, xe7_, he7_⟩ := hT.er 7 (by decide)
 have HE7_ := Aside0.mk he7_
 clear he7_
 have HT := Aside0.mk hT
 clear hT
 have HR0 := Aside0.mk hr0
 have HC0 := Aside0.mk hc0
 clear hr0 hc0
 have HR1 := Aside0.mk hr1
 have HC1 := Aside0.mk hc1
 clear hr1 hc1
 have HB := Aside0.mk (Below.refl w.heap.size w)
 have H : (if (l0.length : Int) = (l1.length : Int) then (if 0 < (l0.length : Int) then (if 0 < (l1.length : Int) then ((reedsolomon_newMatrix.f k (l0.length : Int) (wrap64 (((rd_L1 l0 0).length : Int) + ((rd_L1 l1 0).length : Int)))).bind fun bt186 => (reedsolomon_matrix_Augment.l0 k l0 l1 bt186.1 l0 (l0.length : Int) 0)) else (none)) else (none)) else (some (([] : List (List Int)), some 7))) = some (r1, r2) := h
 clear h
 by_cases c3 : (l0.length : Int) = (l1.length : Int)
 ·rw [if_pos c3] at H
  have c3b0 : ((l0.length : Int) == (l1.length : Int)) = true := beq_iff_eq.mpr c3
  have c3b1 : ((l0.length : Int) != (l1.length : Int)) = false := bne_eq_false_iff_eq.mpr c3
  have c3b2 : (l0.length == l1.length) = true := by first | simpa using c3 | (simp at c3 ⊢; omega)
  clear c3
  by_cases c4 : 0 < (l0.length : Int)
  ·rw [if_pos c4] at H
   have c4b0 : decide (0 < (l0.length : Int)) = true := decide_eq_true c4
   have c4b1 : decide (0 < l0.length) = true := decide_eq_true (by omega)
   clear c4
   by_cases c5 : 0 < (l1.length : Int)
   ·rw [if_pos c5] at H
    have c5b0 : decide (0 < (l1.length : Int)) = true := decide_eq_true c5
    have c5b1 : decide (0 < l1.length) = true := decide_eq_true (by omega)
    clear c5
    replace H := Option.bind_eq_some_iff.mp H
    obtain ⟨⟨t186, t187⟩, A60, H⟩ := H
    replace H : (reedsolomon_matrix_Augment.l0 k l0 l1 t186 l0 (l0.length : Int) 0) = some (r1, r2) := H
    have A6 := Aside0.mk A60
    clear A60
    have H' := Aside0.mk H
    clear H
    go_enter Tryd.func60, Tryd.ntmps60
    try go_wp2
    have n0_ := Aside0.mk (below_drew1 HB.out)
    clear HB
    have HB := n0_
    clear n0_
    have p184 : 0 ≤ (0 : Int) := (by omega)
    have q184 : 0 < (l0.length : Int) := dA
    obtain ⟨ad184, A184_0, c184_0, e184, hx184_0, hl184_0, hi184_0⟩ := at_L1 HR0.out 0 p184 q184
    have hw184_0 := hx184_0
    (try rw [show ((0 : Int)).toNat = 0 from rfl] at hw184_0)
    (try rw [show 0 * 1 = 0 from rfl] at hw184_0)
    (try rw [Addr.add_zero'] at hw184_0)
    cases e184
    have qi184 : (0 < l0.length) = True := eq_true (by omega)
    (try rw [show ((0 : Int)).toNat = 0 from rfl] at hx184_0)
    (try rw [Addr.add_zero'] at hx184_0)
    replace hx184_0 := (HB.out.cell (World.block_lt_of_cell? w _ hx184_0)).trans hx184_0
    have HR184_0 := Aside0.mk hi184_0
    have HC184_0 := Aside0.mk hl184_0
    clear hi184_0 hl184_0
    replace p184 := eq_true p184
    replace q184 := eq_true q184
    have p185 : 0 ≤ (0 : Int) := (by omega)
    have q185 : 0 < (l1.length : Int) := dA
    obtain ⟨ad185, A185_0, c185_0, e185, hx185_0, hl185_0, hi185_0⟩ := at_L1 HR1.out 0 p185 q185
    have hw185_0 := hx185_0
    (try rw [show ((0 : Int)).toNat = 0 from rfl] at hw185_0)
    (try rw [show 0 * 1 = 0 from rfl] at hw185_0)
    (try rw [Addr.add_zero'] at hw185_0)
    cases e185
    have qi185 : (0 < l1.length) = True := eq_true (by omega)
    (try rw [show ((0 : Int)).toNat = 0 from rfl] at hx185_0)
    (try rw [Addr.add_zero'] at hx185_0)
    replace hx185_0 := (HB.out.cell (World.block_lt_of_cell? w _ hx185_0)).trans hx185_0
    have HR185_0 := Aside0.mk hi185_0
    have HC185_0 := Aside0.mk hl185_0
    clear hi185_0 hl185_0
    replace p185 := eq_true p185
    replace q185 := eq_true q185
    refine start_ (n := 17) (S := fun w' => w'.cell? ad184 = some (.slice A184_0 (rd_L1 l0 0).length c184_0) ∧ w'.cell? ad185 = some (.slice A185_0 (rd_L1 l1 0).length c185_0)) (ds := []) #[false, false, false, false, false, false, false, false, false, false, false, false, false, false, false, false, false] (by kernel_rfl) rfl rfl ⟨((HB.out.cell (World.block_lt_of_cell? w _ hw184_0)).trans hw184_0), ((HB.out.cell (World.block_lt_of_cell? w _ hw185_0)).trans hw185_0)⟩ (fun hHeld => ?_); refine with_tabW reedsolomon_matrix_Augment.tab3 reedsolomon_matrix_Augment.bits3 (fun HT_ HW_ => ?_)
    generalize w.drew = w7 at HB HR184_0 HR185_0 hx184_0 hx185_0 hHeld ⊢
    refine pure_ (i := 0) (N := some 20) (v := ?_) (a' := ?_) #[true, false, false, false, false, false, false, false, false, false, false, false, false, false, false, false, false] rfl rfl (any_of HT_.out (by kernel_rfl)) (fun _ _ _ h => h) (Or.inl ⟨by rfl, ?_⟩) ?_ ?_
    rotate_left
    ·intro w'
     go_simp
     with_reducible rfl
    rotate_left
    ·simp only [Act.put, List.setIfInBounds_toArray, List.set_cons_zero, List.set_cons_succ, i64_w, i32_w]
     rfl
    refine pure_ (i := 1) (N := some 21) (v := ?_) (a' := ?_) #[true, true, false, false, false, false, false, false, false, false, false, false, false, false, false, false, false] rfl rfl (any_of HT_.out (by kernel_rfl)) (fun _ _ _ h => h) (Or.inl ⟨by rfl, ?_⟩) ?_ ?_
    rotate_left
    ·intro w'
     go_simp
     with_reducible rfl
    rotate_left
    ·simp only [Act.put, List.setIfInBounds_toArray, List.set_cons_zero, List.set_cons_succ, i64_w, i32_w]
     rfl
    refine pure_ (i := 2) (N := some 22) (v := ?_) (a' := ?_) #[true, true, true, false, false, false, false, false, false, false, false, false, false, false, false, false, false] rfl rfl (any_of HT_.out (by kernel_rfl)) (fun _ _ _ h => h) (Or.inl ⟨by rfl, ?_⟩) ?_ ?_
    rotate_left
    ·intro w'
     go_simp
     with_reducible rfl
    rotate_left
    ·simp only [Act.put, List.setIfInBounds_toArray, List.set_cons_zero, List.set_cons_succ, i64_w, i32_w]
     rfl
    refine pure_ (i := 3) (N := some 23) (v := ?_) (a' := ?_) #[true, true, true, true, false, false, false, false, false, false, false, false, false, false, false, false, false] rfl rfl (any_of HT_.out (by kernel_rfl)) (fun _ _ _ h => h) (Or.inl ⟨by rfl, ?_⟩) ?_ ?_
    rotate_left
    ·intro w'
     go_simp
     with_reducible rfl
    rotate_left
    ·simp only [Act.put, List.setIfInBounds_toArray, List.set_cons_zero, List.set_cons_succ, i64_w, i32_w]
     rfl
    refine pure_ (i := 6) (N := some 26) (v := ?_) (a' := ?_) #[true, true, true, true, false, false, true, false, false, false, false, false, false, false, false, false, false] rfl rfl (any_of HT_.out (by kernel_rfl)) (fun _ _ _ h => h) (Or.inl ⟨by rfl, ?_⟩) ?_ ?_
    rotate_left
    ·intro w'
     go_simp
     with_reducible rfl
    rotate_left
    ·simp only [Act.put, List.setIfInBounds_toArray, List.set_cons_zero, List.set_cons_succ, i64_w, i32_w]
     rfl
    refine pure_ (i := 7) (N := some 27) (v := ?_) (a' := ?_) #[true, true, true, true, false, false, true, true, false, false, false, false, false, false, false, false, false] rfl rfl (any_of HT_.out (by kernel_rfl)) (fun _ _ _ h => h) (Or.inl ⟨by rfl, ?_⟩) ?_ ?_
    rotate_left
    ·intro w'
     go_simp
     with_reducible rfl
    rotate_left
    ·simp only [Act.put, List.setIfInBounds_toArray, List.set_cons_zero, List.set_cons_succ, i64_w, i32_w]
     rfl
    refine take_ (i := 4) (N := some 24) (v := ?_) (a' := ?_) #[true, true, true, true, true, false, true, true, false, false, false, false, false, false, false, false, false] rfl rfl (take_ofW HT_.out HW_.out (by kernel_rfl)) (fun _ _ _ h => h) (Or.inl ⟨by rfl, ?_⟩) hHeld ?_ ?_
    rotate_left
    ·rintro w' ⟨s0, s1⟩
     go_simp
     with_reducible rfl
    rotate_left
    ·simp only [Act.put, List.setIfInBounds_toArray, List.set_cons_zero, List.set_cons_succ, i64_w, i32_w]
     rfl
    refine pure_ (i := 5) (N := some 25) (v := ?_) (a' := ?_) #[true, true, true, true, true, true, true, true, false, false, false, false, false, false, false, false, false] rfl rfl (any_of HT_.out (by kernel_rfl)) (fun _ _ _ h => h) (Or.inl ⟨by rfl, ?_⟩) ?_ ?_
    rotate_left
    ·intro w'
     go_simp
     with_reducible rfl
    rotate_left
    ·simp only [Act.put, List.setIfInBounds_toArray, List.set_cons_zero, List.set_cons_succ, i64_w, i32_w]
     rfl
    refine take_ (i := 8) (N := some 28) (v := ?_) (a' := ?_) #[true, true, true, true, true, true, true, true, true, false, false, false, false, false, false, false, false] rfl rfl (take_ofW HT_.out HW_.out (by kernel_rfl)) (fun _ _ _ h => h) (Or.inl ⟨by rfl, ?_⟩) hHeld ?_ ?_
    rotate_left
    ·rintro w' ⟨s0, s1⟩
     go_simp
     with_reducible rfl
    rotate_left
    ·simp only [Act.put, List.setIfInBounds_toArray, List.set_cons_zero, List.set_cons_succ, i64_w, i32_w]
     rfl
    refine pure_ (i := 9) (N := some 29) (v := ?_) (a' := ?_) #[true, true, true, true, true, true, true, true, true, true, false, false, false, false, false, false, false] rfl rfl (any_of HT_.out (by kernel_rfl)) (fun _ _ _ h => h) (Or.inl ⟨by rfl, ?_⟩) ?_ ?_
    rotate_left
    ·intro w'
     go_simp
     with_reducible rfl
    rotate_left
    ·simp only [Act.put, List.setIfInBounds_toArray, List.set_cons_zero, List.set_cons_succ, i64_w, i32_w]
     rfl
    refine pure_ (i := 10) (N := some 30) (v := ?_) (a' := ?_) #[true, true, true, true, true, true, true, true, true, true, true, false, false, false, false, false, false] rfl rfl (any_of HT_.out (by kernel_rfl)) (fun _ _ _ h => h) (Or.inl ⟨by rfl, ?_⟩) ?_ ?_
    rotate_left
    ·intro w'
     go_simp
     with_reducible rfl
    rotate_left
    ·simp only [Act.put, List.setIfInBounds_toArray, List.set_cons_zero, List.set_cons_succ, i64_w, i32_w]
     rfl
    refine one_ (i := 11) (N := some 31) #[true, true, true, true, true, true, true, true, true, true, true, true, false, false, false, false, false] rfl rfl (one_of HT_.out (by kernel_rfl)) (by decide) (fun K hK => ?_)
    refine goes_ Tryd.func57 (by kernel_rfl) rfl #[.int .i64 (l0.length : Int), .int .i64 (wrap64 (((rd_L1 l0 0).length : Int) + ((rd_L1 l1 0).length : Int)))] (by rfl) rfl rfl aV ?_
    with_reducible refine (reedsolomon_newMatrix.calls k (l0.length : Int) (wrap64 (((rd_L1 l0 0).length : Int) + ((rd_L1 l1 0).length : Int))) t186 t187 _ ?side1 A6.out).mono ?_
    (case side1 => exact TabOK.below HT.out bB)
    rintro e w8 ⟨Tt187, Xt187, v188, rfl, ho0, hb⟩
    refine ⟨_, rfl, ?_⟩
    have n0_ := Aside0.mk (Kd.S_lower ho0 (below_size bB))
    have n1_ := Aside0.mk (below_step bB hb)
    clear HB
    have HO189 := n0_
    have HB := n1_
    clear n0_ n1_
    (try clear hb)
    (try clear hb2)
    (try clear hk)
    (try clear hi)
    (try clear ho0)
    (try simp only [errW_none, errW_some])
    refine hK.out _ _ ⟨((HB.out.cell (World.block_lt_of_cell? w _ hw184_0)).trans hw184_0), ((HB.out.cell (World.block_lt_of_cell? w _ hw185_0)).trans hw185_0)⟩ (fun hHeld => ?_)
    clear hK K
    refine norm_ (a' := ?_) ?_ ?_
    rotate_left
    ·show Act.put _ (some 31) _ = _
     simp only [Act.put, List.setIfInBounds_toArray, List.set_cons_zero, List.set_cons_succ, i64_w, i32_w]
     rfl
    refine pure_ (i := 12) (N := some 19) (v := ?_) (a' := ?_) #[true, true, true, true, true, true, true, true, true, true, true, true, true, false, false, false, false] rfl rfl (any_of HT_.out (by kernel_rfl)) (fun _ _ _ h => h) (Or.inl ⟨by rfl, ?_⟩) ?_ ?_
    rotate_left
    ·intro w'
     go_simp
     with_reducible rfl
    rotate_left
    ·simp only [Act.put, List.setIfInBounds_toArray, List.set_cons_zero, List.set_cons_succ, i64_w, i32_w]
     rfl
    refine pure_ (i := 13) (N := some 32) (v := ?_) (a' := ?_) #[true, true, true, true, true, true, true, true, true, true, true, true, true, true, false, false, false] rfl rfl (any_of HT_.out (by kernel_rfl)) (fun _ _ _ h => h) (Or.inl ⟨by rfl, ?_⟩) ?_ ?_
    rotate_left
    ·intro w'
     go_simp
     with_reducible rfl
    rotate_left
    ·simp only [Act.put, List.setIfInBounds_toArray, List.set_cons_zero, List.set_cons_succ, i64_w, i32_w]
     rfl
    refine pure_ (i := 14) (N := some 33) (v := ?_) (a' := ?_) #[true, true, true, true, true, true, true, true, true, true, true, true, true, true, true, false, false] rfl rfl (any_of HT_.out (by kernel_rfl)) (fun _ _ _ h => h) (Or.inl ⟨by rfl, ?_⟩) ?_ ?_
    rotate_left
    ·intro w'
     go_simp
     with_reducible rfl
    rotate_left
    ·simp only [Act.put, List.setIfInBounds_toArray, List.set_cons_zero, List.set_cons_succ, i64_w, i32_w]
     rfl
    refine pure_ (i := 15) (N := some 6) (v := ?_) (a' := ?_) #[true, true, true, true, true, true, true, true, true, true, true, true, true, true, true, true, false] rfl rfl (any_of HT_.out (by kernel_rfl)) (fun _ _ _ h => h) (Or.inl ⟨by rfl, ?_⟩) ?_ ?_
    rotate_left
    ·intro w'
     go_simp
     with_reducible rfl
    rotate_left
    ·simp only [Act.put, List.setIfInBounds_toArray, List.set_cons_zero, List.set_cons_succ, i64_w, i32_w]
     rfl
    refine pure_ (i := 16) (N := some 7) (v := ?_) (a' := ?_) #[true, true, true, true, true, true, true, true, true, true, true, true, true, true, true, true, true] rfl rfl (any_of HT_.out (by kernel_rfl)) (fun _ _ _ h => h) (Or.inl ⟨by rfl, ?_⟩) ?_ ?_
    rotate_left
    ·intro w'
     go_simp
     with_reducible rfl
    rotate_left
    ·simp only [Act.put, List.setIfInBounds_toArray, List.set_cons_zero, List.set_cons_succ, i64_w, i32_w]
     rfl
    refine done_ (done_of HT_.out (by kernel_rfl)) ?_
    try go_wp2
    go_loopg [36] k (fun kq v36 w' => ∃ (x6_1 : List (List Int)) (x36_1 : Int), v36 = .int .i64 x36_1 ∧ Aside0 (reedsolomon_matrix_Augment.l0 kq l0 l1 x6_1 l0 (l0.length : Int) x36_1 = some (r1, r2)) ∧ Aside0 (kq ≤ k) ∧ Aside0 (Kd.S (Kd.slice 5 (Kd.int .u8)) 22 w' w.heap.size (fun _ => True) v188 x6_1) ∧ Aside0 (Below w.heap.size w w'))
    case atStart => exact ⟨(t186), (0), (by first | rfl | (simp; done) | (simp [*]; done)), H', ⟨Nat.le_refl _⟩, ⟨by (with_reducible repeat (first | apply Kd.S_alloc | apply Kd.S_drewN | apply Kd.S_drew)); exact HO189.out⟩, ⟨bB⟩⟩
    case round =>
     clear H'
     try clear c1
     try clear p1
     try clear q1
     try clear hx1
     try clear qi1
     try clear p2
     try clear c3
     try clear c3b0
     try clear c3b1
     try clear c3b2
     try clear c4
     try clear c4b0
     try clear c4b1
     try clear c5
     try clear c5b0
     try clear c5b1
     try clear c6
     try clear p6
     try clear hx184_0
     try clear hx185_0
     try clear p184
     try clear p185
     try clear q184
     try clear q185
     obtain ⟨x6_1, x36_1, rfl, HA, HK1, HO_6, HB⟩ := hrel
     cases gk with
     | zero => exact absurd HA.out (by simp [reedsolomon_matrix_Augment.l0])
     | succ k1 =>
      have H := HA.out
      clear HA
      simp only [reedsolomon_matrix_Augment.l0] at H
      by_cases c9 : x36_1 < (l0.length : Int)
      ·rw [if_pos c9] at H
       have c9b0 : decide (x36_1 < (l0.length : Int)) = true := decide_eq_true c9
       clear c9
       by_cases c10 : 0 ≤ x36_1
       ·rw [if_pos c10] at H
        have c10b0 : decide (0 ≤ x36_1) = true := decide_eq_true c10
        clear c10
        by_cases c11 : x36_1 < (l0.length : Int)
        ·rw [if_pos c11] at H
         have c11b0 : decide (x36_1 < (l0.length : Int)) = true := decide_eq_true c11
         clear c11
         have H' := Aside0.mk H
         clear H
         have p190 : 0 ≤ (x36_1 : Int) := dA
         have q190 : x36_1 < (l0.length : Int) := dA
         obtain ⟨ad190, A190_0, c190_0, e190, hx190_0, hl190_0, hi190_0⟩ := at_L1 HR0.out x36_1 p190 q190
         obtain rfl : ad184 = ad190 := (by injection e190)
         replace hx190_0 := (HB.out.cell (World.block_lt_of_cell? w _ hx190_0)).trans hx190_0
         have HR190_0 := Aside0.mk hi190_0
         have HC190_0 := Aside0.mk hl190_0
         clear hi190_0 hl190_0
         replace p190 := eq_true p190
         replace q190 := eq_true q190
         go_wp2
         go_loopg [43] k1 (fun kq v43 w' => ∃ (x6_2 : List (List Int)) (x43_2 : Int), v43 = .int .i64 x43_2 ∧ Aside0 (reedsolomon_matrix_Augment.l1 kq l0 l1 x6_2 x36_1 l0 (l0.length : Int) x36_1 ((rd_L1 l0 x36_1).length : Int) x43_2 = some (r1, r2)) ∧ Aside0 (kq ≤ k1) ∧ Aside0 (Kd.S (Kd.slice 5 (Kd.int .u8)) 22 w' w.heap.size (fun _ => True) v188 x6_2) ∧ Aside0 (Below w.heap.size w w'))
         case atStart => exact ⟨(x6_1), (0), (by first | rfl | (simp; done) | (simp [*]; done)), H', ⟨Nat.le_refl _⟩, ⟨by (with_reducible repeat (first | apply Kd.S_alloc | apply Kd.S_drewN | apply Kd.S_drew)); exact HO_6.out⟩, ⟨bB⟩⟩
         case round =>
          clear H'
          try clear c1
          try clear p1
          try clear q1
          try clear hx1
          try clear qi1
          try clear p2
          try clear c3
          try clear c3b0
          try clear c3b1
          try clear c3b2
          try clear c4
          try clear c4b0
          try clear c4b1
          try clear c5
          try clear c5b0
          try clear c5b1
          try clear c6
          try clear p6
          try clear c9
          try clear c9b0
          try clear c10
          try clear c10b0
          try clear c11
          try clear c11b0
          try clear hx184_0
          try clear hx185_0
          try clear hx190_0
          try clear p1
          try clear p184
          try clear p185
          try clear p190
          try clear p2
          try clear p6
          try clear q1
          try clear q184
          try clear q185
          try clear q190
          obtain ⟨x6_2, x43_2, rfl, HA, HK2, HO_6, HB⟩ := hrel
          cases gk with
          | zero => exact absurd HA.out (by simp [reedsolomon_matrix_Augment.l1])
          | succ k2 =>
           have H := HA.out
           clear HA
           simp only [reedsolomon_matrix_Augment.l1] at H
           by_cases c12 : x43_2 < ((rd_L1 l0 x36_1).length : Int)
           ·rw [if_pos c12] at H
            have c12b0 : decide (x43_2 < ((rd_L1 l0 x36_1).length : Int)) = true := decide_eq_true c12
            clear c12
            by_cases c13 : 0 ≤ x36_1
            ·rw [if_pos c13] at H
             have c13b0 : decide (0 ≤ x36_1) = true := decide_eq_true c13
             clear c13
             by_cases c14 : x36_1 < (x6_2.length : Int)
             ·rw [if_pos c14] at H
              have c14b0 : decide (x36_1 < (x6_2.length : Int)) = true := decide_eq_true c14
              clear c14
              by_cases c15 : x36_1 < (l0.length : Int)
              ·rw [if_pos c15] at H
               have c15b0 : decide (x36_1 < (l0.length : Int)) = true := decide_eq_true c15
               clear c15
               by_cases c16 : 0 ≤ x43_2
               ·rw [if_pos c16] at H
                have c16b0 : decide (0 ≤ x43_2) = true := decide_eq_true c16
                clear c16
                by_cases c17 : x43_2 < ((rd_L1 l0 x36_1).length : Int)
                ·rw [if_pos c17] at H
                 have c17b0 : decide (x43_2 < ((rd_L1 l0 x36_1).length : Int)) = true := decide_eq_true c17
                 clear c17
                 by_cases c18 : x43_2 < ((rd_L1 x6_2 x36_1).length : Int)
                 ·rw [if_pos c18] at H
                  have c18b0 : decide (x43_2 < ((rd_L1 x6_2 x36_1).length : Int)) = true := decide_eq_true c18
                  clear c18
                  obtain ⟨y194, hy194⟩ : ∃ y_ : List Int, y_ = ((rd_L1 x6_2 x36_1).set (x43_2 : Int).toNat (rd (rd_L1 l0 x36_1) x43_2)) := ⟨_, rfl⟩
                  replace H : (reedsolomon_matrix_Augment.l1 k2 l0 l1 (x6_2.set (x36_1 : Int).toNat y194) x36_1 l0 (l0.length : Int) x36_1 ((rd_L1 l0 x36_1).length : Int) (wrap64 (x43_2 + 1))) = some (r1, r2) := by first | (rw [hy194]; with_reducible exact H) | (have H2_ := (Option.bind_some _ _).symm.trans H; rw [hy194]; with_reducible exact H2_) | (have H2_ := (Option.bind_some _ _).symm.trans H; with_reducible exact H2_) | with_reducible exact H | (rw [hy194]; exact H) | exact H
                  have Ny194 := Aside0.mk hy194
                  clear hy194
                  obtain ⟨y196, hy196⟩ : ∃ y_ : List (List Int), y_ = (x6_2.set (x36_1 : Int).toNat y194) := ⟨_, rfl⟩
                  replace H : (reedsolomon_matrix_Augment.l1 k2 l0 l1 y196 x36_1 l0 (l0.length : Int) x36_1 ((rd_L1 l0 x36_1).length : Int) (wrap64 (x43_2 + 1))) = some (r1, r2) := by first | (rw [hy196]; with_reducible exact H) | (have H2_ := (Option.bind_some _ _).symm.trans H; rw [hy196]; with_reducible exact H2_) | (have H2_ := (Option.bind_some _ _).symm.trans H; with_reducible exact H2_) | with_reducible exact H | (rw [hy196]; exact H) | exact H
                  have Ny196 := Aside0.mk hy196
                  clear hy196
                  have H' := Aside0.mk H
                  clear H
                  try go_wp2
                  have n0_ := Aside0.mk (Kd.S_drew HO_6.out)
                  have n1_ := Aside0.mk (below_drew1 HB.out)
                  clear HO_6
                  clear HB
                  have HO_6 := n0_
                  have HB := n1_
                  clear n0_ n1_
                  obtain ⟨Ao21, co21, eo21⟩ := Kd.S_slice HO_6.out
                  (first | subst eo21 | (injection eo21 with f1_ f2_ f3_; have f4_ := f1_.symm; have f5_ := f3_.symm; clear f1_ f2_ f3_; subst f4_; subst f5_))
                  have p191 : 0 ≤ (x36_1 : Int) := dA
                  have q191 : x36_1 < (x6_2.length : Int) := dA
                  obtain ⟨ad191, A191_0, c191_0, e191, hx191_0, hl191_0, hi191_0⟩ := at_L1 (Kd.S_reads' HO_6.out).2.2 x36_1 p191 q191
                  cases e191
                  obtain ⟨ce191, hce191, hMe191, hcc191⟩ := Kd.S_get HO_6.out [] x36_1 p191 (by first | exact q191 | exact dA | (have e_ := (Kd.S_reads' HO_6.out).1; omega))
                  obtain ⟨ve191_0, rfl, ge191_0⟩ := hMe191
                  have hv191_0 := hcc191 0 _ rfl
                  rw [Nat.add_zero, show ((Kd.slice 5 (Kd.int .u8))).sz = 1 from rfl, Nat.mul_one] at hv191_0
                  replace hv191_0 := Option.some.inj (hv191_0.symm.trans hx191_0)
                  rw [hv191_0] at ge191_0
                  have HL191_0 := Aside0.mk (show Kd.R (Kd.int .u8) 5 _ _ _ _ (rd_L1 x6_2 x36_1) from ge191_0)
                  clear hv191_0 ge191_0
                  have HX191_0 := Aside0.mk hx191_0
                  clear hcc191 hce191
                  have HR191_0 := Aside0.mk hi191_0
                  have HC191_0 := Aside0.mk hl191_0
                  clear hi191_0 hl191_0
                  replace p191 := eq_true p191
                  replace q191 := eq_true q191
                  have p192 : 0 ≤ (x36_1 : Int) := dA
                  have q192 : x36_1 < (l0.length : Int) := dA
                  obtain ⟨ad192, A192_0, c192_0, e192, hx192_0, hl192_0, hi192_0⟩ := at_L1 HR0.out x36_1 p192 q192
                  have hw192_0 := hx192_0
                  obtain rfl : ad184 = ad192 := (by injection e192)
                  replace hx192_0 := (HB.out.cell (World.block_lt_of_cell? w _ hx192_0)).trans hx192_0
                  have HR192_0 := Aside0.mk hi192_0
                  have HC192_0 := Aside0.mk hl192_0
                  clear hi192_0 hl192_0
                  replace p192 := eq_true p192
                  replace q192 := eq_true q192
                  have p193 : 0 ≤ (x43_2 : Int) := dA
                  have q193 : x43_2 < ((rd_L1 l0 x36_1).length : Int) := dA
                  obtain ⟨ad193, e193, hx193_0⟩ := Kd.at_int HR192_0.out x43_2 p193 q193
                  have hw193_0 := hx193_0
                  cases e193
                  replace hx193_0 := (HB.out.cell (World.block_lt_of_cell? w _ hx193_0)).trans hx193_0
                  replace p193 := eq_true p193
                  replace q193 := eq_true q193
                  have p19 : 0 ≤ (x43_2 : Int) := dA
                  have q19 : (x43_2 : Int) < (((rd_L1 x6_2 x36_1).length : Int) : Int) := dA
                  obtain ⟨go19, co19, eo19, gb19, gl19, cl19, HG19⟩ := Kd.R_form HL191_0.out (by omega)
                  (first | cases eo19 | (injection eo19 with ea_ en_ ec_; (first | subst ea_ | (injection ea_ with ea_; subst ea_)); subst ec_; clear en_))
                  have GB19 := Aside0.mk gb19
                  have GG19 := Aside0.mk HG19
                  clear gb19 gl19 HG19
                  obtain ⟨hx19_0, hf19_0⟩ := Kd.R_celln 0 HL191_0.out (x43_2 : Int) p19 q19
                  replace p19 := eq_true p19
                  replace q19 := eq_true q19
                  have hq22 : (x36_1 : Int) < (x6_2.length : Int) := (by have h_ : (x36_1 : Int) < ((x6_2.length : Int) : Int) := dA; first | exact h_ | (have e_ := (Kd.S_reads' HO_6.out).1; omega) | simpa only [List.length_set, List.length_set] using h_)
                  obtain ⟨oki22, ce22, hcl22, hM22, hcc22, hok22, hbk22⟩ := Kd.S_borrow HO_6.out [] (x36_1 : Int) dA hq22
                  obtain ⟨ve22_0, rfl, ge22_0⟩ := hM22
                  have hv22 := hcc22 0 _ rfl
                  rw [Nat.add_zero, show ((Kd.slice 5 (Kd.int .u8))).sz = 1 from rfl, Nat.mul_one] at hv22
                  replace hv22 := Option.some.inj (hv22.symm.trans HX191_0.out)
                  subst hv22
                  clear hcc22 hcl22
                  replace ge22_0 := (show Kd.R (Kd.int .u8) 5 _ _ _ _ (rd_L1 x6_2 x36_1) from ge22_0)
                  have HP22 := Kd.R_putg ge22_0 (x43_2 : Int) (rd (rd_L1 l0 x36_1) x43_2)
                  rw [← Ny194.out] at HP22
                  have HS22 := hbk22 HP22.2 (fun k_ e_ => by injection e_ with e_; subst e_; exact ge22_0.1 _ rfl) (x' := y194) (Kd.M_row HP22.1)
                  rw [← Ny196.out] at HS22
                  have HQ22 := Aside0.mk HS22
                  clear HP22 HS22 hbk22 hok22
                  refine start_ (n := 14) (S := fun w' => w'.cell? (ad191.add (x36_1).toNat) = some (.slice (some ⟨go19, 0, none⟩) (rd_L1 x6_2 x36_1).length c191_0) ∧ w'.cell? (ad184.add (x36_1).toNat) = some (.slice (some ad193) (rd_L1 l0 x36_1).length c192_0) ∧ w'.cell? (ad193.add (x43_2).toNat) = some (.int .u8 (rd (rd_L1 l0 x36_1) x43_2))) (ds := [13]) #[false, false, false, false, false, false, false, false, false, false, false, false, false, false] (by kernel_rfl) rfl rfl ⟨hx191_0, ((HB.out.cell (World.block_lt_of_cell? w _ hw192_0)).trans hw192_0), ((HB.out.cell (World.block_lt_of_cell? w _ hw193_0)).trans hw193_0)⟩ (fun hHeld => ?_); refine with_tabW reedsolomon_matrix_Augment.tab10 reedsolomon_matrix_Augment.bits10 (fun HT_ HW_ => ?_)
                  generalize wr.drew = w20 at HO_6 HB GG19 HL191_0 HQ22 HR191_0 HR192_0 HX191_0 hf19_0 hx191_0 hx192_0 hx193_0 hx19_0 hHeld ⊢
                  refine pure_ (i := 0) (N := some 46) (v := ?_) (a' := ?_) #[true, false, false, false, false, false, false, false, false, false, false, false, false, false] rfl rfl (any_of HT_.out (by kernel_rfl)) (fun _ _ _ h => h) (Or.inl ⟨by rfl, ?_⟩) ?_ ?_
                  rotate_left
                  ·intro w'
                   go_simp
                   with_reducible rfl
                  rotate_left
                  ·simp only [Act.put, List.setIfInBounds_toArray, List.set_cons_zero, List.set_cons_succ, i64_w, i32_w]
                   rfl
                  refine pure_ (i := 1) (N := some 47) (v := ?_) (a' := ?_) #[true, true, false, false, false, false, false, false, false, false, false, false, false, false] rfl rfl (any_of HT_.out (by kernel_rfl)) (fun _ _ _ h => h) (Or.inl ⟨by rfl, ?_⟩) ?_ ?_
                  rotate_left
                  ·intro w'
                   go_simp
                   with_reducible rfl
                  rotate_left
                  ·simp only [Act.put, List.setIfInBounds_toArray, List.set_cons_zero, List.set_cons_succ, i64_w, i32_w]
                   rfl
                  refine pure_ (i := 2) (N := some 48) (v := ?_) (a' := ?_) #[true, true, true, false, false, false, false, false, false, false, false, false, false, false] rfl rfl (any_of HT_.out (by kernel_rfl)) (fun _ _ _ h => h) (Or.inl ⟨by rfl, ?_⟩) ?_ ?_
                  rotate_left
                  ·intro w'
                   go_simp
                   with_reducible rfl
                  rotate_left
                  ·simp only [Act.put, List.setIfInBounds_toArray, List.set_cons_zero, List.set_cons_succ, i64_w, i32_w]
                   rfl
                  refine pure_ (i := 4) (N := some 50) (v := ?_) (a' := ?_) #[true, true, true, false, true, false, false, false, false, false, false, false, false, false] rfl rfl (any_of HT_.out (by kernel_rfl)) (fun _ _ _ h => h) (Or.inl ⟨by rfl, ?_⟩) ?_ ?_
                  rotate_left
                  ·intro w'
                   go_simp
                   with_reducible rfl
                  rotate_left
                  ·simp only [Act.put, List.setIfInBounds_toArray, List.set_cons_zero, List.set_cons_succ, i64_w, i32_w]
                   rfl
                  refine pure_ (i := 5) (N := some 51) (v := ?_) (a' := ?_) #[true, true, true, false, true, true, false, false, false, false, false, false, false, false] rfl rfl (any_of HT_.out (by kernel_rfl)) (fun _ _ _ h => h) (Or.inl ⟨by rfl, ?_⟩) ?_ ?_
                  rotate_left
                  ·intro w'
                   go_simp
                   with_reducible rfl
                  rotate_left
                  ·simp only [Act.put, List.setIfInBounds_toArray, List.set_cons_zero, List.set_cons_succ, i64_w, i32_w]
                   rfl
                  refine pure_ (i := 6) (N := some 52) (v := ?_) (a' := ?_) #[true, true, true, false, true, true, true, false, false, false, false, false, false, false] rfl rfl (any_of HT_.out (by kernel_rfl)) (fun _ _ _ h => h) (Or.inl ⟨by rfl, ?_⟩) ?_ ?_
                  rotate_left
                  ·intro w'
                   go_simp
                   with_reducible rfl
                  rotate_left
                  ·simp only [Act.put, List.setIfInBounds_toArray, List.set_cons_zero, List.set_cons_succ, i64_w, i32_w]
                   rfl
                  refine pure_ (i := 7) (N := some 53) (v := ?_) (a' := ?_) #[true, true, true, false, true, true, true, true, false, false, false, false, false, false] rfl rfl (any_of HT_.out (by kernel_rfl)) (fun _ _ _ h => h) (Or.inl ⟨by rfl, ?_⟩) ?_ ?_
                  rotate_left
                  ·intro w'
                   go_simp
                   with_reducible rfl
                  rotate_left
                  ·simp only [Act.put, List.setIfInBounds_toArray, List.set_cons_zero, List.set_cons_succ, i64_w, i32_w]
                   rfl
                  refine pure_ (i := 9) (N := some 55) (v := ?_) (a' := ?_) #[true, true, true, false, true, true, true, true, false, true, false, false, false, false] rfl rfl (any_of HT_.out (by kernel_rfl)) (fun _ _ _ h => h) (Or.inl ⟨by rfl, ?_⟩) ?_ ?_
                  rotate_left
                  ·intro w'
                   go_simp
                   with_reducible rfl
                  rotate_left
                  ·simp only [Act.put, List.setIfInBounds_toArray, List.set_cons_zero, List.set_cons_succ, i64_w, i32_w]
                   rfl
                  refine take_ (i := 3) (N := some 49) (v := ?_) (a' := ?_) #[true, true, true, true, true, true, true, true, false, true, false, false, false, false] rfl rfl (take_ofW HT_.out HW_.out (by kernel_rfl)) (fun _ _ _ h => h) (Or.inl ⟨by rfl, ?_⟩) hHeld ?_ ?_
                  rotate_left
                  ·rintro w' ⟨s0, s1, s2⟩
                   go_simp
                   with_reducible rfl
                  rotate_left
                  ·simp only [Act.put, List.setIfInBounds_toArray, List.set_cons_zero, List.set_cons_succ, i64_w, i32_w]
                   rfl
                  refine take_ (i := 8) (N := some 54) (v := ?_) (a' := ?_) #[true, true, true, true, true, true, true, true, true, true, false, false, false, false] rfl rfl (take_ofW HT_.out HW_.out (by kernel_rfl)) (fun _ _ _ h => h) (Or.inl ⟨by rfl, ?_⟩) hHeld ?_ ?_
                  rotate_left
                  ·rintro w' ⟨s0, s1, s2⟩
                   go_simp
                   with_reducible rfl
                  rotate_left
                  ·simp only [Act.put, List.setIfInBounds_toArray, List.set_cons_zero, List.set_cons_succ, i64_w, i32_w]
                   rfl
                  refine pure_ (i := 10) (N := some 56) (v := ?_) (a' := ?_) #[true, true, true, true, true, true, true, true, true, true, true, false, false, false] rfl rfl (any_of HT_.out (by kernel_rfl)) (fun _ _ _ h => h) (Or.inl ⟨by rfl, ?_⟩) ?_ ?_
                  rotate_left
                  ·intro w'
                   go_simp
                   with_reducible rfl
                  rotate_left
                  ·simp only [Act.put, List.setIfInBounds_toArray, List.set_cons_zero, List.set_cons_succ, i64_w, i32_w]
                   rfl
                  refine take_ (i := 11) (N := some 57) (v := ?_) (a' := ?_) #[true, true, true, true, true, true, true, true, true, true, true, true, false, false] rfl rfl (take_ofW HT_.out HW_.out (by kernel_rfl)) (fun _ _ _ h => h) (Or.inl ⟨by rfl, ?_⟩) hHeld ?_ ?_
                  rotate_left
                  ·rintro w' ⟨s0, s1, s2⟩
                   go_simp
                   with_reducible rfl
                  rotate_left
                  ·simp only [Act.put, List.setIfInBounds_toArray, List.set_cons_zero, List.set_cons_succ, i64_w, i32_w]
                   rfl
                  refine pure_ (i := 12) (N := some 58) (v := ?_) (a' := ?_) #[true, true, true, true, true, true, true, true, true, true, true, true, true, false] rfl rfl (any_of HT_.out (by kernel_rfl)) (fun _ _ _ h => h) (Or.inl ⟨by rfl, ?_⟩) ?_ ?_
                  rotate_left
                  ·intro w'
                   go_simp
                   with_reducible rfl
                  rotate_left
                  ·simp only [Act.put, List.setIfInBounds_toArray, List.set_cons_zero, List.set_cons_succ, i64_w, i32_w]
                   rfl
                  refine last_ (i := 13) (N := none) #[true, true, true, true, true, true, true, true, true, true, true, true, true, true] rfl rfl (one_of HT_.out (by kernel_rfl)) (by decide) (fun K hK => ?_)
                  refine skip_ (w1 := ?_) (by rfl) rfl ?_ ?_
                  rotate_left
                  ·go_simp
                   rfl
                  refine hK.out _ _ ?_
                  clear hK K
                  refine done_ (done_of HT_.out (by kernel_rfl)) ?_
                  try go_wp2
                  go_roundg k2
                  case measure => have := HK1.out; have := HK2.out; omega
                  case rel => exact ⟨(y196), (wrap64 (x43_2 + 1)), (by first | rfl | (simp; done) | (simp [*]; done)), H', ⟨by have := HK1.out; have := HK2.out; omega⟩, ⟨by (with_reducible repeat (first | apply Kd.S_alloc | apply Kd.S_drewN | apply Kd.S_drew)); exact HQ22.out⟩, ⟨by repeat (first | (with_reducible first | exact HB.out | apply below_alloc | apply pw_below_drewN | apply below_drew1 | refine below_set ?_ GB19.out) | exact HB.out)⟩⟩
                 ·rw [if_neg c18] at H
                  exact absurd H (by simp)
                ·rw [if_neg c17] at H
                 exact absurd H (by simp)
               ·rw [if_neg c16] at H
                exact absurd H (by simp)
              ·rw [if_neg c15] at H
               exact absurd H (by simp)
             ·rw [if_neg c14] at H
              exact absurd H (by simp)
            ·rw [if_neg c13] at H
             exact absurd H (by simp)
           ·rw [if_neg c12] at H
            have c12b0 : decide (x43_2 < ((rd_L1 l0 x36_1).length : Int)) = false := decide_eq_false c12
            clear c12
            by_cases c24 : 0 < (l0.length : Int)
            ·rw [if_pos c24] at H
             have c24b0 : decide (0 < (l0.length : Int)) = true := decide_eq_true c24
             have c24b1 : decide (0 < l0.length) = true := decide_eq_true (by omega)
             clear c24
             by_cases c25 : 0 < (l1.length : Int)
             ·rw [if_pos c25] at H
              have c25b0 : decide (0 < (l1.length : Int)) = true := decide_eq_true c25
              have c25b1 : decide (0 < l1.length) = true := decide_eq_true (by omega)
              clear c25
              have H' := Aside0.mk H
              clear H
              have p197 : 0 ≤ (0 : Int) := (by omega)
              have q197 : 0 < (l0.length : Int) := dA
              obtain ⟨ad197, A197_0, c197_0, e197, hx197_0, hl197_0, hi197_0⟩ := at_L1 HR0.out 0 p197 q197
              obtain rfl : ad184 = ad197 := (by injection e197)
              have qi197 : (0 < l0.length) = True := eq_true (by omega)
              (try rw [show ((0 : Int)).toNat = 0 from rfl] at hx197_0)
              (try rw [Addr.add_zero'] at hx197_0)
              replace hx197_0 := (HB.out.cell (World.block_lt_of_cell? w _ hx197_0)).trans hx197_0
              have HR197_0 := Aside0.mk hi197_0
              have HC197_0 := Aside0.mk hl197_0
              clear hi197_0 hl197_0
              replace p197 := eq_true p197
              replace q197 := eq_true q197
              have p198 : 0 ≤ (0 : Int) := (by omega)
              have q198 : 0 < (l1.length : Int) := dA
              obtain ⟨ad198, A198_0, c198_0, e198, hx198_0, hl198_0, hi198_0⟩ := at_L1 HR1.out 0 p198 q198
              obtain rfl : ad185 = ad198 := (by injection e198)
              have qi198 : (0 < l1.length) = True := eq_true (by omega)
              (try rw [show ((0 : Int)).toNat = 0 from rfl] at hx198_0)
              (try rw [Addr.add_zero'] at hx198_0)
              replace hx198_0 := (HB.out.cell (World.block_lt_of_cell? w _ hx198_0)).trans hx198_0
              have HR198_0 := Aside0.mk hi198_0
              have HC198_0 := Aside0.mk hl198_0
              clear hi198_0 hl198_0
              replace p198 := eq_true p198
              replace q198 := eq_true q198
              go_wp2
              go_loopg [68] k2 (fun kq v68 w' => ∃ (x6_3 : List (List Int)) (x68_3 : Int), v68 = .int .i64 x68_3 ∧ Aside0 (reedsolomon_matrix_Augment.l2 kq l0 l1 x6_3 x36_1 ((rd_L1 l0 0).length : Int) l0 (l0.length : Int) x36_1 ((rd_L1 l1 0).length : Int) x68_3 = some (r1, r2)) ∧ Aside0 (kq ≤ k2) ∧ Aside0 (Kd.S (Kd.slice 5 (Kd.int .u8)) 22 w' w.heap.size (fun _ => True) v188 x6_3) ∧ Aside0 (Below w.heap.size w w'))
              case atStart => exact ⟨(x6_2), (0), (by first | rfl | (simp; done) | (simp [*]; done)), H', ⟨Nat.le_refl _⟩, ⟨by (with_reducible repeat (first | apply Kd.S_alloc | apply Kd.S_drewN | apply Kd.S_drew)); exact HO_6.out⟩, ⟨bB⟩⟩
              case round =>
               clear H'
               try clear c1
               try clear p1
               try clear q1
               try clear hx1
               try clear qi1
               try clear c2
               try clear p2
               try clear q2
               try clear c3
               try clear c3b0
               try clear c3b1
               try clear c3b2
               try clear c4
               try clear c4b0
               try clear c4b1
               try clear c5
               try clear c5b0
               try clear c5b1
               try clear c6
               try clear p6
               try clear c9
               try clear c9b0
               try clear c10
               try clear c10b0
               try clear c11
               try clear c11b0
               try clear c12
               try clear c12b0
               try clear c13
               try clear c13b0
               try clear c14
               try clear c14b0
               try clear c15
               try clear c15b0
               try clear c16
               try clear c16b0
               try clear c17
               try clear c17b0
               try clear c18
               try clear c18b0
               try clear p18
               try clear q18
               try clear hx18
               try clear qi18
               try clear c19
               try clear p19
               try clear q19
               try clear hx19
               try clear qi19
               try clear hf19
               try clear c22
               try clear q22
               try clear c24
               try clear c24b0
               try clear c24b1
               try clear c25
               try clear c25b0
               try clear c25b1
               try clear hx184_0
               try clear hx185_0
               try clear hx190_0
               try clear hx191_0
               try clear hx192_0
               try clear hx193_0
               try clear hx197_0
               try clear hx198_0
               try clear hx19_0
               try clear p1
               try clear p184
               try clear p185
               try clear p19
               try clear p190
               try clear p191
               try clear p192
               try clear p193
               try clear p197
               try clear p198
               try clear p2
               try clear p6
               try clear q1
               try clear q184
               try clear q185
               try clear q19
               try clear q190
               try clear q191
               try clear q192
               try clear q193
               try clear q197
               try clear q198
               obtain ⟨x6_3, x68_3, rfl, HA, HK3, HO_6, HB⟩ := hrel
               cases gk with
               | zero => exact absurd HA.out (by simp [reedsolomon_matrix_Augment.l2])
               | succ k3 =>
                have H := HA.out
                clear HA
                simp only [reedsolomon_matrix_Augment.l2] at H
                by_cases c26 : x68_3 < ((rd_L1 l1 0).length : Int)
                ·rw [if_pos c26] at H
                 have c26b0 : decide (x68_3 < ((rd_L1 l1 0).length : Int)) = true := decide_eq_true c26
                 clear c26
                 by_cases c27 : 0 ≤ x36_1
                 ·rw [if_pos c27] at H
                  have c27b0 : decide (0 ≤ x36_1) = true := decide_eq_true c27
                  clear c27
                  by_cases c28 : x36_1 < (x6_3.length : Int)
                  ·rw [if_pos c28] at H
                   have c28b0 : decide (x36_1 < (x6_3.length : Int)) = true := decide_eq_true c28
                   clear c28
                   by_cases c29 : x36_1 < (l1.length : Int)
                   ·rw [if_pos c29] at H
                    have c29b0 : decide (x36_1 < (l1.length : Int)) = true := decide_eq_true c29
                    clear c29
                    by_cases c30 : 0 ≤ x68_3
                    ·rw [if_pos c30] at H
                     have c30b0 : decide (0 ≤ x68_3) = true := decide_eq_true c30
                     clear c30
                     by_cases c31 : x68_3 < ((rd_L1 l1 x36_1).length : Int)
                     ·rw [if_pos c31] at H
                      have c31b0 : decide (x68_3 < ((rd_L1 l1 x36_1).length : Int)) = true := decide_eq_true c31
                      clear c31
                      obtain ⟨ji32, hji32⟩ : ∃ j_ : Int, (wrap64 (((rd_L1 l0 0).length : Int) + x68_3)) = j_ := ⟨_, rfl⟩
                      replace H : (if 0 ≤ (ji32) then (if (ji32) < ((rd_L1 x6_3 x36_1).length : Int) then (reedsolomon_matrix_Augment.l2 k3 l0 l1 (x6_3.set (x36_1 : Int).toNat ((rd_L1 x6_3 x36_1).set ((ji32) : Int).toNat (rd (rd_L1 l1 x36_1) x68_3))) x36_1 ((rd_L1 l0 0).length : Int) l0 (l0.length : Int) x36_1 ((rd_L1 l1 0).length : Int) (wrap64 (x68_3 + 1))) else (none)) else (none)) = some (r1, r2) := by first | (rw [hji32] at H; exact H) | (simp only [hji32] at H ⊢; exact H)
                      have hji32w : (IntKind.i64.wrap (((rd_L1 l0 0).length : Int) + x68_3)) = ji32 := (i64_w _).trans hji32
                      by_cases c33 : 0 ≤ (ji32)
                      ·rw [if_pos c33] at H
                       have c33b0 : decide (0 ≤ (ji32)) = true := decide_eq_true c33
                       clear c33
                       by_cases c34 : (ji32) < ((rd_L1 x6_3 x36_1).length : Int)
                       ·rw [if_pos c34] at H
                        have c34b0 : decide ((ji32) < ((rd_L1 x6_3 x36_1).length : Int)) = true := decide_eq_true c34
                        clear c34
                        obtain ⟨y202, hy202⟩ : ∃ y_ : List Int, y_ = ((rd_L1 x6_3 x36_1).set ((ji32) : Int).toNat (rd (rd_L1 l1 x36_1) x68_3)) := ⟨_, rfl⟩
                        replace H : (reedsolomon_matrix_Augment.l2 k3 l0 l1 (x6_3.set (x36_1 : Int).toNat y202) x36_1 ((rd_L1 l0 0).length : Int) l0 (l0.length : Int) x36_1 ((rd_L1 l1 0).length : Int) (wrap64 (x68_3 + 1))) = some (r1, r2) := by first | (rw [hy202]; with_reducible exact H) | (have H2_ := (Option.bind_some _ _).symm.trans H; rw [hy202]; with_reducible exact H2_) | (have H2_ := (Option.bind_some _ _).symm.trans H; with_reducible exact H2_) | with_reducible exact H | (rw [hy202]; exact H) | exact H
                        have Ny202 := Aside0.mk hy202
                        clear hy202
                        obtain ⟨y204, hy204⟩ : ∃ y_ : List (List Int), y_ = (x6_3.set (x36_1 : Int).toNat y202) := ⟨_, rfl⟩
                        replace H : (reedsolomon_matrix_Augment.l2 k3 l0 l1 y204 x36_1 ((rd_L1 l0 0).length : Int) l0 (l0.length : Int) x36_1 ((rd_L1 l1 0).length : Int) (wrap64 (x68_3 + 1))) = some (r1, r2) := by first | (rw [hy204]; with_reducible exact H) | (have H2_ := (Option.bind_some _ _).symm.trans H; rw [hy204]; with_reducible exact H2_) | (have H2_ := (Option.bind_some _ _).symm.trans H; with_reducible exact H2_) | with_reducible exact H | (rw [hy204]; exact H) | exact H
                        have Ny204 := Aside0.mk hy204
                        clear hy204
                        have H' := Aside0.mk H
                        clear H
                        try go_wp2
                        have n0_ := Aside0.mk (Kd.S_drew HO_6.out)
                        have n1_ := Aside0.mk (below_drew1 HB.out)
                        clear HO_6
                        clear HB
                        have HO_6 := n0_
                        have HB := n1_
                        clear n0_ n1_
                        obtain ⟨Ao37, co37, eo37⟩ := Kd.S_slice HO_6.out
                        (first | subst eo37 | (injection eo37 with f1_ f2_ f3_; have f4_ := f1_.symm; have f5_ := f3_.symm; clear f1_ f2_ f3_; subst f4_; subst f5_))
                        have p199 : 0 ≤ (x36_1 : Int) := dA
                        have q199 : x36_1 < (x6_3.length : Int) := dA
                        obtain ⟨ad199, A199_0, c199_0, e199, hx199_0, hl199_0, hi199_0⟩ := at_L1 (Kd.S_reads' HO_6.out).2.2 x36_1 p199 q199
                        cases e199
                        obtain ⟨ce199, hce199, hMe199, hcc199⟩ := Kd.S_get HO_6.out [] x36_1 p199 (by first | exact q199 | exact dA | (have e_ := (Kd.S_reads' HO_6.out).1; omega))
                        obtain ⟨ve199_0, rfl, ge199_0⟩ := hMe199
                        have hv199_0 := hcc199 0 _ rfl
                        rw [Nat.add_zero, show ((Kd.slice 5 (Kd.int .u8))).sz = 1 from rfl, Nat.mul_one] at hv199_0
                        replace hv199_0 := Option.some.inj (hv199_0.symm.trans hx199_0)
                        rw [hv199_0] at ge199_0
                        have HL199_0 := Aside0.mk (show Kd.R (Kd.int .u8) 5 _ _ _ _ (rd_L1 x6_3 x36_1) from ge199_0)
                        clear hv199_0 ge199_0
                        have HX199_0 := Aside0.mk hx199_0
                        clear hcc199 hce199
                        have HR199_0 := Aside0.mk hi199_0
                        have HC199_0 := Aside0.mk hl199_0
                        clear hi199_0 hl199_0
                        replace p199 := eq_true p199
                        replace q199 := eq_true q199
                        have p200 : 0 ≤ (x36_1 : Int) := dA
                        have q200 : x36_1 < (l1.length : Int) := dA
                        obtain ⟨ad200, A200_0, c200_0, e200, hx200_0, hl200_0, hi200_0⟩ := at_L1 HR1.out x36_1 p200 q200
                        have hw200_0 := hx200_0
                        obtain rfl : ad185 = ad200 := (by injection e200)
                        replace hx200_0 := (HB.out.cell (World.block_lt_of_cell? w _ hx200_0)).trans hx200_0
                        have HR200_0 := Aside0.mk hi200_0
                        have HC200_0 := Aside0.mk hl200_0
                        clear hi200_0 hl200_0
                        replace p200 := eq_true p200
                        replace q200 := eq_true q200
                        have p201 : 0 ≤ (x68_3 : Int) := dA
                        have q201 : x68_3 < ((rd_L1 l1 x36_1).length : Int) := dA
                        obtain ⟨ad201, e201, hx201_0⟩ := Kd.at_int HR200_0.out x68_3 p201 q201
                        have hw201_0 := hx201_0
                        cases e201
                        replace hx201_0 := (HB.out.cell (World.block_lt_of_cell? w _ hx201_0)).trans hx201_0
                        replace p201 := eq_true p201
                        replace q201 := eq_true q201
                        have p35 : 0 ≤ ((ji32) : Int) := dA
                        have q35 : ((ji32) : Int) < (((rd_L1 x6_3 x36_1).length : Int) : Int) := dA
                        obtain ⟨go35, co35, eo35, gb35, gl35, cl35, HG35⟩ := Kd.R_form HL199_0.out (by omega)
                        (first | cases eo35 | (injection eo35 with ea_ en_ ec_; (first | subst ea_ | (injection ea_ with ea_; subst ea_)); subst ec_; clear en_))
                        have GB35 := Aside0.mk gb35
                        have GG35 := Aside0.mk HG35
                        clear gb35 gl35 HG35
                        obtain ⟨hx35_0, hf35_0⟩ := Kd.R_celln 0 HL199_0.out ((ji32) : Int) p35 q35
                        replace p35 := eq_true p35
                        replace q35 := eq_true q35
                        have hq38 : (x36_1 : Int) < (x6_3.length : Int) := (by have h_ : (x36_1 : Int) < ((x6_3.length : Int) : Int) := dA; first | exact h_ | (have e_ := (Kd.S_reads' HO_6.out).1; omega) | simpa only [List.length_set, List.length_set] using h_)
                        obtain ⟨oki38, ce38, hcl38, hM38, hcc38, hok38, hbk38⟩ := Kd.S_borrow HO_6.out [] (x36_1 : Int) dA hq38
                        obtain ⟨ve38_0, rfl, ge38_0⟩ := hM38
                        have hv38 := hcc38 0 _ rfl
                        rw [Nat.add_zero, show ((Kd.slice 5 (Kd.int .u8))).sz = 1 from rfl, Nat.mul_one] at hv38
                        replace hv38 := Option.some.inj (hv38.symm.trans HX199_0.out)
                        subst hv38
                        clear hcc38 hcl38
                        replace ge38_0 := (show Kd.R (Kd.int .u8) 5 _ _ _ _ (rd_L1 x6_3 x36_1) from ge38_0)
                        have HP38 := Kd.R_putg ge38_0 ((ji32) : Int) (rd (rd_L1 l1 x36_1) x68_3)
                        rw [← Ny202.out] at HP38
                        have HS38 := hbk38 HP38.2 (fun k_ e_ => by injection e_ with e_; subst e_; exact ge38_0.1 _ rfl) (x' := y202) (Kd.M_row HP38.1)
                        rw [← Ny204.out] at HS38
                        have HQ38 := Aside0.mk HS38
                        clear HP38 HS38 hbk38 hok38
                        refine start_ (n := 16) (S := fun w' => w'.cell? (ad199.add (x36_1).toNat) = some (.slice (some ⟨go35, 0, none⟩) (rd_L1 x6_3 x36_1).length c199_0) ∧ w'.cell? (ad185.add (x36_1).toNat) = some (.slice (some ad201) (rd_L1 l1 x36_1).length c200_0) ∧ w'.cell? (ad201.add (x68_3).toNat) = some (.int .u8 (rd (rd_L1 l1 x36_1) x68_3))) (ds := [15]) #[false, false, false, false, false, false, false, false, false, false, false, false, false, false, false, false] (by kernel_rfl) rfl rfl ⟨hx199_0, ((HB.out.cell (World.block_lt_of_cell? w _ hw200_0)).trans hw200_0), ((HB.out.cell (World.block_lt_of_cell? w _ hw201_0)).trans hw201_0)⟩ (fun hHeld => ?_); refine with_tabW reedsolomon_matrix_Augment.tab16 reedsolomon_matrix_Augment.bits16 (fun HT_ HW_ => ?_)
                        generalize wr.drew = w36 at HO_6 HB GG35 HL199_0 HQ38 HR199_0 HR200_0 HX199_0 hf35_0 hx199_0 hx200_0 hx201_0 hx35_0 hHeld ⊢
                        refine pure_ (i := 0) (N := some 71) (v := ?_) (a' := ?_) #[true, false, false, false, false, false, false, false, false, false, false, false, false, false, false, false] rfl rfl (any_of HT_.out (by kernel_rfl)) (fun _ _ _ h => h) (Or.inl ⟨by rfl, ?_⟩) ?_ ?_
                        rotate_left
                        ·intro w'
                         go_simp
                         with_reducible rfl
                        rotate_left
                        ·simp only [Act.put, List.setIfInBounds_toArray, List.set_cons_zero, List.set_cons_succ, i64_w, i32_w]
                         rfl
                        refine pure_ (i := 1) (N := some 72) (v := ?_) (a' := ?_) #[true, true, false, false, false, false, false, false, false, false, false, false, false, false, false, false] rfl rfl (any_of HT_.out (by kernel_rfl)) (fun _ _ _ h => h) (Or.inl ⟨by rfl, ?_⟩) ?_ ?_
                        rotate_left
                        ·intro w'
                         go_simp
                         with_reducible rfl
                        rotate_left
                        ·simp only [Act.put, List.setIfInBounds_toArray, List.set_cons_zero, List.set_cons_succ, i64_w, i32_w]
                         rfl
                        refine pure_ (i := 2) (N := some 73) (v := ?_) (a' := ?_) #[true, true, true, false, false, false, false, false, false, false, false, false, false, false, false, false] rfl rfl (any_of HT_.out (by kernel_rfl)) (fun _ _ _ h => h) (Or.inl ⟨by rfl, ?_⟩) ?_ ?_
                        rotate_left
                        ·intro w'
                         go_simp
                         with_reducible rfl
                        rotate_left
                        ·simp only [Act.put, List.setIfInBounds_toArray, List.set_cons_zero, List.set_cons_succ, i64_w, i32_w]
                         rfl
                        refine pure_ (i := 4) (N := some 75) (v := ?_) (a' := ?_) #[true, true, true, false, true, false, false, false, false, false, false, false, false, false, false, false] rfl rfl (any_of HT_.out (by kernel_rfl)) (fun _ _ _ h => h) (Or.inl ⟨by rfl, ?_⟩) ?_ ?_
                        rotate_left
                        ·intro w'
                         go_simp
                         with_reducible rfl
                        rotate_left
                        ·simp only [Act.put, List.setIfInBounds_toArray, List.set_cons_zero, List.set_cons_succ, i64_w, i32_w]
                         rfl
                        refine pure_ (i := 5) (N := some 76) (v := ?_) (a' := ?_) #[true, true, true, false, true, true, false, false, false, false, false, false, false, false, false, false] rfl rfl (any_of HT_.out (by kernel_rfl)) (fun _ _ _ h => h) (Or.inl ⟨by rfl, ?_⟩) ?_ ?_
                        rotate_left
                        ·intro w'
                         go_simp
                         with_reducible rfl
                        rotate_left
                        ·simp only [Act.put, List.setIfInBounds_toArray, List.set_cons_zero, List.set_cons_succ, i64_w, i32_w]
                         rfl
                        refine pure_ (i := 6) (N := some 77) (v := ?_) (a' := ?_) #[true, true, true, false, true, true, true, false, false, false, false, false, false, false, false, false] rfl rfl (any_of HT_.out (by kernel_rfl)) (fun _ _ _ h => h) (Or.inl ⟨by rfl, ?_⟩) ?_ ?_
                        rotate_left
                        ·intro w'
                         go_simp
                         with_reducible rfl
                        rotate_left
                        ·simp only [Act.put, List.setIfInBounds_toArray, List.set_cons_zero, List.set_cons_succ, i64_w, i32_w]
                         rfl
                        refine pure_ (i := 7) (N := some 78) (v := ?_) (a' := ?_) #[true, true, true, false, true, true, true, true, false, false, false, false, false, false, false, false] rfl rfl (any_of HT_.out (by kernel_rfl)) (fun _ _ _ h => h) (Or.inl ⟨by rfl, ?_⟩) ?_ ?_
                        rotate_left
                        ·intro w'
                         go_simp
                         with_reducible rfl
                        rotate_left
                        ·simp only [Act.put, List.setIfInBounds_toArray, List.set_cons_zero, List.set_cons_succ, i64_w, i32_w]
                         rfl
                        refine pure_ (i := 8) (N := some 79) (v := ?_) (a' := ?_) #[true, true, true, false, true, true, true, true, true, false, false, false, false, false, false, false] rfl rfl (any_of HT_.out (by kernel_rfl)) (fun _ _ _ h => h) (Or.inl ⟨by rfl, ?_⟩) ?_ ?_
                        rotate_left
                        ·intro w'
                         go_simp
                         with_reducible rfl
                        rotate_left
                        ·simp only [Act.put, List.setIfInBounds_toArray, List.set_cons_zero, List.set_cons_succ, i64_w, i32_w]
                         rfl
                        refine pure_ (i := 9) (N := some 80) (v := ?_) (a' := ?_) #[true, true, true, false, true, true, true, true, true, true, false, false, false, false, false, false] rfl rfl (any_of HT_.out (by kernel_rfl)) (fun _ _ _ h => h) (Or.inl ⟨by rfl, ?_⟩) ?_ ?_
                        rotate_left
                        ·intro w'
                         go_simp
                         with_reducible rfl
                        rotate_left
                        ·simp only [Act.put, List.setIfInBounds_toArray, List.set_cons_zero, List.set_cons_succ, i64_w, i32_w]
                         rfl
                        refine pure_ (i := 11) (N := some 82) (v := ?_) (a' := ?_) #[true, true, true, false, true, true, true, true, true, true, false, true, false, false, false, false] rfl rfl (any_of HT_.out (by kernel_rfl)) (fun _ _ _ h => h) (Or.inl ⟨by rfl, ?_⟩) ?_ ?_
                        rotate_left
                        ·intro w'
                         go_simp
                         with_reducible rfl
                        rotate_left
                        ·simp only [Act.put, List.setIfInBounds_toArray, List.set_cons_zero, List.set_cons_succ, i64_w, i32_w]
                         rfl
                        refine take_ (i := 3) (N := some 74) (v := ?_) (a' := ?_) #[true, true, true, true, true, true, true, true, true, true, false, true, false, false, false, false] rfl rfl (take_ofW HT_.out HW_.out (by kernel_rfl)) (fun _ _ _ h => h) (Or.inl ⟨by rfl, ?_⟩) hHeld ?_ ?_
                        rotate_left
                        ·rintro w' ⟨s0, s1, s2⟩
                         go_simp
                         with_reducible rfl
                        rotate_left
                        ·simp only [Act.put, List.setIfInBounds_toArray, List.set_cons_zero, List.set_cons_succ, i64_w, i32_w]
                         rfl
                        refine take_ (i := 10) (N := some 81) (v := ?_) (a' := ?_) #[true, true, true, true, true, true, true, true, true, true, true, true, false, false, false, false] rfl rfl (take_ofW HT_.out HW_.out (by kernel_rfl)) (fun _ _ _ h => h) (Or.inl ⟨by rfl, ?_⟩) hHeld ?_ ?_
                        rotate_left
                        ·rintro w' ⟨s0, s1, s2⟩
                         go_simp
                         with_reducible rfl
                        rotate_left
                        ·simp only [Act.put, List.setIfInBounds_toArray, List.set_cons_zero, List.set_cons_succ, i64_w, i32_w]
                         rfl
                        refine pure_ (i := 12) (N := some 83) (v := ?_) (a' := ?_) #[true, true, true, true, true, true, true, true, true, true, true, true, true, false, false, false] rfl rfl (any_of HT_.out (by kernel_rfl)) (fun _ _ _ h => h) (Or.inl ⟨by rfl, ?_⟩) ?_ ?_
                        rotate_left
                        ·intro w'
                         go_simp
                         with_reducible rfl
                        rotate_left
                        ·simp only [Act.put, List.setIfInBounds_toArray, List.set_cons_zero, List.set_cons_succ, i64_w, i32_w]
                         rfl
                        refine take_ (i := 13) (N := some 84) (v := ?_) (a' := ?_) #[true, true, true, true, true, true, true, true, true, true, true, true, true, true, false, false] rfl rfl (take_ofW HT_.out HW_.out (by kernel_rfl)) (fun _ _ _ h => h) (Or.inl ⟨by rfl, ?_⟩) hHeld ?_ ?_
                        rotate_left
                        ·rintro w' ⟨s0, s1, s2⟩
                         go_simp
                         with_reducible rfl
                        rotate_left
                        ·simp only [Act.put, List.setIfInBounds_toArray, List.set_cons_zero, List.set_cons_succ, i64_w, i32_w]
                         rfl
                        refine pure_ (i := 14) (N := some 85) (v := ?_) (a' := ?_) #[true, true, true, true, true, true, true, true, true, true, true, true, true, true, true, false] rfl rfl (any_of HT_.out (by kernel_rfl)) (fun _ _ _ h => h) (Or.inl ⟨by rfl, ?_⟩) ?_ ?_
                        rotate_left
                        ·intro w'
                         go_simp
                         with_reducible rfl
                        rotate_left
                        ·simp only [Act.put, List.setIfInBounds_toArray, List.set_cons_zero, List.set_cons_succ, i64_w, i32_w]
                         rfl
                        refine last_ (i := 15) (N := none) #[true, true, true, true, true, true, true, true, true, true, true, true, true, true, true, true] rfl rfl (one_of HT_.out (by kernel_rfl)) (by decide) (fun K hK => ?_)
                        refine skip_ (w1 := ?_) (by rfl) rfl ?_ ?_
                        rotate_left
                        ·go_simp
                         rfl
                        refine hK.out _ _ ?_
                        clear hK K
                        refine done_ (done_of HT_.out (by kernel_rfl)) ?_
                        try go_wp2
                        go_roundg k3
                        case measure => have := HK1.out; have := HK2.out; have := HK3.out; omega
                        case rel => exact ⟨(y204), (wrap64 (x68_3 + 1)), (by first | rfl | (simp; done) | (simp [*]; done)), H', ⟨by have := HK1.out; have := HK2.out; have := HK3.out; omega⟩, ⟨by (with_reducible repeat (first | apply Kd.S_alloc | apply Kd.S_drewN | apply Kd.S_drew)); exact HQ38.out⟩, ⟨by repeat (first | (with_reducible first | exact HB.out | apply below_alloc | apply pw_below_drewN | apply below_drew1 | refine below_set ?_ GB35.out) | exact HB.out)⟩⟩
                       ·rw [if_neg c34] at H
                        exact absurd H (by simp)
                      ·rw [if_neg c33] at H
                       exact absurd H (by simp)
                     ·rw [if_neg c31] at H
                      exact absurd H (by simp)
                    ·rw [if_neg c30] at H
                     exact absurd H (by simp)
                   ·rw [if_neg c29] at H
                    exact absurd H (by simp)
                  ·rw [if_neg c28] at H
                   exact absurd H (by simp)
                 ·rw [if_neg c27] at H
                  exact absurd H (by simp)
                ·rw [if_neg c26] at H
                 have c26b0 : decide (x68_3 < ((rd_L1 l1 0).length : Int)) = false := decide_eq_false c26
                 clear c26
                 have H' := Aside0.mk H
                 clear H
                 go_wp2
                 go_roundg k3
                 case measure => have := HK1.out; have := HK2.out; have := HK3.out; omega
                 case rel => exact ⟨(x6_3), (wrap64 (x36_1 + 1)), (by first | rfl | (simp; done) | (simp [*]; done)), H', ⟨by have := HK1.out; have := HK2.out; have := HK3.out; omega⟩, ⟨by (with_reducible repeat (first | apply Kd.S_alloc | apply Kd.S_drewN | apply Kd.S_drew)); exact HO_6.out⟩, ⟨bB⟩⟩
             ·rw [if_neg c25] at H
              exact absurd H (by simp)
            ·rw [if_neg c24] at H
             exact absurd H (by simp)
        ·rw [if_neg c11] at H
         exact absurd H (by simp)
       ·rw [if_neg c10] at H
        exact absurd H (by simp)
      ·rw [if_neg c9] at H
       have c9b0 : decide (x36_1 < (l0.length : Int)) = false := decide_eq_false c9
       clear c9
       simp only [Option.some.injEq, Prod.mk.injEq] at H
       obtain ⟨rfl, rfl⟩ := H
       go_wp2
       go_ret2
       exact ⟨(fun _ => 0), (fun _ => .nilIface), _, by first | rfl | (simp [errW_none, errW_some] <;> rfl) | (simp [*, errW_none, errW_some] <;> rfl), by (with_reducible repeat (first | apply Kd.S_alloc | apply Kd.S_drewN | apply Kd.S_drew)); exact HO_6.out, bB⟩
   ·rw [if_neg c5] at H
    exact absurd H (by simp)
  ·rw [if_neg c4] at H
   exact absurd H (by simp)
 ·rw [if_neg c3] at H
  have c3b0 : ((l0.length : Int) == (l1.length : Int)) = false := beq_eq_false_iff_ne.mpr c3
  have c3b1 : ((l0.length : Int) != (l1.length : Int)) = true := bne_iff_ne.mpr c3
  have c3b2 : (l0.length == l1.length) = false := by first | simpa using c3 | (simp at c3 ⊢; omega)
  simp only [Option.some.injEq, Prod.mk.injEq] at H
  obtain ⟨rfl, rfl⟩ := H
  go_enter Tryd.func60, Tryd.ntmps60
  try go_wp2
  have n0_ := Aside0.mk (below_drew1 HB.out)
  clear HB
  have HB := n0_
  clear n0_
  (try clear hce7_)
  have hce7_ : w.drew.cell? ⟨7, 0, none⟩ = some (.iface te7_ xe7_) := ((show Below w.heap.size w w.drew from by repeat (first | (with_reducible first | exact HB.out | apply below_alloc | apply pw_below_drewN | apply below_drew1) | exact HB.out)).cell (World.block_lt_of_cell? _ _ HE7_.out)).trans HE7_.out
  refine start_ (n := 3) (S := fun w' => w'.cell? ⟨7, 0, none⟩ = some (.iface te7_ xe7_)) (ds := []) #[false, false, false] (by kernel_rfl) rfl rfl hce7_ (fun hHeld => ?_)
  generalize w.drew = w40 at hce7_ HB hHeld ⊢
  refine pure_ (i := 1) (N := some 4) (v := ?_) (a' := ?_) #[false, true, false] rfl rfl (by kernel_rfl) (fun _ _ _ h => h) (Or.inl ⟨by rfl, ?_⟩) ?_ ?_
  rotate_left
  ·intro w'
   go_simp
   with_reducible rfl
  rotate_left
  ·simp only [Act.put, List.setIfInBounds_toArray, List.set_cons_zero, List.set_cons_succ, i64_w, i32_w]
   rfl
  refine take_ (i := 0) (N := some 18) (v := ?_) (a' := ?_) #[true, true, false] rfl rfl (by kernel_rfl) (fun _ _ _ h => h) (Or.inl ⟨by rfl, ?_⟩) hHeld ?_ ?_
  rotate_left
  ·intro w' hs_
   go_simp
   with_reducible rfl
  rotate_left
  ·simp only [Act.put, List.setIfInBounds_toArray, List.set_cons_zero, List.set_cons_succ, i64_w, i32_w]
   rfl
  refine pure_ (i := 2) (N := some 5) (v := ?_) (a' := ?_) #[true, true, true] rfl rfl (by kernel_rfl) (fun _ _ _ h => h) (Or.inl ⟨by rfl, ?_⟩) ?_ ?_
  rotate_left
  ·intro w'
   go_simp
   with_reducible rfl
  rotate_left
  ·simp only [Act.put, List.setIfInBounds_toArray, List.set_cons_zero, List.set_cons_succ, i64_w, i32_w]
   rfl
  refine done_ (by kernel_rfl) ?_
  try go_wp2
  go_ret2
  exact ⟨(fun _ => te7_), (fun _ => xe7_), (.slice none 0 0), by first | rfl | (simp [errW_none, errW_some] <;> rfl) | (simp [*, errW_none, errW_some] <;> rfl), by first | exact Kd.V_nil _ _ _ _ _ | exact Kd.R_nil _ _ _ _ _ | exact Kd.S_nil _ _ _ _ _ | exact Kd.N_nil _ _ _ _ _ | exact Kd.Q_nil _ _ _ _ _, bB⟩


/-! ### reedsolomon_matrix_SwapRows: function 63 -/
theorem take_one {cs : List Value} {j : Nat} {x : Value} (h : cs[j]? = some x) : (cs.drop (j * 1)).take 1 = [x] := by
 obtain ⟨hl, e⟩ := List.getElem?_eq_some_iff.1 h
 rw [Nat.mul_one, List.drop_eq_getElem_cons hl, e]
 rfl
/-- Two elements of one cell each, swapped. -/
theorem S_swap {d : Kd (List Int)} {e base g n cap : Nat} {ok : Nat → Prop} {w : World} {xs : List (List Int)} (hsz : d.sz = 1) (h : Kd.S d e w base ok (.slice (some ⟨g, 0, none⟩) n cap) xs) {a b : Nat} (ha : a < xs.length) (hb : b < xs.length) (hne : a ≠ b) {u v : Value}
  (hu : w.cell? ⟨g, a, none⟩ = some u) (hv : w.cell? ⟨g, b, none⟩ = some v) :
  Kd.S d e ((w.setCell ⟨g, b, none⟩ u).setCell ⟨g, a, none⟩ v) base ok (.slice (some ⟨g, 0, none⟩) n cap) ((xs.set b (xs.getD a [])).set a (xs.getD b [])) := by
 have hn := (Kd.S_reads' h).1
 subst hn
 obtain ⟨f, h0, inner, ho, hr⟩ := h
 have esz : (Kd.tag f d).sz = 1 := hsz
 rw [List.length_zipIdx] at ho
 have hil : inner.length = xs.length := by have := hr.1; rw [esz, List.length_zipIdx] at this; omega
 rw [esz] at ho hr
 have cu : inner[a]? = some u := (ho.cellAt a (by omega)).symm.trans hu
 have cv : inner[b]? = some v := (ho.cellAt b (by omega)).symm.trans hv
 have ho2 := ((ho.stored b u).1.stored a v).1
 refine ⟨fun k => if f k = a then b else if f k = b then a else f k, h0, (inner.set b u).set a v, ?_, ?_, ?_⟩
 ·rw [List.length_zipIdx, List.length_set, List.length_set]
  show World.ownsRow _ base e d.sz _ _ _
  rw [hsz]
  exact ho2
 ·show _ = _ * d.sz
  rw [hsz]
  simp [hil]
 ·intro j p hj
  have hjl : j < xs.length := by
   have := (List.getElem?_eq_some_iff.1 hj).1
   simpa using this
  have move : ∀ (j0 : Nat) (y : List Int) (c : Value), xs[j0]? = some y → inner[j0]? = some c → ∀ j1 : Nat, (if j0 = a then b else if j0 = b then a else j0) = j1 →
    d.M ((w.setCell ⟨g, b, none⟩ u).setCell ⟨g, a, none⟩ v) base (fun k => (ok k ∧ some k ≠ (Value.slice (some ⟨g, 0, none⟩) xs.length cap).ownBlock) ∧ (if f k = a then b else if f k = b then a else f k) = j1) y [c] := by
   intro j0 y c hy hc j1 hj1
   have h1 := hr.2 j0 (y, j0) (Kd.zip_at hy)
   rw [take_one hc] at h1
   have h2 : d.M w base (fun k => (ok k ∧ some k ≠ (Value.slice (some ⟨g, 0, none⟩) xs.length cap).ownBlock) ∧ f k = j0) y [c] := h1
   refine d.M_mono (ok := fun k => (ok k ∧ some k ≠ (Value.slice (some ⟨g, 0, none⟩) xs.length cap).ownBlock) ∧ f k = j0) (fun k hk => ⟨hk.1, by rw [hk.2]; exact hj1⟩) (d.M_move (fun k hk => ?_) h2)
   have hkg : k ≠ g := fun e => hk.1.2 (by rw [e]; rfl)
   rw [Below.heap_setCell _ _ _ k hkg, Below.heap_setCell _ _ _ k hkg]
  show (Kd.tag _ d).M _ _ _ p _
  rw [show (Kd.tag (fun k => if f k = a then b else if f k = b then a else f k) d).sz = 1 from hsz]
  rw [List.getElem?_zipIdx, Nat.zero_add] at hj
  obtain ⟨y, hy, rfl⟩ := Option.map_eq_some_iff.1 hj
  have ga : xs.getD a [] = xs[a] := by simp [ha]
  have gb : xs.getD b [] = xs[b] := by simp [hb]
  by_cases e1 : j = a
  ·subst e1
   rw [List.getElem?_set_self (by rw [List.length_set]; exact hjl)] at hy
   cases hy
   rw [take_one (List.getElem?_set_self (by rw [List.length_set, hil]; exact hjl)), gb]
   exact move b _ v (List.getElem?_eq_getElem hb) cv j (by rw [if_neg (Ne.symm hne), if_pos rfl])
  ·rw [List.getElem?_set_ne (Ne.symm e1)] at hy
   by_cases e2 : j = b
   ·subst e2
    rw [List.getElem?_set_self hjl] at hy
    cases hy
    rw [take_one (x := u) (by rw [List.getElem?_set_ne (Ne.symm e1), List.getElem?_set_self (by rw [hil]; exact hjl)]), ga]
    exact move a _ u (List.getElem?_eq_getElem ha) cu j (by rw [if_pos rfl])
   ·rw [List.getElem?_set_ne (Ne.symm e2)] at hy
    have hc : inner[j]? = some inner[j] := List.getElem?_eq_getElem (by rw [hil]; exact hjl)
    rw [take_one (x := inner[j]'(by rw [hil]; exact hjl)) (by rw [List.getElem?_set_ne (Ne.symm e1), List.getElem?_set_ne (Ne.symm e2)]; exact hc)]
    exact move j y _ hy hc j (by rw [if_neg e1, if_neg e2])
def reedsolomon_matrix_SwapRows.f (l0 : List (List Int)) (a1 a2 : Int) : Option (Option Int × List (List Int)) :=
 if 0 ≤ a1 ∧ a1 < (l0.length : Int) ∧ 0 ≤ a2 ∧ a2 < (l0.length : Int) ∧ a1 ≠ a2 then some (none, (l0.set a2.toNat (l0.getD a1.toNat [])).set a1.toNat (l0.getD a2.toNat [])) else none
set_option maxHeartbeats 4000000 in
set_option maxRecDepth 100000 in
theorem reedsolomon_matrix_SwapRows.cells (g n cap a b : Nat) (ha : a < n) (hb : b < n) (hne : ¬ a = b) (A C : Option Addr) (m c m' c' : Nat) (w : World) (hn : n ≤ 9223372036854775807)
  (hu : w.cell? ⟨g, a, none⟩ = some (.slice A m c)) (hv : w.cell? ⟨g, b, none⟩ = some (.slice C m' c')) (fa : w.frozen? ⟨g, a, none⟩ = false) (fb : w.frozen? ⟨g, b, none⟩ = false) :
  Calls Tryd.prog 63 #[.slice (some ⟨g, 0, none⟩) n cap, .int .i64 (a : Int), .int .i64 (b : Int)] w fun e w' => e = .returned .nilIface ∧ w' = ((w.setCell ⟨g, b, none⟩ (.slice A m c)).setCell ⟨g, a, none⟩ (.slice C m' c')).drew := by
 have hba : ¬ b = a := Ne.symm hne
 have a0 : (0 : Int) ≤ (a : Int) := by omega
 have b0 : (0 : Int) ≤ (b : Int) := by omega
 have a1 : (a : Int) < (n : Int) := by omega
 have b1 : (b : Int) < (n : Int) := by omega
 have d1 : decide ((a : Int) < 0) = false := decide_eq_false (by omega)
 have d2 : decide ((b : Int) < 0) = false := decide_eq_false (by omega)
 have d3 : decide ((n : Int) ≤ (a : Int)) = false := decide_eq_false (by omega)
 have d4 : decide ((n : Int) ≤ (b : Int)) = false := decide_eq_false (by omega)
 go_enter Tryd.func63, Tryd.ntmps63
 go_wp2
 go_region
 all_goals (go_wp2; go_ret; exact ⟨rfl, rfl⟩)
theorem reedsolomon_matrix_SwapRows.calls (P0_ : Nat → Prop) (u9000_ : Value) (l0 : List (List Int)) (a1 a2 : Int) (r1 : Option Int) (r2 : List (List Int)) (w0 w : World) (hB : Below w0.heap.size w0 w)
  (ho0 : Kd.S (Kd.slice 5 (Kd.int .u8)) 22 w w0.heap.size P0_ u9000_ l0) (h : reedsolomon_matrix_SwapRows.f l0 a1 a2 = some (r1, r2)) :
  Calls Tryd.prog 63 #[u9000_, .int .i64 a1, .int .i64 a2] w fun e w' => ∃ (T_ : Int → TypeId) (X_ : Int → Value), e = .returned (errW T_ X_ r1) ∧ Kd.S (Kd.slice 5 (Kd.int .u8)) 22 w' w0.heap.size (fun k_ => (P0_ k_ ∨ w.heap.size ≤ k_)) u9000_ r2 ∧ Below w0.heap.size w0 w' ∧ Kept w w' (fun k_ => P0_ k_) := by
 unfold reedsolomon_matrix_SwapRows.f at h
 split at h
 ·rename_i hc
  obtain ⟨h1, h2, h3, h4, h5⟩ := hc
  simp only [Option.some.injEq, Prod.mk.injEq] at h
  obtain ⟨rfl, rfl⟩ := h
  obtain ⟨a, rfl⟩ : ∃ a : Nat, a1 = (a : Int) := ⟨a1.toNat, by omega⟩
  obtain ⟨b, rfl⟩ : ∃ b : Nat, a2 = (b : Int) := ⟨a2.toNat, by omega⟩
  have ha : a < l0.length := by omega
  have hb : b < l0.length := by omega
  have hne : ¬ a = b := by omega
  obtain ⟨g, cap, rfl, hbg, hgl, cells, hcl⟩ := Kd.S_form ho0 (by omega)
  have hP := ho0.choose_spec.1 g rfl
  obtain ⟨ca, hca, hMa, hcca⟩ := Kd.S_get ho0 ([] : List Int) (a : Int) (by omega) (by omega)
  obtain ⟨cb, hcb, hMb, hccb⟩ := Kd.S_get ho0 ([] : List Int) (b : Int) (by omega) (by omega)
  obtain ⟨va, rfl, hva⟩ := hMa
  obtain ⟨vb, rfl, hvb⟩ := hMb
  have ea := hcca 0 _ rfl
  have eb := hccb 0 _ rfl
  rw [show (Kd.slice 5 (Kd.int .u8)).sz = 1 from rfl, Nat.mul_one, Nat.add_zero, add_plain, Int.toNat_natCast] at ea eb
  obtain ⟨Aa, da, rfl⟩ := Kd.R_slice hva
  obtain ⟨Ab, db, rfl⟩ := Kd.R_slice hvb
  have hn := (Kd.S_reads' ho0).2.2.2.1
  refine (reedsolomon_matrix_SwapRows.cells g l0.length cap a b ha hb hne Aa Ab _ da _ db w (by omega) ea eb (blk_frozen hcl a) (blk_frozen hcl b)).mono ?_
  rintro e w' ⟨rfl, rfl⟩
  refine ⟨fun _ => 0, fun _ => .nilIface, rfl, ?_, ?_, ?_⟩
  ·rw [Int.toNat_natCast, Int.toNat_natCast]
   exact Kd.S_mono (Kd.S_drew (S_swap rfl ho0 ha hb hne ea eb)) (fun k hk => .inl hk)
  ·exact below_drew ((hB.setCell hbg _).setCell hbg _)
  ·refine ⟨by simp, fun k hk hk2 => ?_⟩
   have hkg : k ≠ g := fun e => hk2 (e ▸ hP)
   show ((w.setCell _ _).setCell _ _).heap[k]? = _
   rw [Below.heap_setCell _ _ _ k hkg, Below.heap_setCell _ _ _ k hkg]
 ·cases h


/-! ### reedsolomon_galOneOver: function 64 -/
theorem one_nonzero_u8 : ¬ ((0 : Int) = 1) := by decide
set_option maxRecDepth 100000 in
theorem reedsolomon_galOneOver.main (a x y z : Nat) (ha : a < 256) (hx : x < 256) (hy : y < 256) (h1 : ((a : Int) == 0) = false) (w : World)
  (hp : bits .xor .u8 (x : Int) 255 = (y : Int))
  (ca : w.cell? ⟨2, a, none⟩ = some (.int .u8 x)) (cc : w.cell? ⟨3, y, none⟩ = some (.int .u8 z)) :
  Calls Tryd.prog 64 #[.int .u8 a] w fun e w' => e = .returned (.int .u8 z) ∧ Drawn0 w w' := by
 go_enter Tryd.func64, Tryd.ntmps64
 go_wp2_with (simp only [hp])
 go_ret
 exact ⟨rfl, Drawn0.refl _⟩
def galInv (a : Nat) : Nat := Field.ex (Field.lg a ^^^ 255)
theorem reedsolomon_galOneOver.any (a : Nat) (h0 : a ≠ 0) (ha : a < 256) (w : World) (hT : TabOK w) :
  Calls Tryd.prog 64 #[.int .u8 a] w fun e w' => e = .returned (.int .u8 (galInv a : Nat)) ∧ Drawn0 w w' := by
 have h1 : ((a : Int) == 0) = false := by rw [beq_eq_false_iff_ne]; omega
 have k1 := Field.lg_lt ⟨a, ha⟩
 dsimp only at k1
 have k2 : Field.lg a ^^^ 255 < 256 := Nat.xor_lt_two_pow (n := 8) k1 (by decide)
 exact reedsolomon_galOneOver.main a _ _ _ ha k1 k2 h1 w (u8_xor_nat _ _ k1 (by decide)) (hT.lg a ha) (hT.ex _ k2)
def reedsolomon_galOneOver.f (a0 : Int) : Option Int := if 0 < a0 ∧ a0 ≤ 255 then some (galInv a0.toNat : Int) else none
theorem reedsolomon_galOneOver.calls (a0 : Int) (r : Int) (w : World) (hT : TabOK w) (h : reedsolomon_galOneOver.f a0 = some r) :
  Calls Tryd.prog 64 #[.int .u8 a0] w fun e w' => e = .returned (.int .u8 r) ∧ Drawn0 w w' := by
 unfold reedsolomon_galOneOver.f at h
 split at h
 ·rename_i hc
  injection h with h
  subst h
  obtain ⟨x, rfl⟩ : ∃ x : Nat, a0 = (x : Int) := ⟨a0.toNat, by omega⟩
  rw [Int.toNat_natCast]
  exact reedsolomon_galOneOver.any x (by omega) (by omega) w hT
 ·cases h

end Go.Proofs.YtipbhclpeogcmaaDoor.M

