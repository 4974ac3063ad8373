-- Written by a program of ours (wip/xp) out of the translation; Lean checks it.
import Derived.Test.YtkmdkmlgahfcpaaDoorSq
import Derived.Test.YtkmdkmlgahfcpaaDoorMm1
import Derived.Test.YtkmdkmlgahfcpaaDoorMm3
namespace Go.Proofs.YtkmdkmlgahfcpaaDoor.M
open Go.RowKit Go.Proofs.YtkmdkmlgahfcpaaDoorW.PrintWords Go.Proofs.YtkmdkmlgahfcpaaDoorW.PrintLast Go.Proofs.YtkmdkmlgahfcpaaDoorW.PrintMore
attribute [local go_sem] max2_int min2_int max_two min_two max_three min_three max_four min_four   -- for this text's walks alone
set_option linter.unusedVariables false
set_option linter.unusedSimpArgs false

/-! ### impl_toy_HashChildren: function 52 -/
def impl_toy_HashChildren.f (k : Nat) (a0_0 : Int) (a0_1 : Int) (a0_2 : Int) (a0_3 : Int) (a0_4 : Int) (a0_5 : Int) (l1 : List Int) (l2 : List Int) : Option (List Int) := if a0_0 = 1 then ((impl_mixed.f k a0_5 l1).bind fun t265 => ((impl_mixed.f k t265 (([255] : List Int))).bind fun t269 => ((impl_mixed.f k t269 l2).bind fun t270 => ((impl_word.f k t270 a0_2).bind fun t271 => (some t271))))) else ((some (([1] : List Int) : List Int)).bind fun y274 => ((impl_word.f k (IntKind.u64.wrap ((l1.length : Int))) 8).bind fun t277 => (if y274.length + t277.length < 140737488355328 then ((some (y274 ++ t277 : List Int)).bind fun y280 => (if y280.length + l1.length < 140737488355328 then ((some (y280 ++ l1 : List Int)).bind fun y283 => (if y283.length + l2.length < 140737488355328 then (some (y283 ++ l2)) else (none))) else (none))) else (none))))
theorem impl_toy_HashChildren.mono : ∀ a0 a1 a2 a3 a4 a5 a6 a7 k, LeO (impl_toy_HashChildren.f k a0 a1 a2 a3 a4 a5 a6 a7) (impl_toy_HashChildren.f (k + 1) a0 a1 a2 a3 a4 a5 a6 a7) := by
 intro a0 a1 a2 a3 a4 a5 a6 a7 k
 unfold impl_toy_HashChildren.f
 repeat' first
   | (with_reducible exact impl_mixed.mono _ _ _)
   | (with_reducible exact impl_word.mono _ _ _)
   | (with_reducible exact LeO.refl _)
   | (with_reducible exact LeO.none _)
   | (with_reducible refine LeO.ite ?_ ?_)
   | (with_reducible refine LeO.bind ?_ (fun _ => ?_))
   | exact impl_mixed.mono _ _ _
   | exact impl_word.mono _ _ _
   | exact LeO.none _
   | refine LeO.ite ?_ ?_
   | refine LeO.bind ?_ (fun _ => ?_)
def impl_toy_HashChildren.T2 : Bool × List (List Nat × List Nat) := (true, [([], []), ([0], [0]), ([1], [1]), ([], []), ([2, 3], [2, 3]), ([], []), ([4, 5, 4], [4, 5]), ([], []), ([6, 7, 6], [6, 7]), ([], []), ([9], [9]), ([10], [10]), ([8, 11, 8], [8, 11]), ([12, 12, 0, 1, 2, 3, 4, 5, 6, 7, 8, 9, 10, 11, 12], [12])])
def impl_toy_HashChildren.B2 : List Nat := [0, 1, 3, 0, 15, 0, 63, 0, 255, 0, 512, 1536, 4095, 8191]
theorem impl_toy_HashChildren.tab2 : rtab .any (opsOf Tryd.f52 2) = impl_toy_HashChildren.T2 := by kernel_rfl
theorem impl_toy_HashChildren.bits2 : waitsOk impl_toy_HashChildren.T2.2 impl_toy_HashChildren.B2 = true := by kernel_rfl
set_option maxHeartbeats 8000000 in
set_option maxRecDepth 100000 in
theorem impl_toy_HashChildren.calls (k : Nat) (a0_0 : Int) (a0_1 : Int) (a0_2 : Int) (a0_3 : Int) (a0_4 : Int) (a0_5 : Int) (A1 : Option Addr) (c1 : Nat) (l1 : List Int) (A2 : Option Addr) (c2 : Nat) (l2 : List Int) (r : List Int) (w : World) (hr1 : Kd.C (Kd.int .u8) w A1 l1.length l1) (hc1 : l1.length ≤ c1) (hr2 : Kd.C (Kd.int .u8) w A2 l2.length l2) (hc2 : l2.length ≤ c2) (h : impl_toy_HashChildren.f k a0_0 a0_1 a0_2 a0_3 a0_4 a0_5 l1 l2 = some r) :
  Calls Tryd.prog 52 #[.agg #[.int .i64 a0_0, .int .i64 a0_1, .int .i64 a0_2, .int .u64 a0_3, .int .u64 a0_4, .int .u64 a0_5], .slice A1 l1.length c1, .slice A2 l2.length c2] w fun e w' => ∃ v0_ : Value, e = .returned (v0_) ∧ Kd.R (Kd.int .u8) 5 w' w.heap.size (fun _ => True) v0_ r ∧ Below w.heap.size w w' := by
 have hu85 := Tryd.underlying85
 have HR1 := Aside0.mk hr1
 have HC1 := Aside0.mk hc1
 clear hr1 hc1
 have HR2 := Aside0.mk hr2
 have HC2 := Aside0.mk hc2
 clear hr2 hc2
 have HB := Aside0.mk (Below.refl w.heap.size w)
 have H : (if a0_0 = 1 then ((impl_mixed.f k a0_5 l1).bind fun t265 => ((impl_mixed.f k t265 (([255] : List Int))).bind fun t269 => ((impl_mixed.f k t269 l2).bind fun t270 => ((impl_word.f k t270 a0_2).bind fun t271 => (some t271))))) else ((some (([1] : List Int) : List Int)).bind fun y274 => ((impl_word.f k (IntKind.u64.wrap ((l1.length : Int))) 8).bind fun t277 => (if y274.length + t277.length < 140737488355328 then ((some (y274 ++ t277 : List Int)).bind fun y280 => (if y280.length + l1.length < 140737488355328 then ((some (y280 ++ l1 : List Int)).bind fun y283 => (if y283.length + l2.length < 140737488355328 then (some (y283 ++ l2)) else (none))) else (none))) else (none))))) = some r := h
 clear h
 by_cases c4 : a0_0 = 1
 ·rw [if_pos c4] at H
  have c4b0 : (a0_0 == 1) = true := beq_iff_eq.mpr c4
  have c4b1 : (a0_0 != 1) = false := bne_eq_false_iff_eq.mpr c4
  clear c4
  replace H := Option.bind_eq_some_iff.mp H
  obtain ⟨t265, A50, H⟩ := H
  replace H : ((impl_mixed.f k t265 (([255] : List Int))).bind fun t269 => ((impl_mixed.f k t269 l2).bind fun t270 => ((impl_word.f k t270 a0_2).bind fun t271 => (some t271)))) = some r := H
  have A5 := Aside0.mk A50
  clear A50
  obtain ⟨y266, hy266⟩ : ∃ y_ : List Int, y_ = (([255] : List Int)) := ⟨_, rfl⟩
  replace H : ((impl_mixed.f k t265 y266).bind fun t269 => ((impl_mixed.f k t269 l2).bind fun t270 => ((impl_word.f k t270 a0_2).bind fun t271 => (some t271)))) = some r := by first | (rw [hy266]; with_reducible exact H) | (have H2_ := (Option.bind_some _ _).symm.trans H; rw [hy266]; with_reducible exact H2_) | (have H2_ := (Option.bind_some _ _).symm.trans H; with_reducible exact H2_) | with_reducible exact H | (rw [hy266]; exact H) | exact H
  have Ny266 := Aside0.mk hy266
  clear hy266
  replace H := Option.bind_eq_some_iff.mp H
  obtain ⟨t269, A60, H⟩ := H
  replace H : ((impl_mixed.f k t269 l2).bind fun t270 => ((impl_word.f k t270 a0_2).bind fun t271 => (some t271))) = some r := H
  have A6 := Aside0.mk A60
  clear A60
  replace H := Option.bind_eq_some_iff.mp H
  obtain ⟨t270, A70, H⟩ := H
  replace H : ((impl_word.f k t270 a0_2).bind fun t271 => (some t271)) = some r := H
  have A7 := Aside0.mk A70
  clear A70
  replace H := Option.bind_eq_some_iff.mp H
  obtain ⟨t271, A80, H⟩ := H
  replace H : (some t271) = some r := H
  have A8 := Aside0.mk A80
  clear A80
  obtain rfl := Option.some.inj H
  go_enter Tryd.func52, Tryd.ntmps52
  try go_wp2_with (first | ((with_reducible refine gate_dst (N := 3) rfl ?_); refine box_event ?hg (N := 3) ?hd (cs := #[.int .i64 a0_0, .int .i64 a0_1, .int .i64 a0_2, .int .u64 a0_3, .int .u64 a0_4, .int .u64 a0_5]) (t := 85) ?hr ?_; (case hd => rfl); (case hg => rfl); (case hr => first | (go_simp; done) | (go_simp; rfl)); intro gb264 hg w9 hbox hb; have n0_ := Aside0.mk (below_step bB hb); have n1_ := Aside0.mk (hbox); have n2_ := Aside0.mk ((by rw [hg]; exact (below_size bB) : w.heap.size ≤ gb264)); have n3_ := Aside0.mk ((by rw [hg]; exact (below_size bB) : w.heap.size ≤ gb264)); clear HB; have HB := n0_; have BK264 := n1_; have GW264 := n2_; have GE264 := n3_; clear n0_ n1_ n2_ n3_; clear hb hbox hg; have hcz10_0 : w9.cell? ⟨gb264, 0, none⟩ = some (.int .i64 a0_0) := (blk_cell BK264.out 0).trans rfl; have hcz10_1 : w9.cell? ⟨gb264, 1, none⟩ = some (.int .i64 a0_1) := (blk_cell BK264.out 1).trans rfl; have hcz10_2 : w9.cell? ⟨gb264, 2, none⟩ = some (.int .i64 a0_2) := (blk_cell BK264.out 2).trans rfl; have hcz10_3 : w9.cell? ⟨gb264, 3, none⟩ = some (.int .u64 a0_3) := (blk_cell BK264.out 3).trans rfl; have hcz10_4 : w9.cell? ⟨gb264, 4, none⟩ = some (.int .u64 a0_4) := (blk_cell BK264.out 4).trans rfl; have hcz10_5 : w9.cell? ⟨gb264, 5, none⟩ = some (.int .u64 a0_5) := (blk_cell BK264.out 5).trans rfl; have hfz10_0 := blk_frozen BK264.out 0; have hfz10_1 := blk_frozen BK264.out 1; have hfz10_2 := blk_frozen BK264.out 2; have hfz10_3 := blk_frozen BK264.out 3; have hfz10_4 := blk_frozen BK264.out 4; have hfz10_5 := blk_frozen BK264.out 5))
  have n0_ := Aside0.mk (blk_drew BK264.out)
  have n1_ := Aside0.mk (below_drew1 HB.out)
  clear BK264
  clear HB
  have BK264 := n0_
  have HB := n1_
  clear n0_ n1_
  refine start_ (n := 14) (S := fun w' => w'.cell? ⟨gb264, 0, none⟩ = some (.int .i64 a0_0) ∧ w'.cell? ⟨gb264, 1, none⟩ = some (.int .i64 a0_1) ∧ w'.cell? ⟨gb264, 2, none⟩ = some (.int .i64 a0_2) ∧ w'.cell? ⟨gb264, 3, none⟩ = some (.int .u64 a0_3) ∧ w'.cell? ⟨gb264, 4, none⟩ = some (.int .u64 a0_4) ∧ w'.cell? ⟨gb264, 5, none⟩ = some (.int .u64 a0_5)) (ds := []) #[false, false, false, false, false, false, false, false, false, false, false, false, false, false] (by kernel_rfl) rfl rfl ⟨(blk_cell BK264.out 0).trans rfl, (blk_cell BK264.out 1).trans rfl, (blk_cell BK264.out 2).trans rfl, (blk_cell BK264.out 3).trans rfl, (blk_cell BK264.out 4).trans rfl, (blk_cell BK264.out 5).trans rfl⟩ (fun hHeld => ?_); refine with_tabW impl_toy_HashChildren.tab2 impl_toy_HashChildren.bits2 (fun HT_ HW_ => ?_)
  generalize w9.drew = w11 at BK264 HB hHeld ⊢
  refine pure_ (i := 0) (N := some 12) (v := ?_) (a' := ?_) #[true, false, false, false, false, false, false, false, false, false, false, false, false, false] rfl rfl (any_of HT_.out (by kernel_rfl)) (fun _ _ _ h => h) (Or.inl ⟨by rfl, ?_⟩) ?_ ?_
  rotate_left
  ·intro w'
   go_simp
   with_reducible rfl
  rotate_left
  ·simp only [Act.put, List.setIfInBounds_toArray, List.set_cons_zero, List.set_cons_succ, i64_w, i32_w]
   rfl
  refine pure_ (i := 1) (N := some 13) (v := ?_) (a' := ?_) #[true, true, false, false, false, false, false, false, false, false, false, false, false, false] rfl rfl (any_of HT_.out (by kernel_rfl)) (fun _ _ _ h => h) (Or.inl ⟨by rfl, ?_⟩) ?_ ?_
  rotate_left
  ·intro w'
   go_simp
   with_reducible rfl
  rotate_left
  ·simp only [Act.put, List.setIfInBounds_toArray, List.set_cons_zero, List.set_cons_succ, i64_w, i32_w]
   rfl
  refine pure_ (i := 3) (N := some 15) (v := ?_) (a' := ?_) #[true, true, false, true, false, false, false, false, false, false, false, false, false, false] rfl rfl (any_of HT_.out (by kernel_rfl)) (fun _ _ _ h => h) (Or.inl ⟨by rfl, ?_⟩) ?_ ?_
  rotate_left
  ·intro w'
   go_simp
   with_reducible rfl
  rotate_left
  ·simp only [Act.put, List.setIfInBounds_toArray, List.set_cons_zero, List.set_cons_succ, i64_w, i32_w]
   rfl
  refine pure_ (i := 7) (N := some 19) (v := ?_) (a' := ?_) #[true, true, false, true, false, false, false, true, false, false, false, false, false, false] rfl rfl (any_of HT_.out (by kernel_rfl)) (fun _ _ _ h => h) (Or.inl ⟨by rfl, ?_⟩) ?_ ?_
  rotate_left
  ·intro w'
   go_simp
   with_reducible rfl
  rotate_left
  ·simp only [Act.put, List.setIfInBounds_toArray, List.set_cons_zero, List.set_cons_succ, i64_w, i32_w]
   rfl
  refine pure_ (i := 9) (N := some 21) (v := ?_) (a' := ?_) #[true, true, false, true, false, false, false, true, false, true, false, false, false, false] rfl rfl (any_of HT_.out (by kernel_rfl)) (fun _ _ _ h => h) (Or.inl ⟨by rfl, ?_⟩) ?_ ?_
  rotate_left
  ·intro w'
   go_simp
   with_reducible rfl
  rotate_left
  ·simp only [Act.put, List.setIfInBounds_toArray, List.set_cons_zero, List.set_cons_succ, i64_w, i32_w]
   rfl
  refine pure_ (i := 10) (N := some 22) (v := ?_) (a' := ?_) #[true, true, false, true, false, false, false, true, false, true, true, false, false, false] rfl rfl (any_of HT_.out (by kernel_rfl)) (fun _ _ _ h => h) (Or.inl ⟨by rfl, ?_⟩) ?_ ?_
  rotate_left
  ·intro w'
   go_simp
   with_reducible rfl
  rotate_left
  ·simp only [Act.put, List.setIfInBounds_toArray, List.set_cons_zero, List.set_cons_succ, i64_w, i32_w]
   rfl
  refine take_ (i := 2) (N := some 14) (v := ?_) (a' := ?_) #[true, true, true, true, false, false, false, true, false, true, true, false, false, false] rfl rfl (take_ofW HT_.out HW_.out (by kernel_rfl)) (fun _ _ _ h => h) (Or.inl ⟨by rfl, ?_⟩) hHeld ?_ ?_
  rotate_left
  ·rintro w' ⟨s0, s1, s2, s3, s4, s5⟩
   go_simp
   with_reducible rfl
  rotate_left
  ·simp only [Act.put, List.setIfInBounds_toArray, List.set_cons_zero, List.set_cons_succ, i64_w, i32_w]
   rfl
  refine take_ (i := 11) (N := some 23) (v := ?_) (a' := ?_) #[true, true, true, true, false, false, false, true, false, true, true, true, false, false] rfl rfl (take_ofW HT_.out HW_.out (by kernel_rfl)) (fun _ _ _ h => h) (Or.inl ⟨by rfl, ?_⟩) hHeld ?_ ?_
  rotate_left
  ·rintro w' ⟨s0, s1, s2, s3, s4, s5⟩
   go_simp
   with_reducible rfl
  rotate_left
  ·simp only [Act.put, List.setIfInBounds_toArray, List.set_cons_zero, List.set_cons_succ, i64_w, i32_w]
   rfl
  refine join_ (σ := Value) 4 #[true, true, true, true, true, true, false, true, false, true, true, true, false, false] (fun s_ => [(16, .int .u64 t265), (17, s_)]) (fun s_ w' => (w'.cell? ⟨gb264, 0, none⟩ = some (.int .i64 a0_0) ∧ w'.cell? ⟨gb264, 1, none⟩ = some (.int .i64 a0_1) ∧ w'.cell? ⟨gb264, 2, none⟩ = some (.int .i64 a0_2) ∧ w'.cell? ⟨gb264, 3, none⟩ = some (.int .u64 a0_3) ∧ w'.cell? ⟨gb264, 4, none⟩ = some (.int .u64 a0_4) ∧ w'.cell? ⟨gb264, 5, none⟩ = some (.int .u64 a0_5)) ∧ (Kd.R (Kd.int .u8) 5 w' w.heap.size (fun _ => True) s_ y266) ∧ (w'.heap[gb264]? = some (.cells #[.int .i64 a0_0, .int .i64 a0_1, .int .i64 a0_2, .int .u64 a0_3, .int .u64 a0_4, .int .u64 a0_5] 85 (0, 0))) ∧ (Below w.heap.size w w')) ?_ ?_
  rotate_left
  ·intro hCont
   refine two_ (i := 4) (j := 5) (Ni := some 16) (Nj := some 17) #[true, true, true, true, true, false, false, true, false, true, true, true, false, false] #[true, true, true, true, false, true, false, true, false, true, true, true, false, false] rfl rfl rfl rfl (two_of HT_.out (by kernel_rfl)) (by decide) (by decide) (fun K hK => ?_) (fun K hK => ?_)
   ·skip
    refine goes_ Tryd.func90 (by kernel_rfl) rfl #[.int .u64 a0_5, .slice A1 l1.length c1] (by rfl) rfl rfl aV ?_
    with_reducible refine (impl_mixed.calls k a0_5 _ _ l1 t265 _ ?side1 ?side2 A5.out).mono ?_
    (case side1 => repeat (first | exact (Kd.C_below HR1.out HB.out) | (with_reducible refine Kd.C_alloc ?_ _) | (with_reducible refine Kd.C_drewN ?_ _) | (with_reducible refine Kd.C_drew ?_)))
    (case side2 => exact HC1.out)
    rintro e w' ⟨rfl, ⟨nd, rfl⟩⟩
    refine ⟨_, rfl, ?_⟩
    refine hK.out _ _ ⟨(blk_cell BK264.out 0).trans rfl, (blk_cell BK264.out 1).trans rfl, (blk_cell BK264.out 2).trans rfl, (blk_cell BK264.out 3).trans rfl, (blk_cell BK264.out 4).trans rfl, (blk_cell BK264.out 5).trans rfl⟩ (fun hHeld => ?_)
    clear hK K
    refine norm_ (a' := ?_) ?_ ?_
    rotate_left
    ·show Act.put _ (some 16) _ = _
     simp only [Act.put, List.setIfInBounds_toArray, List.set_cons_zero, List.set_cons_succ, i64_w, i32_w]
     rfl
    refine one_ (i := 5) (N := some 17) #[true, true, true, true, true, true, false, true, false, true, true, true, false, false] rfl rfl (one_of HT_.out (by kernel_rfl)) (by decide) (fun K hK => ?_)
    refine Kd.R_lit_step (Kd.int .u8) _ 5 ?hg (N := 17) ?hd (xs := ([255] : List Int)) (inner := [.int .u8 255]) (ok := fun _ => True) (okp := fun _ => True) ?hr ?hp (fun _ hk => hk) trivial (Below.refl _ _) (Nat.le_refl _) (by simp) ?_; (case hd => rfl); (case hg => rfl); (case hr => first | (go_simp; done) | (go_simp; rfl)); (case hp => exact (Reps.one (show Kd.M (Kd.int .u8) _ _ _ 255 [.int .u8 255] from rfl) (Reps.none _ _)))
    intro v267 w12 ho13 hb hg_ hnew_
    clear hg_ hnew_
    (first | rw [← Ny266.out] at ho13 | (simp only [Int.reduceToNat] at ho13; rw [← Ny266.out] at ho13))
    have n0_ := Aside0.mk (Kd.R_lower ho13 (below_size bB))
    have n1_ := Aside0.mk (blk_below (g := gb264) (o := .cells #[.int .i64 a0_0, .int .i64 a0_1, .int .i64 a0_2, .int .u64 a0_3, .int .u64 a0_4, .int .u64 a0_5] 85 (0, 0)) (kB BK264.out) hb)
    have n2_ := Aside0.mk (below_step bB hb)
    clear BK264
    clear HB
    have HO268 := n0_
    have BK264 := n1_
    have HB := n2_
    clear n0_ n1_ n2_
    clear hb ho13
    refine hK.out _ _ ⟨(blk_cell BK264.out 0).trans rfl, (blk_cell BK264.out 1).trans rfl, (blk_cell BK264.out 2).trans rfl, (blk_cell BK264.out 3).trans rfl, (blk_cell BK264.out 4).trans rfl, (blk_cell BK264.out 5).trans rfl⟩ (fun hHeld => ?_)
    clear hK K
    refine norm_ (a' := ?_) ?_ ?_
    rotate_left
    ·show Act.put _ (some 17) _ = _
     simp only [Act.put, List.setIfInBounds_toArray, List.set_cons_zero, List.set_cons_succ, i64_w, i32_w]
     rfl
    exact norm_ (by simp only [putAll, Act.put, List.setIfInBounds_toArray, List.set_cons_zero, List.set_cons_succ]) (hCont (v267) _ ⟨hHeld, (kR HO268.out), (kB BK264.out), bB⟩)
   ·skip
    refine Kd.R_lit_step (Kd.int .u8) _ 5 ?hg (N := 17) ?hd (xs := ([255] : List Int)) (inner := [.int .u8 255]) (ok := fun _ => True) (okp := fun _ => True) ?hr ?hp (fun _ hk => hk) trivial (Below.refl _ _) (Nat.le_refl _) (by simp) ?_; (case hd => rfl); (case hg => rfl); (case hr => first | (go_simp; done) | (go_simp; rfl)); (case hp => exact (Reps.one (show Kd.M (Kd.int .u8) _ _ _ 255 [.int .u8 255] from rfl) (Reps.none _ _)))
    intro v267 w12 ho13 hb hg_ hnew_
    clear hg_ hnew_
    (first | rw [← Ny266.out] at ho13 | (simp only [Int.reduceToNat] at ho13; rw [← Ny266.out] at ho13))
    have n0_ := Aside0.mk (Kd.R_lower ho13 (below_size bB))
    have n1_ := Aside0.mk (blk_below (g := gb264) (o := .cells #[.int .i64 a0_0, .int .i64 a0_1, .int .i64 a0_2, .int .u64 a0_3, .int .u64 a0_4, .int .u64 a0_5] 85 (0, 0)) (kB BK264.out) hb)
    have n2_ := Aside0.mk (below_step bB hb)
    clear BK264
    clear HB
    have HO268 := n0_
    have BK264 := n1_
    have HB := n2_
    clear n0_ n1_ n2_
    clear hb ho13
    refine hK.out _ _ ⟨(blk_cell BK264.out 0).trans rfl, (blk_cell BK264.out 1).trans rfl, (blk_cell BK264.out 2).trans rfl, (blk_cell BK264.out 3).trans rfl, (blk_cell BK264.out 4).trans rfl, (blk_cell BK264.out 5).trans rfl⟩ (fun hHeld => ?_)
    clear hK K
    refine norm_ (a' := ?_) ?_ ?_
    rotate_left
    ·show Act.put _ (some 17) _ = _
     simp only [Act.put, List.setIfInBounds_toArray, List.set_cons_zero, List.set_cons_succ, i64_w, i32_w]
     rfl
    refine one_ (i := 4) (N := some 16) #[true, true, true, true, true, true, false, true, false, true, true, true, false, false] rfl rfl (one_of HT_.out (by kernel_rfl)) (by decide) (fun K hK => ?_)
    refine goes_ Tryd.func90 (by kernel_rfl) rfl #[.int .u64 a0_5, .slice A1 l1.length c1] (by rfl) rfl rfl aV ?_
    with_reducible refine (impl_mixed.calls k a0_5 _ _ l1 t265 _ ?side1 ?side2 A5.out).mono ?_
    (case side1 => repeat (first | exact (Kd.C_below HR1.out HB.out) | (with_reducible refine Kd.C_alloc ?_ _) | (with_reducible refine Kd.C_drewN ?_ _) | (with_reducible refine Kd.C_drew ?_)))
    (case side2 => exact HC1.out)
    rintro e w' ⟨rfl, ⟨nd, rfl⟩⟩
    refine ⟨_, rfl, ?_⟩
    refine hK.out _ _ ⟨(blk_cell BK264.out 0).trans rfl, (blk_cell BK264.out 1).trans rfl, (blk_cell BK264.out 2).trans rfl, (blk_cell BK264.out 3).trans rfl, (blk_cell BK264.out 4).trans rfl, (blk_cell BK264.out 5).trans rfl⟩ (fun hHeld => ?_)
    clear hK K
    refine norm_ (a' := ?_) ?_ ?_
    rotate_left
    ·show Act.put _ (some 16) _ = _
     simp only [Act.put, List.setIfInBounds_toArray, List.set_cons_zero, List.set_cons_succ, i64_w, i32_w]
     rfl
    exact norm_ (by simp only [putAll, Act.put, List.setIfInBounds_toArray, List.set_cons_zero, List.set_cons_succ]) (hCont (v267) _ ⟨hHeld, (kR HO268.out), (kB BK264.out), bB⟩)
  rintro v267 w14 ⟨hS_, h0_, h1_, h2_⟩
  have n0_ : Aside0 (Kd.R (Kd.int .u8) 5 w14 w.heap.size (fun _ => True) v267 y266) := ⟨h0_⟩
  have n1_ : Aside0 (w14.heap[gb264]? = some (.cells #[.int .i64 a0_0, .int .i64 a0_1, .int .i64 a0_2, .int .u64 a0_3, .int .u64 a0_4, .int .u64 a0_5] 85 (0, 0))) := ⟨h1_⟩
  have n2_ : Aside0 (Below w.heap.size w w14) := ⟨h2_⟩
  clear BK264
  clear HB
  clear h0_ h1_ h2_
  have HO268 := n0_
  have BK264 := n1_
  have HB := n2_
  clear n0_ n1_ n2_
  have hHeld : w14.cell? ⟨gb264, 0, none⟩ = some (.int .i64 a0_0) ∧ w14.cell? ⟨gb264, 1, none⟩ = some (.int .i64 a0_1) ∧ w14.cell? ⟨gb264, 2, none⟩ = some (.int .i64 a0_2) ∧ w14.cell? ⟨gb264, 3, none⟩ = some (.int .u64 a0_3) ∧ w14.cell? ⟨gb264, 4, none⟩ = some (.int .u64 a0_4) ∧ w14.cell? ⟨gb264, 5, none⟩ = some (.int .u64 a0_5) := hS_
  obtain ⟨Ao15, co15, eo15⟩ := Kd.R_slice HO268.out
  (first | subst eo15 | (injection eo15 with f1_ f2_ f3_; have f4_ := f1_.symm; have f5_ := f3_.symm; clear f1_ f2_ f3_; subst f4_; subst f5_))
  refine norm_ (a' := ?_) ?_ ?_
  rotate_left
  ·simp only [putAll, Act.put, List.setIfInBounds_toArray, List.set_cons_zero, List.set_cons_succ]
   rfl
  refine one_ (i := 6) (N := some 18) #[true, true, true, true, true, true, true, true, false, true, true, true, false, false] rfl rfl (one_of HT_.out (by kernel_rfl)) (by decide) (fun K hK => ?_)
  refine goes_ Tryd.func90 (by kernel_rfl) rfl #[.int .u64 t265, .slice Ao15 y266.length co15] (by rfl) rfl rfl aV ?_
  with_reducible refine (impl_mixed.calls k t265 _ _ y266 t269 _ ?side1 ?side2 A6.out).mono ?_
  (case side1 => repeat (first | exact (Kd.R_reads' HO268.out).2.2 | (with_reducible refine Kd.C_alloc ?_ _) | (with_reducible refine Kd.C_drewN ?_ _) | (with_reducible refine Kd.C_drew ?_)))
  (case side2 => exact (Kd.R_reads' HO268.out).2.1)
  rintro e w' ⟨rfl, ⟨nd, rfl⟩⟩
  refine ⟨_, rfl, ?_⟩
  refine hK.out _ _ ⟨(blk_cell BK264.out 0).trans rfl, (blk_cell BK264.out 1).trans rfl, (blk_cell BK264.out 2).trans rfl, (blk_cell BK264.out 3).trans rfl, (blk_cell BK264.out 4).trans rfl, (blk_cell BK264.out 5).trans rfl⟩ (fun hHeld => ?_)
  clear hK K
  refine norm_ (a' := ?_) ?_ ?_
  rotate_left
  ·show Act.put _ (some 18) _ = _
   simp only [Act.put, List.setIfInBounds_toArray, List.set_cons_zero, List.set_cons_succ, i64_w, i32_w]
   rfl
  refine one_ (i := 8) (N := some 20) #[true, true, true, true, true, true, true, true, true, true, true, true, false, false] rfl rfl (one_of HT_.out (by kernel_rfl)) (by decide) (fun K hK => ?_)
  refine goes_ Tryd.func90 (by kernel_rfl) rfl #[.int .u64 t269, .slice A2 l2.length c2] (by rfl) rfl rfl aV ?_
  with_reducible refine (impl_mixed.calls k t269 _ _ l2 t270 _ ?side1 ?side2 A7.out).mono ?_
  (case side1 => repeat (first | exact (Kd.C_below HR2.out bB) | (with_reducible refine Kd.C_alloc ?_ _) | (with_reducible refine Kd.C_drewN ?_ _) | (with_reducible refine Kd.C_drew ?_)))
  (case side2 => exact HC2.out)
  rintro e w' ⟨rfl, ⟨nd, rfl⟩⟩
  refine ⟨_, rfl, ?_⟩
  refine hK.out _ _ ⟨(blk_cell BK264.out 0).trans rfl, (blk_cell BK264.out 1).trans rfl, (blk_cell BK264.out 2).trans rfl, (blk_cell BK264.out 3).trans rfl, (blk_cell BK264.out 4).trans rfl, (blk_cell BK264.out 5).trans rfl⟩ (fun hHeld => ?_)
  clear hK K
  refine norm_ (a' := ?_) ?_ ?_
  rotate_left
  ·show Act.put _ (some 20) _ = _
   simp only [Act.put, List.setIfInBounds_toArray, List.set_cons_zero, List.set_cons_succ, i64_w, i32_w]
   rfl
  refine one_ (i := 12) (N := some 24) #[true, true, true, true, true, true, true, true, true, true, true, true, true, false] rfl rfl (one_of HT_.out (by kernel_rfl)) (by decide) (fun K hK => ?_)
  refine goes_ Tryd.func89 (by kernel_rfl) rfl #[.int .u64 t270, .int .i64 a0_2] (by rfl) rfl rfl aV ?_
  with_reducible refine (impl_word.calls k t270 a0_2 t271 _ A8.out).mono ?_
  rintro e w16 ⟨v272, rfl, ho0, hb⟩
  refine ⟨_, rfl, ?_⟩
  have n0_ := Aside0.mk (Kd.R_elder' (kR HO268.out) (Kd.R_base ho0) hb)
  have n1_ := Aside0.mk (Kd.R_lower (Kd.R_new' ho0 (Kd.R_lt (kR HO268.out))) (below_size bB))
  have n2_ := Aside0.mk (blk_below (g := gb264) (o := .cells #[.int .i64 a0_0, .int .i64 a0_1, .int .i64 a0_2, .int .u64 a0_3, .int .u64 a0_4, .int .u64 a0_5] 85 (0, 0)) (kB BK264.out) hb)
  have n3_ := Aside0.mk (below_step bB hb)
  clear HO268
  clear BK264
  clear HB
  have HO268 := n0_
  have HO273 := n1_
  have BK264 := n2_
  have HB := n3_
  clear n0_ n1_ n2_ n3_
  (try clear hb)
  (try clear hb2)
  (try clear hk)
  (try clear hi)
  (try clear ho0)
  refine hK.out _ _ ⟨(blk_cell BK264.out 0).trans rfl, (blk_cell BK264.out 1).trans rfl, (blk_cell BK264.out 2).trans rfl, (blk_cell BK264.out 3).trans rfl, (blk_cell BK264.out 4).trans rfl, (blk_cell BK264.out 5).trans rfl⟩ (fun hHeld => ?_)
  clear hK K
  refine norm_ (a' := ?_) ?_ ?_
  rotate_left
  ·show Act.put _ (some 24) _ = _
   simp only [Act.put, List.setIfInBounds_toArray, List.set_cons_zero, List.set_cons_succ, i64_w, i32_w]
   rfl
  refine pure_ (i := 13) (N := some 6) (v := ?_) (a' := ?_) #[true, true, true, true, true, true, true, true, true, true, true, true, true, true] rfl rfl (any_of HT_.out (by kernel_rfl)) (fun _ _ _ h => h) (Or.inl ⟨by rfl, ?_⟩) ?_ ?_
  rotate_left
  ·intro w'
   go_simp
   with_reducible rfl
  rotate_left
  ·simp only [Act.put, List.setIfInBounds_toArray, List.set_cons_zero, List.set_cons_succ, i64_w, i32_w]
   rfl
  refine done_ (done_of HT_.out (by kernel_rfl)) ?_
  try go_wp2
  go_ret
  exact ⟨_, by first | rfl | (simp [errW_none, errW_some] <;> rfl) | (simp [*, errW_none, errW_some] <;> rfl), by (with_reducible repeat (first | apply Kd.R_alloc | apply Kd.R_drewN | apply Kd.R_drew)); exact Kd.R_mono HO273.out (fun _ hk => trivial), bB⟩
 ·rw [if_neg c4] at H
  have c4b0 : (a0_0 == 1) = false := beq_eq_false_iff_ne.mpr c4
  have c4b1 : (a0_0 != 1) = true := bne_iff_ne.mpr c4
  obtain ⟨y274, hy274⟩ : ∃ y_ : List Int, y_ = (([1] : List Int)) := ⟨_, rfl⟩
  replace H : ((impl_word.f k (IntKind.u64.wrap ((l1.length : Int))) 8).bind fun t277 => (if y274.length + t277.length < 140737488355328 then ((some (y274 ++ t277 : List Int)).bind fun y280 => (if y280.length + l1.length < 140737488355328 then ((some (y280 ++ l1 : List Int)).bind fun y283 => (if y283.length + l2.length < 140737488355328 then (some (y283 ++ l2)) else (none))) else (none))) else (none))) = some r := by first | (rw [hy274]; with_reducible exact H) | (have H2_ := (Option.bind_some _ _).symm.trans H; rw [hy274]; with_reducible exact H2_) | (have H2_ := (Option.bind_some _ _).symm.trans H; with_reducible exact H2_) | with_reducible exact H | (rw [hy274]; exact H) | exact H
  have Ny274 := Aside0.mk hy274
  clear hy274
  replace H := Option.bind_eq_some_iff.mp H
  obtain ⟨t277, A170, H⟩ := H
  replace H : (if y274.length + t277.length < 140737488355328 then ((some (y274 ++ t277 : List Int)).bind fun y280 => (if y280.length + l1.length < 140737488355328 then ((some (y280 ++ l1 : List Int)).bind fun y283 => (if y283.length + l2.length < 140737488355328 then (some (y283 ++ l2)) else (none))) else (none))) else (none)) = some r := H
  have A17 := Aside0.mk A170
  clear A170
  by_cases c18 : y274.length + t277.length < 140737488355328
  ·rw [if_pos c18] at H
   have LMc18 := Aside0.mk c18
   clear c18
   obtain ⟨y280, hy280⟩ : ∃ y_ : List Int, y_ = (y274 ++ t277) := ⟨_, rfl⟩
   replace H : (if y280.length + l1.length < 140737488355328 then ((some (y280 ++ l1 : List Int)).bind fun y283 => (if y283.length + l2.length < 140737488355328 then (some (y283 ++ l2)) else (none))) else (none)) = some r := by first | (rw [hy280]; with_reducible exact H) | (have H2_ := (Option.bind_some _ _).symm.trans H; rw [hy280]; with_reducible exact H2_) | (have H2_ := (Option.bind_some _ _).symm.trans H; with_reducible exact H2_) | with_reducible exact H | (rw [hy280]; exact H) | exact H
   have Ny280 := Aside0.mk hy280
   clear hy280
   by_cases c19 : y280.length + l1.length < 140737488355328
   ·rw [if_pos c19] at H
    have LMc19 := Aside0.mk c19
    clear c19
    obtain ⟨y283, hy283⟩ : ∃ y_ : List Int, y_ = (y280 ++ l1) := ⟨_, rfl⟩
    replace H : (if y283.length + l2.length < 140737488355328 then (some (y283 ++ l2)) else (none)) = some r := by first | (rw [hy283]; with_reducible exact H) | (have H2_ := (Option.bind_some _ _).symm.trans H; rw [hy283]; with_reducible exact H2_) | (have H2_ := (Option.bind_some _ _).symm.trans H; with_reducible exact H2_) | with_reducible exact H | (rw [hy283]; exact H) | exact H
    have Ny283 := Aside0.mk hy283
    clear hy283
    by_cases c20 : y283.length + l2.length < 140737488355328
    ·rw [if_pos c20] at H
     have LMc20 := Aside0.mk c20
     clear c20
     obtain ⟨y286, hy286⟩ : ∃ y_ : List Int, y_ = (y283 ++ l2) := ⟨_, rfl⟩
     replace H : (some y286) = some r := by first | (rw [hy286]; with_reducible exact H) | (have H2_ := (Option.bind_some _ _).symm.trans H; rw [hy286]; with_reducible exact H2_) | (have H2_ := (Option.bind_some _ _).symm.trans H; with_reducible exact H2_) | with_reducible exact H | (rw [hy286]; exact H) | exact H
     have Ny286 := Aside0.mk hy286
     clear hy286
     obtain rfl := Option.some.inj H
     go_enter Tryd.func52, Tryd.ntmps52
     go_wp2_with (first | ((with_reducible refine gate_dst (N := 3) rfl ?_); refine box_event ?hg (N := 3) ?hd (cs := #[.int .i64 a0_0, .int .i64 a0_1, .int .i64 a0_2, .int .u64 a0_3, .int .u64 a0_4, .int .u64 a0_5]) (t := 85) ?hr ?_; (case hd => rfl); (case hg => rfl); (case hr => first | (go_simp; done) | (go_simp; rfl)); intro gb264 hg w21 hbox hb; have n0_ := Aside0.mk (below_step bB hb); have n1_ := Aside0.mk (hbox); have n2_ := Aside0.mk ((by rw [hg]; exact (below_size bB) : w.heap.size ≤ gb264)); have n3_ := Aside0.mk ((by rw [hg]; exact (below_size bB) : w.heap.size ≤ gb264)); clear HB; have HB := n0_; have BK264 := n1_; have GW264 := n2_; have GE264 := n3_; clear n0_ n1_ n2_ n3_; clear hb hbox hg; have hcz22_0 : w21.cell? ⟨gb264, 0, none⟩ = some (.int .i64 a0_0) := (blk_cell BK264.out 0).trans rfl; have hcz22_1 : w21.cell? ⟨gb264, 1, none⟩ = some (.int .i64 a0_1) := (blk_cell BK264.out 1).trans rfl; have hcz22_2 : w21.cell? ⟨gb264, 2, none⟩ = some (.int .i64 a0_2) := (blk_cell BK264.out 2).trans rfl; have hcz22_3 : w21.cell? ⟨gb264, 3, none⟩ = some (.int .u64 a0_3) := (blk_cell BK264.out 3).trans rfl; have hcz22_4 : w21.cell? ⟨gb264, 4, none⟩ = some (.int .u64 a0_4) := (blk_cell BK264.out 4).trans rfl; have hcz22_5 : w21.cell? ⟨gb264, 5, none⟩ = some (.int .u64 a0_5) := (blk_cell BK264.out 5).trans rfl; have hfz22_0 := blk_frozen BK264.out 0; have hfz22_1 := blk_frozen BK264.out 1; have hfz22_2 := blk_frozen BK264.out 2; have hfz22_3 := blk_frozen BK264.out 3; have hfz22_4 := blk_frozen BK264.out 4; have hfz22_5 := blk_frozen BK264.out 5) | ((with_reducible refine gate_dst (N := 25) rfl ?_); refine Kd.R_lit (Kd.int .u8) _ 5 ?hg (N := 25) ?hd (xs := ([1] : List Int)) (inner := [.int .u8 1]) (ok := fun _ => True) (okp := fun _ => True) ?hr ?hp (fun _ hk => hk) trivial (Below.refl _ _) (Nat.le_refl _) (by simp) ?_; (case hd => rfl); (case hg => rfl); (case hr => first | (go_simp; done) | (go_simp; rfl)); (case hp => exact (Reps.one (show Kd.M (Kd.int .u8) _ _ _ 1 [.int .u8 1] from rfl) (Reps.none _ _))); intro v275 w23 ho24 hb hg_ hnew_; clear hg_ hnew_; (first | rw [← Ny274.out] at ho24 | (simp only [Int.reduceToNat] at ho24; rw [← Ny274.out] at ho24)); have n0_ := Aside0.mk (Kd.R_lower ho24 (below_size bB)); have n1_ := Aside0.mk (blk_below (g := gb264) (o := .cells #[.int .i64 a0_0, .int .i64 a0_1, .int .i64 a0_2, .int .u64 a0_3, .int .u64 a0_4, .int .u64 a0_5] 85 (0, 0)) (kB BK264.out) hb); have n2_ := Aside0.mk (below_step bB hb); clear BK264; clear HB; have HO276 := n0_; have BK264 := n1_; have HB := n2_; clear n0_ n1_ n2_; clear hb ho24) | ((with_reducible refine gate_callee (f := 89) rfl ?_); refine goesL_ (some 29) rfl rfl Tryd.func89 (by kernel_rfl) rfl #[.int .u64 (IntKind.u64.wrap ((l1.length : Int))), .int .i64 8] rfl aV ?_; (with_reducible refine (impl_word.calls k (IntKind.u64.wrap ((l1.length : Int))) 8 t277 _ A17.out).mono ?_); rintro e w25 ⟨v278, rfl, ho0, hb⟩; refine ⟨_, rfl, ?_⟩; have n0_ := Aside0.mk (Kd.R_elder' (kR HO276.out) (Kd.R_base ho0) hb); have n1_ := Aside0.mk (Kd.R_lower (Kd.R_new' ho0 (Kd.R_lt (kR HO276.out))) (below_size bB)); have n2_ := Aside0.mk (blk_below (g := gb264) (o := .cells #[.int .i64 a0_0, .int .i64 a0_1, .int .i64 a0_2, .int .u64 a0_3, .int .u64 a0_4, .int .u64 a0_5] 85 (0, 0)) (kB BK264.out) hb); have n3_ := Aside0.mk (below_step bB hb); clear HO276; clear BK264; clear HB; have HO276 := n0_; have HO279 := n1_; have BK264 := n2_; have HB := n3_; clear n0_ n1_ n2_ n3_; (try clear hb); (try clear hb2); (try clear hk); (try clear hi); (try clear ho0); obtain ⟨Ao27, co27, eo27⟩ := Kd.R_slice HO279.out; subst eo27) | ((with_reducible refine gate_builtin (b := .append) (xs := #[.tmp 25, .tmp 29]) rfl ?_); at_builtin; refine Kd.R_append_rows (Kd.int .u8) (w0 := w) w.heap.size rfl (.tmp 25) (.tmp 29) 27 5 (.int .u8 0) 1 rfl Tryd.underlying27 info5 rfl (by decide) (by omega) v275 y274 t277 _ _ _ (fun k_ => some k_ ≠ (.slice Ao27 t277.length co27 : Value).ownBlock) (fun _ => False) rfl rfl ?aO ?aR (fun _ _ h => h) (fun _ h => h.elim) ?aF ?aB ?aS ?aL ?_; (case aR => repeat (first | exact (Kd.R_reads' HO279.out).2.2 | (with_reducible refine Kd.C_alloc ?_ _) | (with_reducible refine Kd.C_drewN ?_ _) | (with_reducible refine Kd.C_drew ?_))); (case aB => exact bB); (case aF => exact (fun k_ hk => Kd.fresh' (Kd.R_lt (kR HO279.out)) k_ hk)); (case aO => exact (by (with_reducible repeat (first | apply Kd.R_alloc | apply Kd.R_drewN | apply Kd.R_drew)); exact Kd.R_mono HO276.out (fun _ hk => hk.2))); (case aS => exact (below_size bB)); (case aL => have := LMc18.out; omega); intro v281 w26 ho hb hg hat; rw [← Ny280.out] at ho; have n0_ := Aside0.mk (blk_grown (g := gb264) (o := .cells #[.int .i64 a0_0, .int .i64 a0_1, .int .i64 a0_2, .int .u64 a0_3, .int .u64 a0_4, .int .u64 a0_5] 85 (0, 0)) (kB BK264.out) hg (Kd.R_ne HO276.out BK264.out (by decide))); have n1_ := Aside0.mk (Kd.R_after (ok := (fun _ => True)) (kR HO279.out) hg hat); have n2_ := Aside0.mk (hb); have n3_ := Aside0.mk (ho); clear BK264; clear HO279; clear HB; clear HO276; have BK264 := n0_; have HO279 := n1_; have HB := n2_; have HO282 := n3_; clear n0_ n1_ n2_ n3_; clear ho hb hg hat) | ((with_reducible refine gate_builtin (b := .append) (xs := #[.tmp 31, .tmp 32]) rfl ?_); at_builtin; refine Kd.R_append_rows (Kd.int .u8) (w0 := w) w.heap.size rfl (.tmp 31) (.tmp 32) 27 5 (.int .u8 0) 1 rfl Tryd.underlying27 info5 rfl (by decide) (by omega) v281 y280 l1 _ _ _ (fun k_ => some k_ ≠ (.slice Ao27 t277.length co27 : Value).ownBlock) (fun _ => False) rfl rfl ?aO ?aR (fun _ _ h => h) (fun _ h => h.elim) ?aF ?aB ?aS ?aL ?_; (case aR => repeat (first | exact (Kd.C_below HR1.out HB.out) | (with_reducible refine Kd.C_alloc ?_ _) | (with_reducible refine Kd.C_drewN ?_ _) | (with_reducible refine Kd.C_drew ?_))); (case aB => exact bB); (case aF => exact (fun k_ hk => Kd.fresh' (Kd.R_lt (kR HO279.out)) k_ hk)); (case aO => exact (kR HO282.out)); (case aS => exact (below_size bB)); (case aL => have := LMc19.out; omega); intro v284 w28 ho hb hg hat; rw [← Ny283.out] at ho; have n0_ := Aside0.mk (blk_grown (g := gb264) (o := .cells #[.int .i64 a0_0, .int .i64 a0_1, .int .i64 a0_2, .int .u64 a0_3, .int .u64 a0_4, .int .u64 a0_5] 85 (0, 0)) (kB BK264.out) hg (Kd.R_ne HO282.out BK264.out (by decide))); have n1_ := Aside0.mk (Kd.R_after (ok := (fun _ => True)) (kR HO279.out) hg hat); have n2_ := Aside0.mk (hb); have n3_ := Aside0.mk (ho); clear BK264; clear HO279; clear HB; clear HO282; have BK264 := n0_; have HO279 := n1_; have HB := n2_; have HO285 := n3_; clear n0_ n1_ n2_ n3_; clear ho hb hg hat) | ((with_reducible refine gate_builtin (b := .append) (xs := #[.tmp 33, .tmp 34]) rfl ?_); at_builtin; refine Kd.R_append_rows (Kd.int .u8) (w0 := w) w.heap.size rfl (.tmp 33) (.tmp 34) 27 5 (.int .u8 0) 1 rfl Tryd.underlying27 info5 rfl (by decide) (by omega) v284 y283 l2 _ _ _ (fun k_ => some k_ ≠ (.slice Ao27 t277.length co27 : Value).ownBlock) (fun _ => False) rfl rfl ?aO ?aR (fun _ _ h => h) (fun _ h => h.elim) ?aF ?aB ?aS ?aL ?_; (case aR => repeat (first | exact (Kd.C_below HR2.out HB.out) | (with_reducible refine Kd.C_alloc ?_ _) | (with_reducible refine Kd.C_drewN ?_ _) | (with_reducible refine Kd.C_drew ?_))); (case aB => exact bB); (case aF => exact (fun k_ hk => Kd.fresh' (Kd.R_lt (kR HO279.out)) k_ hk)); (case aO => exact (kR HO285.out)); (case aS => exact (below_size bB)); (case aL => have := LMc20.out; omega); intro v287 w29 ho hb hg hat; rw [← Ny286.out] at ho; have n0_ := Aside0.mk (blk_grown (g := gb264) (o := .cells #[.int .i64 a0_0, .int .i64 a0_1, .int .i64 a0_2, .int .u64 a0_3, .int .u64 a0_4, .int .u64 a0_5] 85 (0, 0)) (kB BK264.out) hg (Kd.R_ne HO285.out BK264.out (by decide))); have n1_ := Aside0.mk (Kd.R_after (ok := (fun _ => True)) (kR HO279.out) hg hat); have n2_ := Aside0.mk (hb); have n3_ := Aside0.mk (ho); clear BK264; clear HO279; clear HB; clear HO285; have BK264 := n0_; have HO279 := n1_; have HB := n2_; have HO288 := n3_; clear n0_ n1_ n2_ n3_; clear ho hb hg hat))
     go_ret
     exact ⟨_, by first | rfl | (simp [errW_none, errW_some] <;> rfl) | (simp [*, errW_none, errW_some] <;> rfl), by (with_reducible repeat (first | apply Kd.R_alloc | apply Kd.R_drewN | apply Kd.R_drew)); exact Kd.R_mono HO288.out (fun _ hk => trivial), bB⟩
    ·rw [if_neg c20] at H
     exact absurd H (by simp)
   ·rw [if_neg c19] at H
    exact absurd H (by simp)
  ·rw [if_neg c18] at H
   exact absurd H (by simp)


/-! ### compact_Range_appendImpl: function 93 -/
theorem info_visit : (Tryd.prog.info? 60).map (fun i => (i.zero, i.size, i.bytes)) = some (some (.agg #[(.int .u64 0), (.int .u64 0), (.slice none 0 0)]), 3, 40) := by kernel_rfl
/-- All blocks but those of two types and those of S are as they were. -/
def FKeep (S : Nat → Prop) (w w' : World) : Prop := w.heap.size ≤ w'.heap.size ∧ ∀ (k : Nat) (o : Obj), w.heap[k]? = some o → ¬ Two 42 60 o → ¬ S k → w'.heap[k]? = some o
abbrev VKeep (w w' : World) : Prop := TKeep 42 60 w w'
/-- What was shown, in memory. -/
def Vs (w : World) (B gb : Nat) (vis : List S60) : Prop := ∃ vs, w.heap[gb]? = some (.cells #[vs] 42 (0, 0)) ∧ k60.R 60 w B (fun _ => True) vs vis
theorem Vs.below {w w' : World} {B gb : Nat} {vis : List S60} (h : Vs w B gb vis) (hb : Below w.heap.size w w') : Vs w' B gb vis := by
 obtain ⟨vs, h1, h2⟩ := h
 exact ⟨vs, blk_below h1 hb, Kd.R_below h2 hb⟩
theorem Vs.drewN {w : World} {B gb : Nat} {vis : List S60} (h : Vs w B gb vis) (n : Nat) : Vs (w.drewN n) B gb vis := h.below (pw_below_drewN (Below.refl _ _) n)
theorem Vs.grown {W W1 : World} {B gb : Nat} {vis : List S60} {ok : Nat → Prop} {v : Value} {L : List (List Int)} (h : Vs W B gb vis) (hr : (Kd.slice 5 (Kd.int .u8)).R 27 W B ok v L) (hg : W.grownBy W1 v.ownBlock) : Vs W1 B gb vis := by
 obtain ⟨vs, h1, h2⟩ := h
 exact ⟨vs, blk_grown h1 hg (Kd.R_ne hr h1 (by decide)), Kd.R_mono (Kd.R_grown (Kd.R_apart' h2 (Kd.R_typed hr) (by decide)) hg (fun _ hk => hk.2)) (fun _ hk => hk.1)⟩
theorem Vs.set {W : World} {B gb g j : Nat} {vis : List S60} {cs : Array Value} {u : Value} (h : Vs W B gb vis) (hb : W.heap[g]? = some (.cells cs 157 (0, 0))) : Vs (W.setCell ⟨g, j, none⟩ u) B gb vis := by
 obtain ⟨vs, h1, h2⟩ := h
 exact ⟨vs, blk_far h1 (blk_ne h1 hb (by decide)) u, Kd.R_set h2 hb (by decide) j u⟩
theorem FKeep.of {S : Nat → Prop} {w wr W : World} (h : VKeep w wr) (hk : Kept wr W S) : FKeep S w W :=
 ⟨Nat.le_trans h.1 hk.1, fun k o h1 h2 h3 => (hk.2 k (blk_lt (h.2 k o h1 h2)) h3).trans (h.2 k o h1 h2)⟩
/-- fv is a visitor: it appends the node and a copy of the hash. -/
def Vst (fv : Value) (B gb : Nat) : Prop := ∃ f, fv = .func (.func f) #[] #[.pointer (some ⟨gb, 0, none⟩)] ∧ IsFc Tryd.prog fv f #[.pointer (some ⟨gb, 0, none⟩)] ∧
 ∀ (vis : List S60) (lv ix : Int) (A : Option Addr) (c : Nat) (hash : List Int) (w : World), Vs w B gb vis → B ≤ w.heap.size → (Kd.int .u8).C w A hash.length hash → hash.length ≤ c → hash.length < 140737488355328 → vis.length < 1000000000 →
  Calls Tryd.prog f #[.agg #[.int .u64 lv, .int .u64 ix], .slice A hash.length c, .pointer (some ⟨gb, 0, none⟩)] w fun e w' => e = .returned (.tuple #[]) ∧ Vs w' B gb (vis ++ [⟨⟨lv, ix⟩, hash⟩]) ∧ Below B w w' ∧ VKeep w w'
def rgMk (h x : Nat) (y : List Int) : S60 := ⟨⟨h, x⟩, y⟩
theorem rgMk_eq (h x : Nat) (y : List Int) : rgMk (h + 1) (x / 2) y = ⟨⟨(h : Int) + 1, (x : Int) / 2⟩, y⟩ := by
 unfold rgMk
 congr 2
/-- What the hash function makes, where it is short enough to be copied. -/
def rgH (k : Nat) (a0 a1 a2 a3 a4 a5 : Int) (l r : List Int) : Option (List Int) := (impl_toy_HashChildren.f k a0 a1 a2 a3 a4 a5 l r).bind fun y => if y.length < 140737488355328 then some y else none
/-- The merge of a range with what begins with seed and goes on with ys: the hashes, and the nodes that are made. -/
def rgApp (k : Nat) (a0 a1 a2 a3 a4 a5 : Int) (b m e : Int) (L : List (List Int)) (seed : List Int) (ys : List (List Int)) (vis : List S60) : Option (List (List Int) × List S60) :=
 (compact_getMergePath.f b m e).bind fun p =>
  if 0 ≤ m ∧ m < 18446744073709551616 ∧ 0 ≤ p.1 ∧ p.1 ≤ 64 ∧ 0 ≤ p.2 ∧ p.2 < 64 ∧ L.length < 1000000 ∧ ys.length < 1000000 ∧ vis.length < 1000000
    ∧ Lib.onesCount (m.toNat / 2 ^ p.1.toNat % 2 ^ (p.2.toNat - p.1.toNat)) ≤ L.length ∧ p.2.toNat - p.1.toNat ≤ ys.length + Lib.onesCount (m.toNat / 2 ^ p.1.toNat % 2 ^ (p.2.toNat - p.1.toNat)) then
   Mrg.mgF rgMk (rgH k a0 a1 a2 a3 a4 a5) (p.2.toNat - p.1.toNat) p.1.toNat (m.toNat / 2 ^ p.1.toNat) L ys seed vis
  else none
theorem and_one1 (a : Nat) (h : a < 18446744073709551616) : Go.bits .and .u64 (a : Int) 1 = ((a % 2 : Nat) : Int) := by
 rw [show (1 : Int) = ((1 : Nat) : Int) from rfl, bits_and_u64_nat a 1 h (by omega), show a &&& 1 = a % 2 from Nat.and_two_pow_sub_one_eq_mod a 1]
theorem row_drop {α : Type} {R : α → List Value → Prop} {w : World} {A : Option Addr} {xs : List α} {m c : Nat} (h : ReadsRow R 1 w A xs.length xs) (hm : m ≤ xs.length) (hc : xs.length ≤ c) : ReadsRow R 1 w (if c = m then A else A.map (·.add m)) (xs.drop m).length (xs.drop m) := by
 have hl : (xs.drop m).length = xs.length - m := List.length_drop
 refine ⟨rfl, by rw [hl]; have := h.2.1; omega, fun hp => ?_⟩
 rw [hl] at hp
 obtain ⟨ad, rfl, hcell⟩ := h.2.2 (by omega)
 rw [if_neg (by omega)]
 refine ⟨ad.add m, rfl, fun j p hj => ?_⟩
 rw [List.getElem?_drop] at hj
 obtain ⟨cs, h1, h2, h3⟩ := hcell (m + j) p hj
 refine ⟨cs, h1, h2, fun i u hu => ?_⟩
 rw [add_add, show m + (j * 1 + i) = (m + j) * 1 + i by omega]
 exact h3 i u hu
theorem rgH_some {k : Nat} {a0 a1 a2 a3 a4 a5 : Int} {l r y : List Int} (h : rgH k a0 a1 a2 a3 a4 a5 l r = some y) : impl_toy_HashChildren.f k a0 a1 a2 a3 a4 a5 l r = some y ∧ y.length < 140737488355328 := by
 unfold rgH at h
 obtain ⟨z, hz, h⟩ := Option.bind_eq_some_iff.mp h
 by_cases c : z.length < 140737488355328
 ·rw [if_pos c] at h
  obtain rfl := Option.some.inj h
  exact ⟨hz, c⟩
 ·rw [if_neg c] at h
  exact absurd h (by simp)
theorem getLast_take {L : List (List Int)} {i : Nat} {l : List Int} (hi : i ≤ L.length) (h : (L.take i).getLast? = some l) : 0 < i ∧ L.getD (i - 1) [] = l ∧ (L.take i).dropLast = L.take (i - 1) := by
 have hn : L.take i ≠ [] := fun e => by rw [e] at h; simp at h
 have h0 : 0 < i := by
  rcases Nat.eq_zero_or_pos i with h0 | h0
  ·subst h0; simp at hn
  ·exact h0
 refine ⟨h0, ?_, ?_⟩
 ·rw [List.getLast?_eq_getElem?, List.length_take, Nat.min_eq_left hi, List.getElem?_take, if_pos (by omega)] at h
  rw [List.getD_eq_getElem?_getD, h]
  rfl
 ·rw [List.dropLast_eq_take, List.length_take, Nat.min_eq_left hi, List.take_take, Nat.min_eq_left (by omega)]
theorem fact_fn (fn : Fn) (fi ca : Array Value) (w : World) : (binOp .neq 158 (.func fn fi ca) .nilFunc).run Tryd.prog w = .ok (.bool true) w := by
 have h : ∀ d : Nat, (Op.equalIn (d + 1) 158 (.func fn fi ca) .nilFunc).run Tryd.prog w = .ok false w := fun d => by
  simp [Op.equalIn, run_underlying Tryd.underlying158]
 simp only [binOp]
 simp [Op.equal, Op.maxDepth, h 9999]
theorem rg_rel {h_ dd lo d i1 i2 a b xx v1 vl : Nat} {Q : Prop} (h : h_ + (dd + 1) = lo + d ∧ i1 ≤ a ∧ i2 ≤ b ∧ xx < 18446744073709551616 ∧ v1 + (dd + 1) = vl + d ∧ Q) {i1' i2' : Nat} (h1 : i1' ≤ i1) (h2 : i2' ≤ b) :
  h_ + 1 + dd = lo + d ∧ i1' ≤ a ∧ i2' ≤ b ∧ xx / 2 < 18446744073709551616 ∧ v1 + 1 + dd = vl + d :=
 ⟨by omega, by omega, h2, by omega, by omega⟩
theorem div_pow (m lo : Nat) : (m : Int) / 2 ^ lo = ((m / 2 ^ lo : Nat) : Int) := by norm_cast
theorem and_low (x d : Nat) (hx : x < 18446744073709551616) (hd : d < 64) : Go.bits .and .u64 (x : Int) (IntKind.u64.wrap (IntKind.u64.wrap (2 ^ d) - 1)) = ((x % 2 ^ d : Nat) : Int) := by
 have hp := Nat.two_pow_pos d
 have hlt : 2 ^ d ≤ 2 ^ 63 := Nat.pow_le_pow_right (by decide) (by omega)
 have e : ((2 : Int) ^ d) = ((2 ^ d : Nat) : Int) := by simp
 have e2 : IntKind.u64.wrap ((2 ^ d : Nat) : Int) = ((2 ^ d : Nat) : Int) := IntWalk.u64_in _ ⟨by omega, by omega⟩
 have e3 : IntKind.u64.wrap ((2 ^ d - 1 : Nat) : Int) = ((2 ^ d - 1 : Nat) : Int) := IntWalk.u64_in _ ⟨by omega, by omega⟩
 rw [e, e2, show (((2 ^ d : Nat) : Int) - 1) = ((2 ^ d - 1 : Nat) : Int) by omega, e3, bits_and_u64_nat _ _ hx (by omega), Nat.and_two_pow_sub_one_eq_mod]
set_option maxHeartbeats 16000000 in
set_option maxRecDepth 100000 in
theorem compact_Range_appendImpl.calls (k : Nat) (a0 a1 a2 a3 a4 a5 : Int) (B g gf gb : Nat) (fh fv : Value) (b : Int) (m : Nat) (e : Int) (v : Value) (L : List (List Int)) (As : Option Addr) (cs_ : Nat) (seed : List Int) (Ah : Option Addr) (ch : Nat) (ys : List (List Int)) (vO : Value) (yO : List (List Int)) (vis : List S60) (r : List (List Int) × List S60) (w : World)
  (hT : TabOK w) (hG : w.heap[g]? = some (.cells #[.pointer (some ⟨gf, 0, none⟩), .int .u64 b, .int .u64 (m : Int), v] 157 (0, 0))) (hg : B ≤ g) (hF : w.heap[gf]? = some (.cells #[fh] 101 (0, 0)))
  (hfh : IsFn Tryd.prog fh 52 (.agg #[.int .i64 a0, .int .i64 a1, .int .i64 a2, .int .u64 a3, .int .u64 a4, .int .u64 a5])) (hfv : Vst fv B gb) (hV : Vs w B gb vis) (hB : B ≤ w.heap.size)
  (hR : (Kd.slice 5 (Kd.int .u8)).R 27 w B (fun _ => True) v L) (hS : (Kd.int .u8).R 5 w B (fun _ => True) (.slice As seed.length cs_) seed)
  (hO : (Kd.slice 5 (Kd.int .u8)).R 27 w B (fun k_ => some k_ ≠ v.ownBlock) vO yO) (hsrc : ∀ (W : World) (ok : Nat → Prop), (Kd.slice 5 (Kd.int .u8)).R 27 W B ok vO yO → ReadsRow (fun x c => (Kd.slice 5 (Kd.int .u8)).M W B ok x c) 1 W Ah ys.length ys) (hch : ys.length ≤ ch)
  (h : rgApp k a0 a1 a2 a3 a4 a5 b m e L seed ys vis = some r) :
  Calls Tryd.prog 93 #[.pointer (some ⟨g, 0, none⟩), .int .u64 e, .slice As seed.length cs_, .slice Ah ys.length ch, fv] w fun e' w' => e' = .returned .nilIface ∧
   ∃ v', w'.heap[g]? = some (.cells #[.pointer (some ⟨gf, 0, none⟩), .int .u64 b, .int .u64 e, v'] 157 (0, 0)) ∧ (Kd.slice 5 (Kd.int .u8)).R 27 w' B (fun _ => True) v' r.1 ∧ Vs w' B gb r.2 ∧ Below B w w' ∧ FKeep (fun k_ => k_ = g ∨ some k_ = v.ownBlock) w w' ∧ (v'.ownBlock = v.ownBlock ∨ ∃ b_, v'.ownBlock = some b_ ∧ w.heap.size ≤ b_) := by
 obtain ⟨A, c, rfl⟩ := Kd.R_slice hR
 obtain ⟨f, hfe, hf, hcl⟩ := hfv
 subst hfe
 unfold rgApp at h
 obtain ⟨p, hp, h⟩ := Option.bind_eq_some_iff.mp h
 obtain ⟨lo', hi'⟩ := p
 dsimp only at h
 by_cases hc : 0 ≤ (m : Int) ∧ (m : Int) < 18446744073709551616 ∧ 0 ≤ lo' ∧ lo' ≤ 64 ∧ 0 ≤ hi' ∧ hi' < 64 ∧ L.length < 1000000 ∧ ys.length < 1000000 ∧ vis.length < 1000000 ∧ Lib.onesCount ((m : Int).toNat / 2 ^ lo'.toNat % 2 ^ (hi'.toNat - lo'.toNat)) ≤ L.length ∧ hi'.toNat - lo'.toNat ≤ ys.length + Lib.onesCount ((m : Int).toNat / 2 ^ lo'.toNat % 2 ^ (hi'.toNat - lo'.toNat))
 case neg => rw [if_neg hc] at h; exact absurd h (by simp)
 rw [if_pos hc] at h
 rw [Int.toNat_natCast] at hc h
 obtain ⟨lo, rfl⟩ := Int.eq_ofNat_of_zero_le hc.2.2.1
 obtain ⟨hi, rfl⟩ := Int.eq_ofNat_of_zero_le hc.2.2.2.2.1
 simp only [Int.toNat_natCast] at hc h
 obtain ⟨_, hm, _, hlo, _, hhi, hL, hY, hVl, h1, h2⟩ := hc
 obtain ⟨d, hd'⟩ : ∃ d, d = hi - lo := ⟨_, rfl⟩
 rw [← hd'] at h h1 h2
 have hd : d < 64 := by omega
 have hmN : m < 18446744073709551616 := by omega
 have hx : (m : Int) / 2 ^ lo = ((m / 2 ^ lo : Nat) : Int) := div_pow m lo
 have hxl : m / 2 ^ lo < 18446744073709551616 := Nat.lt_of_le_of_lt (Nat.div_le_self _ _) hmN
 obtain ⟨x, hxe⟩ : ∃ x, x = m / 2 ^ lo := ⟨_, rfl⟩
 rw [← hxe] at h h1 h2 hx hxl
 have hlo64 : lo + d ≤ 64 := by omega
 have hsub : IntKind.u64.wrap (((lo + d : Nat) : Int) - (lo : Int)) = (d : Int) := by rw [show ((lo + d : Nat) : Int) - (lo : Int) = (d : Int) by omega]; exact IntWalk.u64_in _ ⟨by omega, by omega⟩
 have hand := and_low x d hxl hd
 obtain ⟨y, hye⟩ : ∃ y, y = x % 2 ^ d := ⟨_, rfl⟩
 rw [← hye] at h1 h2 hand
 have hyl : y < 18446744073709551616 := by rw [hye]; exact Nat.lt_of_le_of_lt (Nat.mod_le _ _) hxl
 have hoc : bits_OnesCount64.f (y : Int) = some (Lib.onesCount y : Int) := by unfold bits_OnesCount64.f; rw [if_pos ⟨by omega, by omega⟩, Int.toNat_natCast]
 generalize Lib.onesCount y = o at h1 h2 hoc
 have hn1 : ¬ ((L.length : Int) < (o : Int)) := by omega
 have hcv : IntKind.i64.wrap (d : Int) = (d : Int) := by rw [i64_w]; unfold wrap64; omega
 have hsb : IntKind.i64.wrap ((d : Int) - (o : Int)) = (d : Int) - (o : Int) := by rw [i64_w]; unfold wrap64; omega
 have hn2 : ¬ ((ys.length : Int) < (d : Int) - (o : Int)) := by omega
 have HOC := Aside0.mk hoc
 clear hoc hye hyl
 have HXE := Aside0.mk hxe
 have HDE := Aside0.mk hd'
 have HP := Aside0.mk hp
 have H' := Aside0.mk h
 clear hxe hd'
 have HT := Aside0.mk hT
 clear hp h hT
 have q0 : w.cell? ⟨g, 0, none⟩ = some (.pointer (some ⟨gf, 0, none⟩)) := (blk_cell hG 0).trans rfl
 have q1 : w.cell? ⟨g, 1, none⟩ = some (.int .u64 b) := (blk_cell hG 1).trans rfl
 have q2 : w.cell? ⟨g, 2, none⟩ = some (.int .u64 (m : Int)) := (blk_cell hG 2).trans rfl
 have q3 : w.cell? ⟨g, 3, none⟩ = some (.slice A L.length c) := (blk_cell hG 3).trans rfl
 have HH1 := Aside0.mk h1
 have HH2 := Aside0.mk h2
 clear h1 h2
 have HG := Aside0.mk hG
 have HF := Aside0.mk hF
 have HFH := Aside0.mk hfh
 have HF_ := Aside0.mk hf
 have HCL := Aside0.mk hcl
 have HV := Aside0.mk hV
 have HR := Aside0.mk hR
 have HS := Aside0.mk hS
 have HO := Aside0.mk hO
 have HSRC := Aside0.mk hsrc
 clear hG hF hfh hf hcl hV hR hS hO hsrc
 go_enter Tryd.func93, Tryd.ntmps93
 go_wp2
 go_quiet ((go_at_call 113; refine (compact_getMergePath.calls b (m : Int) e lo hi _ ?side1 HP.out).mono ?_; (case side1 => exact TabOK.below HT.out (pw_below_drewN (Below.refl _ _) _)); rintro e w'' ⟨he, ⟨n_, hm_⟩⟩; exact ⟨he, _, by rw [hm_, World.drewN_drewN]⟩))
 have HH := Aside0.mk h
 clear h
 have w2e : ∃ w2, w2 = w.drewN nq := ⟨_, rfl⟩
 obtain ⟨w2, hw2⟩ := w2e
 have hb2 : Below w.heap.size w w2 := by rw [hw2]; exact pw_below_drewN (Below.refl _ _) _
 have hsz : w2.heap.size = w.heap.size := by rw [hw2]; rfl
 have HB2 := Aside0.mk (hb2.mono hB)
 have HW2 := Aside0.mk (show VKeep w w2 from TKeep.of_below hb2)
 have HT2 := Aside0.mk (TabOK.below HT.out hb2)
 have HG2 := Aside0.mk (blk_below HG.out hb2)
 have HF2 := Aside0.mk (blk_below HF.out hb2)
 have HV2 := Aside0.mk (HV.out.below hb2)
 have HR2 := Aside0.mk (Kd.R_below HR.out hb2)
 have HS2 := Aside0.mk (Kd.R_below HS.out hb2)
 have HO2 := Aside0.mk (Kd.R_below HO.out hb2)
 have HSZ := Aside0.mk hsz
 have HBB := Aside0.mk hB
 rw [← hw2]
 replace q0 : w2.cell? ⟨g, 0, none⟩ = some (.pointer (some ⟨gf, 0, none⟩)) := (blk_cell HG2.out 0).trans rfl
 replace q1 : w2.cell? ⟨g, 1, none⟩ = some (.int .u64 b) := (blk_cell HG2.out 1).trans rfl
 replace q2 : w2.cell? ⟨g, 2, none⟩ = some (.int .u64 (m : Int)) := (blk_cell HG2.out 2).trans rfl
 replace q3 : w2.cell? ⟨g, 3, none⟩ = some (.slice A L.length c) := (blk_cell HG2.out 3).trans rfl
 clear hw2 hb2 hsz hB
 go_upto_if 36 with (fail)
 go_cut [12] from 37 to 37 (fun v12 wc => v12 = .int .u64 ((lo + d : Nat) : Int) ∧ wc = w2)
 case first =>
  clear hsub hand hx q0 q1 q2 q3 hlo64 hxl hmN hd hL hY hVl hm hlo hhi
  by_cases hlt : hi < lo
  ·go_wp2
   go_meet
   case rel => exact ⟨by rw [HDE.out, Nat.sub_eq_zero_of_le (Nat.le_of_lt hlt), Nat.add_zero], rfl⟩
  ·go_wp2
   go_meet
   case rel => exact ⟨by rw [HDE.out, Nat.add_sub_cancel' (Nat.le_of_not_lt hlt)], rfl⟩
 case rest =>
  obtain ⟨rfl, rfl⟩ := hcut
  go_upto_region 5 with (fail)
  go_upto_region 6 with (go_at_call 112; (with_reducible refine (bits_OnesCount64.calls _ _ _ HOC.out).mono ?_); rintro e' w' ⟨rfl, ⟨n5, rfl⟩⟩)
  go_outline
  have hn1' : ¬ L.length < o := by omega
  have hn2' : ¬ ((ys.length : Int) < (lo : Int) + (d : Int) - (lo : Int) - (o : Int)) := by omega
  clear hn1 hn2 hcv hsb hx hand hsub
  go_wp2
  clear hn1' hn2' q0 q1 q2 q3
  obtain ⟨w5, hw5⟩ : ∃ w5, w5 = wc.drewN n5 := ⟨_, rfl⟩
  have hb5 : Below wc.heap.size wc w5 := by rw [hw5]; exact pw_below_drewN (Below.refl _ _) _
  have hsz5 : w5.heap.size = wc.heap.size := by rw [hw5]; rfl
  have HB5 := Aside0.mk (HB2.out.trans (hb5.mono (by rw [HSZ.out]; exact HBB.out)))
  have HW5 := Aside0.mk (show VKeep w w5 from HW2.out.below hb5)
  have HG5 := Aside0.mk (blk_below HG2.out hb5)
  have HF5 := Aside0.mk (blk_below HF2.out hb5)
  have HV5 := Aside0.mk (HV2.out.below hb5)
  have HR5 := Aside0.mk (Kd.R_below HR2.out hb5)
  have HS5 := Aside0.mk (Kd.R_below HS2.out hb5)
  have HO5 := Aside0.mk (Kd.R_below HO2.out hb5)
  have HSZ5 := Aside0.mk (hsz5.trans HSZ.out)
  rw [← hw5]
  clear hw5 hb5 hsz5 HB2 HG2 HF2 HV2 HR2 HS2 HO2 HSZ HT2
  have HL := Aside0.mk hL
  have HYL := Aside0.mk hY
  have HVL := Aside0.mk hVl
  have HLO := Aside0.mk hlo64
  have HXL := Aside0.mk hxl
  have HD := Aside0.mk hd
  clear hL hY hVl hlo64 hxl hmN hd hm hlo hhi
  go_loopg [2, 13, 18, 19, 20] (d + 1) (fun kq v2 v13 v18 v19 v20 w' => ∃ (h_ dd xx i1 i2 : Nat) (s : List Int) (A2 : Option Addr) (c2 : Nat) (vis1 : List S60), v2 = .slice A2 s.length c2 ∧ v13 = .int .u64 (xx : Int) ∧ v18 = .int .i64 (i1 : Int) ∧ v19 = .int .i64 (i2 : Int) ∧ v20 = .int .u64 (h_ : Int) ∧ Aside0 (kq = dd + 1) ∧ Aside0 (h_ + dd = lo + d ∧ i1 ≤ L.length ∧ i2 ≤ ys.length ∧ xx < 18446744073709551616 ∧ vis1.length + dd = vis.length + d ∧ (dd = d ∨ s.length < 140737488355328)) ∧ Aside0 (Mrg.mgF rgMk (rgH k a0 a1 a2 a3 a4 a5) dd h_ xx (L.take i1) (ys.drop i2) s vis1 = some r) ∧ Aside0 ((Kd.int .u8).R 5 w' B (fun _ => True) v2 s) ∧ Aside0 (Vs w' B gb vis1) ∧ Aside0 (Below B w w') ∧ Aside0 (VKeep w5 w'))
  case atStart =>
   exact ⟨lo, d, x, L.length, 0, seed, As, cs_, vis, rfl, rfl, rfl, rfl, rfl, ⟨rfl⟩, ⟨rfl, Nat.le_refl _, Nat.zero_le _, HXL.out, rfl, .inl rfl⟩, ⟨by rw [List.take_length, List.drop_zero]; exact H'.out⟩, HS5, HV5, HB5, ⟨TKeep.refl _⟩⟩
  case round =>
   clear H' HS5 HV5 HB5
   obtain ⟨h_, dd, xx, i1, i2, s, A2, c2, vis1, rfl, rfl, rfl, rfl, rfl, HQ, HN, HM, HS, HV, HB, HK⟩ := hrel
   have hGr := HK.out.blk HG5.out (by decide) (by decide)
   have hFr := HK.out.blk HF5.out (by decide) (by decide)
   have HRr := Aside0.mk (HK.out.R HR5.out (by decide))
   have HOr := Aside0.mk (HK.out.R HO5.out (by decide))
   have HGr := Aside0.mk hGr
   have q0 : wr.cell? ⟨g, 0, none⟩ = some (.pointer (some ⟨gf, 0, none⟩)) := (blk_cell hGr 0).trans rfl
   have q3 : wr.cell? ⟨g, 3, none⟩ = some (.slice A L.length c) := (blk_cell hGr 3).trans rfl
   have qf : wr.cell? ⟨gf, 0, none⟩ = some fh := (blk_cell hFr 0).trans rfl
   clear hGr hFr
   cases dd with
   | zero =>
    have hM := HM.out
    rw [Mrg.mgF] at hM
    have hr := (Option.some.inj hM).symm
    subst hr
    have hlt1 : ¬ ((h_ : Int) < (lo : Int) + (d : Int)) := by have := HN.out.1; omega
    have ng : g < wr.heap.size := blk_lt HGr.out
    have hi1 := HN.out.2.1
    have hi2 := HN.out.2.2.1
    have HI1 := Aside0.mk hi1
    have HI2 := Aside0.mk hi2
    obtain ⟨i0, hi0, hz0⟩ := Option.map_eq_some_iff.1 info27
    simp only [Prod.mk.injEq] at hz0
    have hcut1 := cut_to 25 27 .i64 Tryd.underlying25 hi0 A L.length c (i1 : Int) (by omega) (by omega) (Kd.R_reads' HRr.out).2.1
    have hcut2 := cut_from 25 27 .i64 Tryd.underlying25 hi0 1 hz0.2.1 Ah ys.length ch (i2 : Int) (by omega) (by omega)
    rw [Int.toNat_natCast] at hcut1 hcut2
    simp only [Nat.mul_one] at hcut2
    generalize hA3 : (if ch = i2 then Ah else Ah.map (·.add i2)) = A3 at hcut2
    have HA3 := Aside0.mk hA3
    have HRt := Aside0.mk (by have := Kd.R_take HRr.out hi1; exact this : (Kd.slice 5 (Kd.int .u8)).R 27 wr B (fun _ => True) (.slice A i1 c) (L.take i1))
    have HLT := Aside0.mk (show (L.take i1).length = i1 by rw [List.length_take]; omega)
    have hown : (Value.slice A i1 c).ownBlock = (Value.slice A L.length c).ownBlock := by cases A <;> rfl
    have HOW := Aside0.mk hown
    have HOt := Aside0.mk (Kd.R_mono (ok' := fun k_ => True ∧ some k_ ≠ (Value.slice A i1 c).ownBlock) HOr.out (fun k_ hk_ => ⟨trivial, by rw [hown]; exact hk_⟩))
    have HCH := Aside0.mk hch
    clear hM hi1 hi2 hi0 hz0 hA3 hown hch
    have HLE := Aside0.mk (Nat.le_trans HBB.out HB.out.size)
    have HGE := Aside0.mk hg
    clear hg
    go_wp2
    go_region_law
     (first
      | (refine Kd.R_append_step (Kd.slice 5 (Kd.int .u8)) (w0 := w) (W := wr.drew) B ?hw (.tmp 137) (.tmp 139) 25 27 (.slice none 0 0) 24 ?ho Tryd.underlying25 info27 (by rfl) (by decide) (by omega) (.slice A i1 c) (L.take i1) s [.slice A2 s.length c2] (fun _ => True) (fun k_ => some k_ ≠ (Value.slice A i1 c).ownBlock) ?hs ?hx ?bM (fun _ h_ => ⟨trivial, h_⟩) (fun _ _ => trivial) ?bO ?bB ?bS ?bL ?_; (case ho => rfl); (case hw => rfl); (case hs => rfl); (case hx => rfl); (case bM => exact ⟨_, rfl, Kd.R_mono (Kd.R_apart' (Kd.R_drew HS.out) (Kd.R_typed (Kd.R_drew HRt.out)) (by decide)) (fun _ h_ => h_.2)⟩); (case bO => exact Kd.R_drew HRt.out); (case bB => exact below_drew HB.out); (case bS => exact HLE.out); (case bL => rw [HLT.out]; have := HL.out; have := HI1.out; omega); intro v14 w14 hr14 hb14 hg14 hat14; have HR14 := Aside0.mk hr14; have HB14 := Aside0.mk hb14; have HK14 := Aside0.mk (blk_grown (show wr.drew.heap[g]? = _ from HGr.out) hg14 (Kd.R_ne HRt.out HGr.out (by decide))); have HV14 := Aside0.mk (Vs.grown (HV.out.below (below_drew (Below.refl _ _))) (Kd.R_drew HRt.out) hg14); have HO14 := Aside0.mk (Kd.R_after (Kd.R_drew HOt.out) hg14 hat14); have HP14 := Aside0.mk (Kept.of_grown (S := fun k_ => k_ = g ∨ some k_ = (Value.slice A L.length c).ownBlock) hg14 (Kept.refl wr _).drew (fun k_ hk_ => .inl (.inr (hk_.symm.trans HOW.out)))); have HA14 := Aside0.mk hat14; clear hr14 hb14 hg14 hat14)
      | (refine Kd.R_append_rows_step (Kd.slice 5 (Kd.int .u8)) (w0 := w) B ?hw (.tmp 140) (.tmp 143) 25 27 (.slice none 0 0) 24 rfl Tryd.underlying25 info27 (by rfl) (by decide) (by omega) v14 (L.take i1 ++ [s]) (ys.drop i2) A3 (ys.length - i2) (ch - i2) (fun _ => True) (fun k_ => True ∧ some k_ ≠ v14.ownBlock) rfl rfl ?aO ?aR (fun _ _ h => h) (fun _ h => h) (fun _ _ => trivial) ?aB ?aS ?aL ?_; (case hw => rfl); (case aO => exact HR14.out); (case aR => have hrr := row_drop (c := ch) (HSRC.out _ _ HO14.out) HI2.out HCH.out; rw [HA3.out, List.length_drop] at hrr; exact hrr); (case aB => exact HB14.out); (case aS => exact Nat.le_trans HBB.out HB14.out.size); (case aL => rw [List.length_append, HLT.out, List.length_singleton]; have := HL.out; have := HI1.out; have := HYL.out; omega); intro v15 w15 hr15 hb15 hg15 hat15; obtain ⟨A15, c15, e15⟩ := Kd.R_slice hr15; generalize hn15 : (L.take i1 ++ [s] ++ ys.drop i2).length = n15 at e15; subst e15; have hk15 := blk_grown HK14.out hg15 (Kd.R_ne HR14.out HK14.out (by decide)); have HK15 := Aside0.mk hk15; have c15_ : w15.cell? ⟨g, 3, none⟩ = some (.slice A L.length c) := (blk_cell hk15 3).trans rfl; have f15_ := blk_frozen hk15 3; have HR15 := Aside0.mk hr15; have HB15 := Aside0.mk hb15; have HV15 := Aside0.mk (Vs.grown HV14.out HR14.out hg15); have HP15 := Aside0.mk (Kept.of_grown hg15 HP14.out (fun k_ hk_ => HA14.out.elim (fun e_ => .inl (.inr (hk_.symm.trans (e_.trans HOW.out)))) (fun he_ => he_.elim fun b_ hb_ => .inr (by have hx_ := hk_.symm.trans hb_.1; injection hx_ with hx_; subst hx_; exact hb_.2)))); have HA15 := Aside0.mk hat15; clear hr15 hb15 hg15 hat15 hk15 hn15))
    all_goals
     have hk16 := blk_put HK15.out 3 (.slice A15 n15 c15) rfl
     have HK16 := Aside0.mk hk16
     have HR16 := Aside0.mk (Kd.R_set HR15.out HK15.out (by decide) 3 (.slice A15 n15 c15))
     have HV16 := Aside0.mk (HV15.out.set (j := 3) (u := .slice A15 n15 c15) HK15.out)
     have HB16 := Aside0.mk (HB15.out.setCell (p := ⟨g, 3, none⟩) HGE.out (.slice A15 n15 c15))
     have HP16 := Aside0.mk (HP15.out.setCell (p := ⟨g, 3, none⟩) (.inl (.inl rfl)) (.slice A15 n15 c15))
     have q2 : (w15.setCell ⟨g, 3, none⟩ (.slice A15 n15 c15)).cell? ⟨g, 2, none⟩ = some (.int .u64 (m : Int)) := (blk_cell hk16 2).trans rfl
     have f2 := blk_frozen hk16 2
     clear hk16
     generalize w15.setCell ⟨g, 3, none⟩ (.slice A15 n15 c15) = w16 at *
     go_wp2
     go_ret
     refine ⟨rfl, .slice A15 n15 c15, blk_put HK16.out 2 _ rfl, ?_, HV16.out.set HK16.out, HB16.out.setCell HGE.out _, FKeep.of (HW5.out.trans HK.out) (HP16.out.setCell (.inl (.inl rfl)) _), ?_⟩
     ·have h_ := Kd.R_set HR16.out HK16.out (by decide) 2 (.int .u64 e)
      rw [List.append_assoc] at h_
      exact h_
     ·have hsz := Nat.le_trans HW5.out.1 HK.out.1
      rcases HA15.out with e_ | ⟨b_, e_, hb_⟩
      ·rcases HA14.out with e2_ | ⟨b_, e2_, hb_⟩
       ·exact .inl (e_.trans (e2_.trans HOW.out))
       ·exact .inr ⟨b_, e_.trans e2_, Nat.le_trans hsz hb_⟩
      ·exact .inr ⟨b_, e_, Nat.le_trans hsz (Nat.le_trans HP14.out.1 hb_)⟩
   | succ dd =>
    have hlt1 : (h_ : Int) < (lo : Int) + (d : Int) := by have := HN.out.1; omega
    have hbit := and_one1 xx HN.out.2.2.2.1
    have hM := HM.out
    clear HM
    rw [Mrg.mgF] at hM
    by_cases c0 : xx % 2 = 0
    ·rw [if_pos c0] at hM
     rw [c0] at hbit
     cases hdr : ys.drop i2 with
     | nil => rw [hdr] at hM; exact absurd hM (by simp)
     | cons y0 R' =>
      rw [hdr, List.head?_cons, Option.bind_some, List.tail_cons] at hM
      obtain ⟨z, hz, hM⟩ := Option.bind_eq_some_iff.mp hM
      obtain ⟨hz, hzl⟩ := rgH_some hz
      have hi2 : i2 < ys.length := by
       apply Nat.lt_of_not_le
       intro hle
       rw [List.drop_eq_nil_of_le hle] at hdr
       cases hdr
      have hR' : ys.drop (i2 + 1) = R' := by rw [← List.drop_drop, hdr]; rfl
      have hy0 : ys.getD i2 [] = y0 := by
       have h1 : (ys.drop i2)[0]? = some y0 := by rw [hdr]; rfl
       rw [List.getElem?_drop, Nat.add_zero] at h1
       rw [List.getD_eq_getElem?_getD, h1]
       rfl
      obtain ⟨ad, cc, eA, _, hK_, hcell⟩ := (HSRC.out wr _ HOr.out).get_ ([] : List Int) (i2 : Int) (by omega) (by omega)
      rw [Int.toNat_natCast] at hK_ hcell
      rw [hy0] at hK_
      obtain ⟨ve, rfl, hE⟩ := hK_
      have hce := hcell 0 _ rfl
      rw [Nat.mul_one, Nat.add_zero] at hce
      obtain ⟨Ae, de, rfl⟩ := Kd.R_slice hE
      have HE := Aside0.mk hE
      have HZ := Aside0.mk hz
      have HZL := Aside0.mk hzl
      rw [← hR'] at hM
      have HM := Aside0.mk hM
      have j0 : (0 : Int) ≤ (i2 : Int) := by omega
      have j1 : (i2 : Int) < (ys.length : Int) := by omega
      have hwi : wrap64 ((i2 : Int) + 1) = (i2 : Int) + 1 := by unfold wrap64; have := HYL.out; omega
      have HI2 := Aside0.mk hi2
      clear hz hM hE hcell hdr hy0 hR' hi2
      subst eA
      go_upto_region 17 with (fail)
      go_still_tail 12, (by kernel_rfl)
      go_upto_region 22 with ((with_reducible refine gate_value (x := .tmp 93) rfl ?_); refine callsFv_ (some 99) rfl rfl fh _ HFH.out #[.slice A2 s.length c2, .slice Ae y0.length de] #[.agg #[.int .i64 a0, .int .i64 a1, .int .i64 a2, .int .u64 a3, .int .u64 a4, .int .u64 a5], .slice A2 s.length c2, .slice Ae y0.length de] rfl rfl (by first | rfl | (simp only [Act.eval]; rfl)) (by (try simp only [List.map_toArray, List.map_cons, List.map_nil]); first | done | rfl) ?_; (with_reducible refine (impl_toy_HashChildren.calls k a0 a1 a2 a3 a4 a5 _ _ s _ _ y0 z _ ?side1 ?side2 ?side3 ?side4 HZ.out).mono ?_); (case side1 => exact Kd.C_drew (Kd.R_reads' HS.out).2.2); (case side2 => exact (Kd.R_reads' HS.out).2.1); (case side3 => exact Kd.C_drew (Kd.R_reads' HE.out).2.2); (case side4 => exact (Kd.R_reads' HE.out).2.1); rintro e' w7 ⟨v7, rfl, ho7, hb7⟩; refine ⟨_, rfl, ?_⟩; have HO7 := Aside0.mk ho7; have HB7 := Aside0.mk (below_step (below_drew (Below.refl wr.heap.size wr)) hb7); clear ho7 hb7)
      obtain ⟨A7, c7, rfl⟩ := Kd.R_slice HO7.out
      have hwh : IntKind.u64.wrap ((h_ : Int) + 1) = (h_ : Int) + 1 := IntWalk.u64_in _ ⟨by omega, by have := HLO.out; have := HN.out.1; omega⟩
      have hnn := fact_fn
      have hle := Nat.le_trans HBB.out HB.out.size
      have HLE := Aside0.mk hle
      clear hle
      go_wp2_with (first | (go_at_call 92; (with_reducible refine (compact_NewNodeID.calls _ _ _ _ _ rfl).mono ?_); rintro e' w8 ⟨rfl, hb8⟩; have HB8 := Aside0.mk hb8; clear hb8) | ((with_reducible refine gate_value (x := .tmp 124) rfl ?_); refine callsFc_ (some 130) rfl rfl _ _ HF_.out #[.agg #[.int .u64 ((h_ : Int) + 1), .int .u64 ((xx : Int) / 2)], .slice A7 z.length c7] #[.agg #[.int .u64 ((h_ : Int) + 1), .int .u64 ((xx : Int) / 2)], .slice A7 z.length c7, .pointer (some ⟨gb, 0, none⟩)] rfl rfl (by first | rfl | (simp only [Act.eval]; rfl)) (by (try simp only [List.map_toArray, List.map_cons, List.map_nil]); first | done | rfl) ?_; (with_reducible refine (HCL.out vis1 ((h_ : Int) + 1) ((xx : Int) / 2) A7 c7 z _ ?side1 ?side2 ?side3 ?side4 HZL.out ?side5).mono ?_); (case side1 => exact (HV.out.below HB7.out).below HB8.out); (case side2 => exact Nat.le_trans HLE.out (Nat.le_trans HB7.out.size HB8.out.size)); (case side3 => exact Kd.C_below (Kd.R_reads' HO7.out).2.2 HB8.out); (case side4 => exact (Kd.R_reads' HO7.out).2.1); (case side5 => have := HN.out.2.2.2.2.1; have := HVL.out; have := HD.out; omega); rintro e' w9 ⟨rfl, hv9, hb9, hk9⟩; refine ⟨_, rfl, ?_⟩; have HV9 := Aside0.mk hv9; have HB9 := Aside0.mk hb9; have HK9 := Aside0.mk hk9; clear hv9 hb9 hk9))
      go_roundg (dd + 1)
      case measure => have := HQ.out; omega
      case rel =>
       refine ⟨h_ + 1, dd, xx / 2, i1, i2 + 1, z, A7, c7, vis1 ++ [rgMk (h_ + 1) (xx / 2) z], rfl, by simp, rfl, by simp, by simp, ⟨rfl⟩, ⟨?_⟩, HM, ⟨?_⟩, ⟨?_⟩, ⟨?_⟩, ⟨?_⟩⟩
       ·obtain ⟨g1, g2, g3, g4, g5⟩ := rg_rel HN.out (i1' := i1) (i2' := i2 + 1) (Nat.le_refl _) HI2.out
        exact ⟨g1, g2, g3, g4, by rw [List.length_append, List.length_singleton]; exact g5, .inr HZL.out⟩
       ·exact HK9.out.R (Kd.R_below (Kd.R_lower HO7.out HLE.out) HB8.out) (by decide)
       ·rw [rgMk_eq]; exact HV9.out
       ·exact HB.out.trans ((HB7.out.mono HLE.out).trans ((HB8.out.mono (Nat.le_trans HLE.out HB7.out.size)).trans HB9.out))
       ·exact ((HK.out.below HB7.out).below HB8.out).trans HK9.out
    ·rw [if_neg c0] at hM
     have c1 : xx % 2 = 1 := by omega
     rw [c1] at hbit
     obtain ⟨l, hlast, hM⟩ := Option.bind_eq_some_iff.mp hM
     obtain ⟨z, hz, hM⟩ := Option.bind_eq_some_iff.mp hM
     obtain ⟨hz, hzl⟩ := rgH_some hz
     obtain ⟨hi1, hl, hdl⟩ := getLast_take HN.out.2.1 hlast
     rw [hdl] at hM
     obtain ⟨i3, rfl⟩ : ∃ i3, i1 = i3 + 1 := ⟨i1 - 1, by omega⟩
     rw [Nat.add_sub_cancel] at hl hM
     have hi3 : i3 < L.length := by have := HN.out.2.1; omega
     obtain ⟨gh, cg, eA, hBg, hgl, cells, hcl⟩ := row_form2 HRr.out (by omega)
     obtain ⟨rfl, rfl⟩ : A = some ⟨gh, 0, none⟩ ∧ c = cg := by injection eA with e1 e2 e3; exact ⟨e1, e3⟩
     obtain ⟨Ae, de, ecx, hE⟩ := row_elem2 HRr.out i3 hi3
     rw [hl] at ecx hE
     have HE := Aside0.mk hE
     have HZ := Aside0.mk hz
     have HZL := Aside0.mk hzl
     have HM := Aside0.mk hM
     have j0 : (0 : Int) ≤ (i3 : Int) := by omega
     have j1 : (i3 : Int) < (L.length : Int) := by omega
     have hwi : wrap64 (i3 : Int) = (i3 : Int) := by unfold wrap64; have := HL.out; omega
     clear hz hM hE hl hdl hlast hi1 hi3 eA hBg hgl hcl
     go_upto_region 20 with (fail)
     go_still_tail 15, (by kernel_rfl)
     go_upto_region 22 with ((with_reducible refine gate_value (x := .tmp 110) rfl ?_); refine callsFv_ (some 119) rfl rfl fh _ HFH.out #[.slice Ae l.length de, .slice A2 s.length c2] #[.agg #[.int .i64 a0, .int .i64 a1, .int .i64 a2, .int .u64 a3, .int .u64 a4, .int .u64 a5], .slice Ae l.length de, .slice A2 s.length c2] rfl rfl (by first | rfl | (simp only [Act.eval]; rfl)) (by (try simp only [List.map_toArray, List.map_cons, List.map_nil]); first | done | rfl) ?_; (with_reducible refine (impl_toy_HashChildren.calls k a0 a1 a2 a3 a4 a5 _ _ l _ _ s z _ ?side1 ?side2 ?side3 ?side4 HZ.out).mono ?_); (case side1 => exact Kd.C_drew (Kd.R_reads' HE.out).2.2); (case side2 => exact (Kd.R_reads' HE.out).2.1); (case side3 => exact Kd.C_drew (Kd.R_reads' HS.out).2.2); (case side4 => exact (Kd.R_reads' HS.out).2.1); rintro e' w7 ⟨v7, rfl, ho7, hb7⟩; refine ⟨_, rfl, ?_⟩; have HO7 := Aside0.mk ho7; have HB7 := Aside0.mk (below_step (below_drew (Below.refl wr.heap.size wr)) hb7); clear ho7 hb7)
     obtain ⟨A7, c7, rfl⟩ := Kd.R_slice HO7.out
     have hwh : IntKind.u64.wrap ((h_ : Int) + 1) = (h_ : Int) + 1 := IntWalk.u64_in _ ⟨by omega, by have := HLO.out; have := HN.out.1; omega⟩
     have hnn := fact_fn
     have hle := Nat.le_trans HBB.out HB.out.size
     have HLE := Aside0.mk hle
     clear hle
     go_wp2_with (first | (go_at_call 92; (with_reducible refine (compact_NewNodeID.calls _ _ _ _ _ rfl).mono ?_); rintro e' w8 ⟨rfl, hb8⟩; have HB8 := Aside0.mk hb8; clear hb8) | ((with_reducible refine gate_value (x := .tmp 124) rfl ?_); refine callsFc_ (some 130) rfl rfl _ _ HF_.out #[.agg #[.int .u64 ((h_ : Int) + 1), .int .u64 ((xx : Int) / 2)], .slice A7 z.length c7] #[.agg #[.int .u64 ((h_ : Int) + 1), .int .u64 ((xx : Int) / 2)], .slice A7 z.length c7, .pointer (some ⟨gb, 0, none⟩)] rfl rfl (by first | rfl | (simp only [Act.eval]; rfl)) (by (try simp only [List.map_toArray, List.map_cons, List.map_nil]); first | done | rfl) ?_; (with_reducible refine (HCL.out vis1 ((h_ : Int) + 1) ((xx : Int) / 2) A7 c7 z _ ?side1 ?side2 ?side3 ?side4 HZL.out ?side5).mono ?_); (case side1 => exact (HV.out.below HB7.out).below HB8.out); (case side2 => exact Nat.le_trans HLE.out (Nat.le_trans HB7.out.size HB8.out.size)); (case side3 => exact Kd.C_below (Kd.R_reads' HO7.out).2.2 HB8.out); (case side4 => exact (Kd.R_reads' HO7.out).2.1); (case side5 => have := HN.out.2.2.2.2.1; have := HVL.out; have := HD.out; omega); rintro e' w9 ⟨rfl, hv9, hb9, hk9⟩; refine ⟨_, rfl, ?_⟩; have HV9 := Aside0.mk hv9; have HB9 := Aside0.mk hb9; have HK9 := Aside0.mk hk9; clear hv9 hb9 hk9))
     go_roundg (dd + 1)
     case measure => have := HQ.out; omega
     case rel =>
      refine ⟨h_ + 1, dd, xx / 2, i3, i2, z, A7, c7, vis1 ++ [rgMk (h_ + 1) (xx / 2) z], rfl, by simp, by simp, rfl, by simp, ⟨rfl⟩, ⟨?_⟩, HM, ⟨?_⟩, ⟨?_⟩, ⟨?_⟩, ⟨?_⟩⟩
      ·obtain ⟨g1, g2, g3, g4, g5⟩ := rg_rel HN.out (i1' := i3) (i2' := i2) (Nat.le_succ _) HN.out.2.2.1
       exact ⟨g1, g2, g3, g4, by rw [List.length_append, List.length_singleton]; exact g5, .inr HZL.out⟩
      ·exact HK9.out.R (Kd.R_below (Kd.R_lower HO7.out HLE.out) HB8.out) (by decide)
      ·rw [rgMk_eq]; exact HV9.out
      ·exact HB.out.trans ((HB7.out.mono HLE.out).trans ((HB8.out.mono (Nat.le_trans HLE.out HB7.out.size)).trans HB9.out))
      ·exact ((HK.out.below HB7.out).below HB8.out).trans HK9.out
theorem mgF_mono {V : Type} (mk : Nat → Nat → List Int → V) {hc hc' : List Int → List Int → Option (List Int)} (hm : ∀ a b, LeO (hc a b) (hc' a b)) : ∀ (d h x : Nat) (L R : List (List Int)) (s : List Int) (vis : List V), LeO (Mrg.mgF mk hc d h x L R s vis) (Mrg.mgF mk hc' d h x L R s vis)
 | 0, _, _, _, _, _, _ => LeO.refl _
 | d + 1, h, x, L, R, s, vis => by
  rw [Mrg.mgF, Mrg.mgF]
  exact LeO.ite (LeO.bind (LeO.refl _) (fun r => LeO.bind (hm _ _) (fun y => mgF_mono mk hm d _ _ _ _ _ _))) (LeO.bind (LeO.refl _) (fun r => LeO.bind (hm _ _) (fun y => mgF_mono mk hm d _ _ _ _ _ _)))
theorem rgH_mono (a0 a1 a2 a3 a4 a5 : Int) (k : Nat) (l r : List Int) : LeO (rgH k a0 a1 a2 a3 a4 a5 l r) (rgH (k + 1) a0 a1 a2 a3 a4 a5 l r) := LeO.bind (impl_toy_HashChildren.mono _ _ _ _ _ _ _ _ _) (fun y => LeO.refl _)
theorem rgApp_mono (a0 a1 a2 a3 a4 a5 b m e : Int) (L : List (List Int)) (seed : List Int) (ys : List (List Int)) (vis : List S60) (k : Nat) : LeO (rgApp k a0 a1 a2 a3 a4 a5 b m e L seed ys vis) (rgApp (k + 1) a0 a1 a2 a3 a4 a5 b m e L seed ys vis) := by
 unfold rgApp
 exact LeO.bind (LeO.refl _) (fun p => LeO.ite (mgF_mono _ (rgH_mono _ _ _ _ _ _ k) _ _ _ _ _ _ _) (LeO.refl _))
theorem FKeep.pre {S : Nat → Prop} {w w1 w2 : World} (h : VKeep w w1) (h2 : FKeep S w1 w2) : FKeep S w w2 := ⟨Nat.le_trans h.1 h2.1, fun k o h3 h4 h5 => h2.2 k o (h.2 k o h3 h4) h4 h5⟩
theorem FKeep.R {α : Type} {d : Kd α} {S : Nat → Prop} {w w1 : World} {e base : Nat} {ok : Nat → Prop} {v : Value} {xs : List α} (h : FKeep S w w1) (hr : d.R e w base ok v xs) (hq : ∀ q, q ∈ e :: d.E → q ≠ 42 ∧ q ≠ 60) (hne : ∀ k, ok k → ¬ S k) : d.R e w1 base ok v xs := by
 refine Kd.R_mono (Kd.R_move (Kd.R_bound hr) (fun k hk => ?_)) (fun _ hk => hk.1)
 obtain ⟨ho, _, _, q, hq1, cells, hc⟩ := hk
 rw [hc]
 exact h.2 k _ hc (by rintro ⟨cs', fl', e | e⟩ <;> · injection e with _ e; first | exact (hq q hq1).1 e | exact (hq q hq1).2 e) (hne k ho)
theorem FKeep.blk {S : Nat → Prop} {w w1 : World} {g t : Nat} {cs : Array Value} (h : FKeep S w w1) (hb : w.heap[g]? = some (.cells cs t (0, 0))) (h1 : t ≠ 42) (h2 : t ≠ 60) (hn : ¬ S g) : w1.heap[g]? = some (.cells cs t (0, 0)) :=
 h.2 g _ hb (by rintro ⟨cs', fl', e | e⟩ <;> · injection e with _ e; first | exact h1 e | exact h2 e) hn
theorem Vst.ne {fv : Value} {B gb : Nat} (h : Vst fv B gb) : ∃ f, fv = .func (.func f) #[] #[.pointer (some ⟨gb, 0, none⟩)] := h.elim fun f hf => ⟨f, hf.1⟩
/-- An empty row, made. -/
theorem emptyR (X : World) (B : Nat) (hB : B ≤ X.heap.size) : (Kd.int .u8).R 5 (X.alloc (.cells #[] 5)) B (fun _ => True) (.slice (some ⟨X.heap.size, 0, none⟩) 0 0) [] :=
 ⟨fun _ _ => trivial, [], World.ownsRow_lit (base := B) (e := 5) (size := 1) X #[] 0 hB (by decide) rfl, Reps.none _ _⟩
def rgNew (b e : Int) (x : List (List Int)) : Prop := b ≤ e ∧ compact_RangeSize.f b e = some (x.length : Int) ∧ 0 ≤ e ∧ e < 18446744073709551616
instance (b e : Int) (x : List (List Int)) : Decidable (rgNew b e x) := by unfold rgNew; infer_instance
theorem fact_func (fn : Fn) (first cap : Array Value) (w : World) : (Instr.makeFunc fn first cap).run Tryd.prog w = .ok (.func fn first cap) w := rfl
def HeldR (g : Nat) (b e : Int) (A : Option Addr) (n c : Nat) (w : World) : Prop := w.cell? ⟨g, 0, none⟩ = some (.int .u64 b) ∧ w.cell? ⟨g, 1, none⟩ = some (.int .u64 e) ∧ w.cell? ⟨g, 2, none⟩ = some (.slice A n c)
theorem HeldR.of {g : Nat} {b e : Int} {A : Option Addr} {n c : Nat} {w : World} (h : w.heap[g]? = some (.cells #[.int .u64 b, .int .u64 e, .slice A n c] 39 (0, 0))) : HeldR g b e A n c w :=
 ⟨(blk_cell h 0).trans rfl, (blk_cell h 1).trans rfl, (blk_cell h 2).trans rfl⟩
theorem HeldR.below {g B : Nat} {b e : Int} {A : Option Addr} {n c : Nat} {w w' : World} (h : HeldR g b e A n c w) (hb : Below B w w') (hg : g < B) : HeldR g b e A n c w' :=
 ⟨(hb.cell (p := ⟨g, 0, none⟩) hg).trans h.1, (hb.cell (p := ⟨g, 1, none⟩) hg).trans h.2.1, (hb.cell (p := ⟨g, 2, none⟩) hg).trans h.2.2⟩
theorem leaves_kept {w w1 : World} {B g : Nat} {v v1 vY : Value} {y : List (List Int)} {cs : Array Value} (hK : FKeep (fun k_ => k_ = g ∨ some k_ = v.ownBlock) w w1) (hG : w.heap[g]? = some (.cells cs 157 (0, 0)))
  (hR : (Kd.slice 5 (Kd.int .u8)).R 27 w B (fun k_ => some k_ ≠ v.ownBlock) vY y) (hat : v1.ownBlock = v.ownBlock ∨ ∃ b_, v1.ownBlock = some b_ ∧ w.heap.size ≤ b_) : (Kd.slice 5 (Kd.int .u8)).R 27 w1 B (fun k_ => some k_ ≠ v1.ownBlock) vY y := by
 have h1 := Kd.R_bound (Kd.R_types hR hG (by decide))
 refine Kd.R_mono (hK.R h1 (by decide) (fun k hk hs => ?_)) (fun k hk => ?_)
 ·rcases hs with e | e
  ·exact hk.1.2 e
  ·exact hk.1.1 e
 ·rcases hat with e | ⟨b_, e, hb⟩
  ·rw [e]; exact hk.1.1
  ·rw [e]
   intro e2
   injection e2 with e2
   have := hk.2.2.1
   omega
theorem blk_kept' {w w1 : World} {B g g' t : Nat} {v : Value} {L : List (List Int)} {cs cs' : Array Value} (hK : FKeep (fun k_ => k_ = g ∨ some k_ = v.ownBlock) w w1) (hG : w.heap[g]? = some (.cells cs 157 (0, 0))) (hR : (Kd.slice 5 (Kd.int .u8)).R 27 w B (fun _ => True) v L)
  (hb : w.heap[g']? = some (.cells cs' t (0, 0))) (h1 : t ≠ 42) (h2 : t ≠ 60) (h3 : t ≠ 157) (h4 : 27 ≠ t) : w1.heap[g']? = some (.cells cs' t (0, 0)) :=
 hK.blk hb h1 h2 (fun h => h.elim (fun e => blk_ne hb hG h3 e) (fun e => Kd.R_ne hR hb h4 e))
/-- The four blocks that Append and AppendRange begin with. -/
theorem four_blocks (w : World) (o1 o2 o3 o4 : Obj) (w3 : World) (hw3 : w3 = (((w.alloc o1).alloc o2).alloc o3).alloc o4) :
  Below w.heap.size w w3 ∧ w3.heap.size = w.heap.size + 4 ∧ w3.heap[w.heap.size]? = some o1 ∧ w3.heap[w.heap.size + 1]? = some o2 ∧ w3.heap[w.heap.size + 1 + 1]? = some o3 ∧ w3.heap[w.heap.size + 1 + 1 + 1]? = some o4 := by
 have s1 : (w.alloc o1).heap.size = w.heap.size + 1 := Array.size_push _
 have s2 : ((w.alloc o1).alloc o2).heap.size = w.heap.size + 1 + 1 := (Array.size_push _).trans (by rw [s1])
 have s3 : (((w.alloc o1).alloc o2).alloc o3).heap.size = w.heap.size + 1 + 1 + 1 := (Array.size_push _).trans (by rw [s2])
 have k2 := blk_new (w.alloc o1) o2
 have k3 := blk_new ((w.alloc o1).alloc o2) o3
 have k4 := blk_new (((w.alloc o1).alloc o2).alloc o3) o4
 rw [s1] at k2
 rw [s2] at k3
 rw [s3] at k4
 subst hw3
 exact ⟨below_alloc (below_alloc (below_alloc (below_alloc (Below.refl _ _) _) _) _) _, (Array.size_push _).trans (by rw [s3]), blk_alloc (blk_alloc (blk_alloc (blk_new w _) _) _) _, blk_alloc (blk_alloc k2 _) _, blk_alloc k3 _, k4⟩

end Go.Proofs.YtkmdkmlgahfcpaaDoor.M

