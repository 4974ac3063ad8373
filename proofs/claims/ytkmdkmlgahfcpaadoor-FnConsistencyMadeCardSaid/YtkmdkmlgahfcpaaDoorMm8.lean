-- Written by a program of ours (wip/xp) out of the translation; Lean checks it.
import Derived.Test.YtkmdkmlgahfcpaaDoorSq
import Derived.Test.YtkmdkmlgahfcpaaDoorMm1
import Derived.Test.YtkmdkmlgahfcpaaDoorMm7
import Derived.Test.YtkmdkmlgahfcpaaDoorMm6
namespace Go.Proofs.YtkmdkmlgahfcpaaDoor.M
open Go.RowKit Go.Proofs.YtkmdkmlgahfcpaaDoorW.PrintWords Go.Proofs.YtkmdkmlgahfcpaaDoorW.PrintLast Go.Proofs.YtkmdkmlgahfcpaaDoorW.PrintMore
attribute [local go_sem] max2_int min2_int max_two min_two max_three min_three max_four min_four   -- for this text's walks alone
set_option linter.unusedVariables false
set_option linter.unusedSimpArgs false

/-! ### impl_toy_HashChildren: function 52 -/
def impl_toy_HashChildren.f (k : Nat) (a0_0 : Int) (a0_1 : Int) (a0_2 : Int) (a0_3 : Int) (a0_4 : Int) (a0_5 : Int) (l1 : List Int) (l2 : List Int) : Option (List Int) := if a0_0 = 1 then ((impl_mixed.f k a0_5 l1).bind fun t312 => ((impl_mixed.f k t312 (([255] : List Int))).bind fun t316 => ((impl_mixed.f k t316 l2).bind fun t317 => ((impl_word.f k t317 a0_2).bind fun t318 => (some t318))))) else ((some (([1] : List Int) : List Int)).bind fun y321 => ((impl_word.f k (IntKind.u64.wrap ((l1.length : Int))) 8).bind fun t324 => (if y321.length + t324.length < 140737488355328 then ((some (y321 ++ t324 : List Int)).bind fun y327 => (if y327.length + l1.length < 140737488355328 then ((some (y327 ++ l1 : List Int)).bind fun y330 => (if y330.length + l2.length < 140737488355328 then (some (y330 ++ l2)) else (none))) else (none))) else (none))))
theorem impl_toy_HashChildren.mono : ∀ a0 a1 a2 a3 a4 a5 a6 a7 k, LeO (impl_toy_HashChildren.f k a0 a1 a2 a3 a4 a5 a6 a7) (impl_toy_HashChildren.f (k + 1) a0 a1 a2 a3 a4 a5 a6 a7) := by
 intro a0 a1 a2 a3 a4 a5 a6 a7 k
 unfold impl_toy_HashChildren.f
 repeat' first
   | (with_reducible exact impl_mixed.mono _ _ _)
   | (with_reducible exact impl_word.mono _ _ _)
   | (with_reducible exact LeO.refl _)
   | (with_reducible exact LeO.none _)
   | (with_reducible refine LeO.ite ?_ ?_)
   | (with_reducible refine LeO.bind ?_ (fun _ => ?_))
   | exact impl_mixed.mono _ _ _
   | exact impl_word.mono _ _ _
   | exact LeO.none _
   | refine LeO.ite ?_ ?_
   | refine LeO.bind ?_ (fun _ => ?_)
def impl_toy_HashChildren.T2 : Bool × List (List Nat × List Nat) := (true, [([], []), ([0], [0]), ([1], [1]), ([], []), ([2, 3], [2, 3]), ([], []), ([4, 5, 4], [4, 5]), ([], []), ([6, 7, 6], [6, 7]), ([], []), ([9], [9]), ([10], [10]), ([8, 11, 8], [8, 11]), ([12, 12, 0, 1, 2, 3, 4, 5, 6, 7, 8, 9, 10, 11, 12], [12])])
def impl_toy_HashChildren.B2 : List Nat := [0, 1, 3, 0, 15, 0, 63, 0, 255, 0, 512, 1536, 4095, 8191]
theorem impl_toy_HashChildren.tab2 : rtab .any (opsOf Tryd.f52 2) = impl_toy_HashChildren.T2 := by kernel_rfl
theorem impl_toy_HashChildren.bits2 : waitsOk impl_toy_HashChildren.T2.2 impl_toy_HashChildren.B2 = true := by kernel_rfl
set_option maxHeartbeats 8000000 in
set_option maxRecDepth 100000 in
theorem impl_toy_HashChildren.calls (k : Nat) (a0_0 : Int) (a0_1 : Int) (a0_2 : Int) (a0_3 : Int) (a0_4 : Int) (a0_5 : Int) (A1 : Option Addr) (c1 : Nat) (l1 : List Int) (A2 : Option Addr) (c2 : Nat) (l2 : List Int) (r : List Int) (w : World) (hr1 : Kd.C (Kd.int .u8) w A1 l1.length l1) (hc1 : l1.length ≤ c1) (hr2 : Kd.C (Kd.int .u8) w A2 l2.length l2) (hc2 : l2.length ≤ c2) (h : impl_toy_HashChildren.f k a0_0 a0_1 a0_2 a0_3 a0_4 a0_5 l1 l2 = some r) :
  Calls Tryd.prog 52 #[.agg #[.int .i64 a0_0, .int .i64 a0_1, .int .i64 a0_2, .int .u64 a0_3, .int .u64 a0_4, .int .u64 a0_5], .slice A1 l1.length c1, .slice A2 l2.length c2] w fun e w' => ∃ v0_ : Value, e = .returned (v0_) ∧ Kd.R (Kd.int .u8) 5 w' w.heap.size (fun _ => True) v0_ r ∧ Below w.heap.size w w' := by
 have hu85 := Tryd.underlying85
 have HR1 := Aside0.mk hr1
 have HC1 := Aside0.mk hc1
 clear hr1 hc1
 have HR2 := Aside0.mk hr2
 have HC2 := Aside0.mk hc2
 clear hr2 hc2
 have HB := Aside0.mk (Below.refl w.heap.size w)
 have H : (if a0_0 = 1 then ((impl_mixed.f k a0_5 l1).bind fun t312 => ((impl_mixed.f k t312 (([255] : List Int))).bind fun t316 => ((impl_mixed.f k t316 l2).bind fun t317 => ((impl_word.f k t317 a0_2).bind fun t318 => (some t318))))) else ((some (([1] : List Int) : List Int)).bind fun y321 => ((impl_word.f k (IntKind.u64.wrap ((l1.length : Int))) 8).bind fun t324 => (if y321.length + t324.length < 140737488355328 then ((some (y321 ++ t324 : List Int)).bind fun y327 => (if y327.length + l1.length < 140737488355328 then ((some (y327 ++ l1 : List Int)).bind fun y330 => (if y330.length + l2.length < 140737488355328 then (some (y330 ++ l2)) else (none))) else (none))) else (none))))) = some r := h
 clear h
 by_cases c4 : a0_0 = 1
 ·rw [if_pos c4] at H
  have c4b0 : (a0_0 == 1) = true := beq_iff_eq.mpr c4
  have c4b1 : (a0_0 != 1) = false := bne_eq_false_iff_eq.mpr c4
  clear c4
  replace H := Option.bind_eq_some_iff.mp H
  obtain ⟨t312, A50, H⟩ := H
  replace H : ((impl_mixed.f k t312 (([255] : List Int))).bind fun t316 => ((impl_mixed.f k t316 l2).bind fun t317 => ((impl_word.f k t317 a0_2).bind fun t318 => (some t318)))) = some r := H
  have A5 := Aside0.mk A50
  clear A50
  obtain ⟨y313, hy313⟩ : ∃ y_ : List Int, y_ = (([255] : List Int)) := ⟨_, rfl⟩
  replace H : ((impl_mixed.f k t312 y313).bind fun t316 => ((impl_mixed.f k t316 l2).bind fun t317 => ((impl_word.f k t317 a0_2).bind fun t318 => (some t318)))) = some r := by first | (rw [hy313]; with_reducible exact H) | (have H2_ := (Option.bind_some _ _).symm.trans H; rw [hy313]; with_reducible exact H2_) | (have H2_ := (Option.bind_some _ _).symm.trans H; with_reducible exact H2_) | with_reducible exact H | (rw [hy313]; exact H) | exact H
  have Ny313 := Aside0.mk hy313
  clear hy313
  replace H := Option.bind_eq_some_iff.mp H
  obtain ⟨t316, A60, H⟩ := H
  replace H : ((impl_mixed.f k t316 l2).bind fun t317 => ((impl_word.f k t317 a0_2).bind fun t318 => (some t318))) = some r := H
  have A6 := Aside0.mk A60
  clear A60
  replace H := Option.bind_eq_some_iff.mp H
  obtain ⟨t317, A70, H⟩ := H
  replace H : ((impl_word.f k t317 a0_2).bind fun t318 => (some t318)) = some r := H
  have A7 := Aside0.mk A70
  clear A70
  replace H := Option.bind_eq_some_iff.mp H
  obtain ⟨t318, A80, H⟩ := H
  replace H : (some t318) = some r := H
  have A8 := Aside0.mk A80
  clear A80
  obtain rfl := Option.some.inj H
  go_enter Tryd.func52, Tryd.ntmps52
  try go_wp2_with (first | ((with_reducible refine gate_dst (N := 3) rfl ?_); refine box_event ?hg (N := 3) ?hd (cs := #[.int .i64 a0_0, .int .i64 a0_1, .int .i64 a0_2, .int .u64 a0_3, .int .u64 a0_4, .int .u64 a0_5]) (t := 85) ?hr ?_; (case hd => rfl); (case hg => rfl); (case hr => first | (go_simp; done) | (go_simp; rfl)); intro gb311 hg w9 hbox hb; have n0_ := Aside0.mk (below_step bB hb); have n1_ := Aside0.mk (hbox); have n2_ := Aside0.mk ((by rw [hg]; exact (below_size bB) : w.heap.size ≤ gb311)); have n3_ := Aside0.mk ((by rw [hg]; exact (below_size bB) : w.heap.size ≤ gb311)); clear HB; have HB := n0_; have BK311 := n1_; have GW311 := n2_; have GE311 := n3_; clear n0_ n1_ n2_ n3_; clear hb hbox hg; have hcz10_0 : w9.cell? ⟨gb311, 0, none⟩ = some (.int .i64 a0_0) := (blk_cell BK311.out 0).trans rfl; have hcz10_1 : w9.cell? ⟨gb311, 1, none⟩ = some (.int .i64 a0_1) := (blk_cell BK311.out 1).trans rfl; have hcz10_2 : w9.cell? ⟨gb311, 2, none⟩ = some (.int .i64 a0_2) := (blk_cell BK311.out 2).trans rfl; have hcz10_3 : w9.cell? ⟨gb311, 3, none⟩ = some (.int .u64 a0_3) := (blk_cell BK311.out 3).trans rfl; have hcz10_4 : w9.cell? ⟨gb311, 4, none⟩ = some (.int .u64 a0_4) := (blk_cell BK311.out 4).trans rfl; have hcz10_5 : w9.cell? ⟨gb311, 5, none⟩ = some (.int .u64 a0_5) := (blk_cell BK311.out 5).trans rfl; have hfz10_0 := blk_frozen BK311.out 0; have hfz10_1 := blk_frozen BK311.out 1; have hfz10_2 := blk_frozen BK311.out 2; have hfz10_3 := blk_frozen BK311.out 3; have hfz10_4 := blk_frozen BK311.out 4; have hfz10_5 := blk_frozen BK311.out 5))
  have n0_ := Aside0.mk (blk_drew BK311.out)
  have n1_ := Aside0.mk (below_drew1 HB.out)
  clear BK311
  clear HB
  have BK311 := n0_
  have HB := n1_
  clear n0_ n1_
  refine start_ (n := 14) (S := fun w' => w'.cell? ⟨gb311, 0, none⟩ = some (.int .i64 a0_0) ∧ w'.cell? ⟨gb311, 1, none⟩ = some (.int .i64 a0_1) ∧ w'.cell? ⟨gb311, 2, none⟩ = some (.int .i64 a0_2) ∧ w'.cell? ⟨gb311, 3, none⟩ = some (.int .u64 a0_3) ∧ w'.cell? ⟨gb311, 4, none⟩ = some (.int .u64 a0_4) ∧ w'.cell? ⟨gb311, 5, none⟩ = some (.int .u64 a0_5)) (ds := []) #[false, false, false, false, false, false, false, false, false, false, false, false, false, false] (by kernel_rfl) rfl rfl ⟨(blk_cell BK311.out 0).trans rfl, (blk_cell BK311.out 1).trans rfl, (blk_cell BK311.out 2).trans rfl, (blk_cell BK311.out 3).trans rfl, (blk_cell BK311.out 4).trans rfl, (blk_cell BK311.out 5).trans rfl⟩ (fun hHeld => ?_); refine with_tabW impl_toy_HashChildren.tab2 impl_toy_HashChildren.bits2 (fun HT_ HW_ => ?_)
  generalize w9.drew = w11 at BK311 HB hHeld ⊢
  refine pure_ (i := 0) (N := some 12) (v := ?_) (a' := ?_) #[true, false, false, false, false, false, false, false, false, false, false, false, false, false] rfl rfl (any_of HT_.out (by kernel_rfl)) (fun _ _ _ h => h) (Or.inl ⟨by rfl, ?_⟩) ?_ ?_
  rotate_left
  ·intro w'
   go_simp
   with_reducible rfl
  rotate_left
  ·simp only [Act.put, List.setIfInBounds_toArray, List.set_cons_zero, List.set_cons_succ, i64_w, i32_w]
   rfl
  refine pure_ (i := 1) (N := some 13) (v := ?_) (a' := ?_) #[true, true, false, false, false, false, false, false, false, false, false, false, false, false] rfl rfl (any_of HT_.out (by kernel_rfl)) (fun _ _ _ h => h) (Or.inl ⟨by rfl, ?_⟩) ?_ ?_
  rotate_left
  ·intro w'
   go_simp
   with_reducible rfl
  rotate_left
  ·simp only [Act.put, List.setIfInBounds_toArray, List.set_cons_zero, List.set_cons_succ, i64_w, i32_w]
   rfl
  refine pure_ (i := 3) (N := some 15) (v := ?_) (a' := ?_) #[true, true, false, true, false, false, false, false, false, false, false, false, false, false] rfl rfl (any_of HT_.out (by kernel_rfl)) (fun _ _ _ h => h) (Or.inl ⟨by rfl, ?_⟩) ?_ ?_
  rotate_left
  ·intro w'
   go_simp
   with_reducible rfl
  rotate_left
  ·simp only [Act.put, List.setIfInBounds_toArray, List.set_cons_zero, List.set_cons_succ, i64_w, i32_w]
   rfl
  refine pure_ (i := 7) (N := some 19) (v := ?_) (a' := ?_) #[true, true, false, true, false, false, false, true, false, false, false, false, false, false] rfl rfl (any_of HT_.out (by kernel_rfl)) (fun _ _ _ h => h) (Or.inl ⟨by rfl, ?_⟩) ?_ ?_
  rotate_left
  ·intro w'
   go_simp
   with_reducible rfl
  rotate_left
  ·simp only [Act.put, List.setIfInBounds_toArray, List.set_cons_zero, List.set_cons_succ, i64_w, i32_w]
   rfl
  refine pure_ (i := 9) (N := some 21) (v := ?_) (a' := ?_) #[true, true, false, true, false, false, false, true, false, true, false, false, false, false] rfl rfl (any_of HT_.out (by kernel_rfl)) (fun _ _ _ h => h) (Or.inl ⟨by rfl, ?_⟩) ?_ ?_
  rotate_left
  ·intro w'
   go_simp
   with_reducible rfl
  rotate_left
  ·simp only [Act.put, List.setIfInBounds_toArray, List.set_cons_zero, List.set_cons_succ, i64_w, i32_w]
   rfl
  refine pure_ (i := 10) (N := some 22) (v := ?_) (a' := ?_) #[true, true, false, true, false, false, false, true, false, true, true, false, false, false] rfl rfl (any_of HT_.out (by kernel_rfl)) (fun _ _ _ h => h) (Or.inl ⟨by rfl, ?_⟩) ?_ ?_
  rotate_left
  ·intro w'
   go_simp
   with_reducible rfl
  rotate_left
  ·simp only [Act.put, List.setIfInBounds_toArray, List.set_cons_zero, List.set_cons_succ, i64_w, i32_w]
   rfl
  refine take_ (i := 2) (N := some 14) (v := ?_) (a' := ?_) #[true, true, true, true, false, false, false, true, false, true, true, false, false, false] rfl rfl (take_ofW HT_.out HW_.out (by kernel_rfl)) (fun _ _ _ h => h) (Or.inl ⟨by rfl, ?_⟩) hHeld ?_ ?_
  rotate_left
  ·rintro w' ⟨s0, s1, s2, s3, s4, s5⟩
   go_simp
   with_reducible rfl
  rotate_left
  ·simp only [Act.put, List.setIfInBounds_toArray, List.set_cons_zero, List.set_cons_succ, i64_w, i32_w]
   rfl
  refine take_ (i := 11) (N := some 23) (v := ?_) (a' := ?_) #[true, true, true, true, false, false, false, true, false, true, true, true, false, false] rfl rfl (take_ofW HT_.out HW_.out (by kernel_rfl)) (fun _ _ _ h => h) (Or.inl ⟨by rfl, ?_⟩) hHeld ?_ ?_
  rotate_left
  ·rintro w' ⟨s0, s1, s2, s3, s4, s5⟩
   go_simp
   with_reducible rfl
  rotate_left
  ·simp only [Act.put, List.setIfInBounds_toArray, List.set_cons_zero, List.set_cons_succ, i64_w, i32_w]
   rfl
  refine join_ (σ := Value) 4 #[true, true, true, true, true, true, false, true, false, true, true, true, false, false] (fun s_ => [(16, .int .u64 t312), (17, s_)]) (fun s_ w' => (w'.cell? ⟨gb311, 0, none⟩ = some (.int .i64 a0_0) ∧ w'.cell? ⟨gb311, 1, none⟩ = some (.int .i64 a0_1) ∧ w'.cell? ⟨gb311, 2, none⟩ = some (.int .i64 a0_2) ∧ w'.cell? ⟨gb311, 3, none⟩ = some (.int .u64 a0_3) ∧ w'.cell? ⟨gb311, 4, none⟩ = some (.int .u64 a0_4) ∧ w'.cell? ⟨gb311, 5, none⟩ = some (.int .u64 a0_5)) ∧ (Kd.R (Kd.int .u8) 5 w' w.heap.size (fun _ => True) s_ y313) ∧ (w'.heap[gb311]? = some (.cells #[.int .i64 a0_0, .int .i64 a0_1, .int .i64 a0_2, .int .u64 a0_3, .int .u64 a0_4, .int .u64 a0_5] 85 (0, 0))) ∧ (Below w.heap.size w w')) ?_ ?_
  rotate_left
  ·intro hCont
   refine two_ (i := 4) (j := 5) (Ni := some 16) (Nj := some 17) #[true, true, true, true, true, false, false, true, false, true, true, true, false, false] #[true, true, true, true, false, true, false, true, false, true, true, true, false, false] rfl rfl rfl rfl (two_of HT_.out (by kernel_rfl)) (by decide) (by decide) (fun K hK => ?_) (fun K hK => ?_)
   ·skip
    refine goes_ Tryd.func90 (by kernel_rfl) rfl #[.int .u64 a0_5, .slice A1 l1.length c1] (by rfl) rfl rfl aV ?_
    with_reducible refine (impl_mixed.calls k a0_5 _ _ l1 t312 _ ?side1 ?side2 A5.out).mono ?_
    (case side1 => repeat (first | exact (Kd.C_below HR1.out HB.out) | (with_reducible refine Kd.C_alloc ?_ _) | (with_reducible refine Kd.C_drewN ?_ _) | (with_reducible refine Kd.C_drew ?_)))
    (case side2 => exact HC1.out)
    rintro e w' ⟨rfl, ⟨nd, rfl⟩⟩
    refine ⟨_, rfl, ?_⟩
    refine hK.out _ _ ⟨(blk_cell BK311.out 0).trans rfl, (blk_cell BK311.out 1).trans rfl, (blk_cell BK311.out 2).trans rfl, (blk_cell BK311.out 3).trans rfl, (blk_cell BK311.out 4).trans rfl, (blk_cell BK311.out 5).trans rfl⟩ (fun hHeld => ?_)
    clear hK K
    refine norm_ (a' := ?_) ?_ ?_
    rotate_left
    ·show Act.put _ (some 16) _ = _
     simp only [Act.put, List.setIfInBounds_toArray, List.set_cons_zero, List.set_cons_succ, i64_w, i32_w]
     rfl
    refine one_ (i := 5) (N := some 17) #[true, true, true, true, true, true, false, true, false, true, true, true, false, false] rfl rfl (one_of HT_.out (by kernel_rfl)) (by decide) (fun K hK => ?_)
    refine Kd.R_lit_step (Kd.int .u8) _ 5 ?hg (N := 17) ?hd (xs := ([255] : List Int)) (inner := [.int .u8 255]) (ok := fun _ => True) (okp := fun _ => True) ?hr ?hp (fun _ hk => hk) trivial (Below.refl _ _) (Nat.le_refl _) (by simp) ?_; (case hd => rfl); (case hg => rfl); (case hr => first | (go_simp; done) | (go_simp; rfl)); (case hp => exact (Reps.one (show Kd.M (Kd.int .u8) _ _ _ 255 [.int .u8 255] from rfl) (Reps.none _ _)))
    intro v314 w12 ho13 hb hg_ hnew_
    clear hg_ hnew_
    (first | rw [← Ny313.out] at ho13 | (simp only [Int.reduceToNat] at ho13; rw [← Ny313.out] at ho13))
    have n0_ := Aside0.mk (Kd.R_lower ho13 (below_size bB))
    have n1_ := Aside0.mk (blk_below (g := gb311) (o := .cells #[.int .i64 a0_0, .int .i64 a0_1, .int .i64 a0_2, .int .u64 a0_3, .int .u64 a0_4, .int .u64 a0_5] 85 (0, 0)) (kB BK311.out) hb)
    have n2_ := Aside0.mk (below_step bB hb)
    clear BK311
    clear HB
    have HO315 := n0_
    have BK311 := n1_
    have HB := n2_
    clear n0_ n1_ n2_
    clear hb ho13
    refine hK.out _ _ ⟨(blk_cell BK311.out 0).trans rfl, (blk_cell BK311.out 1).trans rfl, (blk_cell BK311.out 2).trans rfl, (blk_cell BK311.out 3).trans rfl, (blk_cell BK311.out 4).trans rfl, (blk_cell BK311.out 5).trans rfl⟩ (fun hHeld => ?_)
    clear hK K
    refine norm_ (a' := ?_) ?_ ?_
    rotate_left
    ·show Act.put _ (some 17) _ = _
     simp only [Act.put, List.setIfInBounds_toArray, List.set_cons_zero, List.set_cons_succ, i64_w, i32_w]
     rfl
    exact norm_ (by simp only [putAll, Act.put, List.setIfInBounds_toArray, List.set_cons_zero, List.set_cons_succ]) (hCont (v314) _ ⟨hHeld, (kR HO315.out), (kB BK311.out), bB⟩)
   ·skip
    refine Kd.R_lit_step (Kd.int .u8) _ 5 ?hg (N := 17) ?hd (xs := ([255] : List Int)) (inner := [.int .u8 255]) (ok := fun _ => True) (okp := fun _ => True) ?hr ?hp (fun _ hk => hk) trivial (Below.refl _ _) (Nat.le_refl _) (by simp) ?_; (case hd => rfl); (case hg => rfl); (case hr => first | (go_simp; done) | (go_simp; rfl)); (case hp => exact (Reps.one (show Kd.M (Kd.int .u8) _ _ _ 255 [.int .u8 255] from rfl) (Reps.none _ _)))
    intro v314 w12 ho13 hb hg_ hnew_
    clear hg_ hnew_
    (first | rw [← Ny313.out] at ho13 | (simp only [Int.reduceToNat] at ho13; rw [← Ny313.out] at ho13))
    have n0_ := Aside0.mk (Kd.R_lower ho13 (below_size bB))
    have n1_ := Aside0.mk (blk_below (g := gb311) (o := .cells #[.int .i64 a0_0, .int .i64 a0_1, .int .i64 a0_2, .int .u64 a0_3, .int .u64 a0_4, .int .u64 a0_5] 85 (0, 0)) (kB BK311.out) hb)
    have n2_ := Aside0.mk (below_step bB hb)
    clear BK311
    clear HB
    have HO315 := n0_
    have BK311 := n1_
    have HB := n2_
    clear n0_ n1_ n2_
    clear hb ho13
    refine hK.out _ _ ⟨(blk_cell BK311.out 0).trans rfl, (blk_cell BK311.out 1).trans rfl, (blk_cell BK311.out 2).trans rfl, (blk_cell BK311.out 3).trans rfl, (blk_cell BK311.out 4).trans rfl, (blk_cell BK311.out 5).trans rfl⟩ (fun hHeld => ?_)
    clear hK K
    refine norm_ (a' := ?_) ?_ ?_
    rotate_left
    ·show Act.put _ (some 17) _ = _
     simp only [Act.put, List.setIfInBounds_toArray, List.set_cons_zero, List.set_cons_succ, i64_w, i32_w]
     rfl
    refine one_ (i := 4) (N := some 16) #[true, true, true, true, true, true, false, true, false, true, true, true, false, false] rfl rfl (one_of HT_.out (by kernel_rfl)) (by decide) (fun K hK => ?_)
    refine goes_ Tryd.func90 (by kernel_rfl) rfl #[.int .u64 a0_5, .slice A1 l1.length c1] (by rfl) rfl rfl aV ?_
    with_reducible refine (impl_mixed.calls k a0_5 _ _ l1 t312 _ ?side1 ?side2 A5.out).mono ?_
    (case side1 => repeat (first | exact (Kd.C_below HR1.out HB.out) | (with_reducible refine Kd.C_alloc ?_ _) | (with_reducible refine Kd.C_drewN ?_ _) | (with_reducible refine Kd.C_drew ?_)))
    (case side2 => exact HC1.out)
    rintro e w' ⟨rfl, ⟨nd, rfl⟩⟩
    refine ⟨_, rfl, ?_⟩
    refine hK.out _ _ ⟨(blk_cell BK311.out 0).trans rfl, (blk_cell BK311.out 1).trans rfl, (blk_cell BK311.out 2).trans rfl, (blk_cell BK311.out 3).trans rfl, (blk_cell BK311.out 4).trans rfl, (blk_cell BK311.out 5).trans rfl⟩ (fun hHeld => ?_)
    clear hK K
    refine norm_ (a' := ?_) ?_ ?_
    rotate_left
    ·show Act.put _ (some 16) _ = _
     simp only [Act.put, List.setIfInBounds_toArray, List.set_cons_zero, List.set_cons_succ, i64_w, i32_w]
     rfl
    exact norm_ (by simp only [putAll, Act.put, List.setIfInBounds_toArray, List.set_cons_zero, List.set_cons_succ]) (hCont (v314) _ ⟨hHeld, (kR HO315.out), (kB BK311.out), bB⟩)
  rintro v314 w14 ⟨hS_, h0_, h1_, h2_⟩
  have n0_ : Aside0 (Kd.R (Kd.int .u8) 5 w14 w.heap.size (fun _ => True) v314 y313) := ⟨h0_⟩
  have n1_ : Aside0 (w14.heap[gb311]? = some (.cells #[.int .i64 a0_0, .int .i64 a0_1, .int .i64 a0_2, .int .u64 a0_3, .int .u64 a0_4, .int .u64 a0_5] 85 (0, 0))) := ⟨h1_⟩
  have n2_ : Aside0 (Below w.heap.size w w14) := ⟨h2_⟩
  clear BK311
  clear HB
  clear h0_ h1_ h2_
  have HO315 := n0_
  have BK311 := n1_
  have HB := n2_
  clear n0_ n1_ n2_
  have hHeld : w14.cell? ⟨gb311, 0, none⟩ = some (.int .i64 a0_0) ∧ w14.cell? ⟨gb311, 1, none⟩ = some (.int .i64 a0_1) ∧ w14.cell? ⟨gb311, 2, none⟩ = some (.int .i64 a0_2) ∧ w14.cell? ⟨gb311, 3, none⟩ = some (.int .u64 a0_3) ∧ w14.cell? ⟨gb311, 4, none⟩ = some (.int .u64 a0_4) ∧ w14.cell? ⟨gb311, 5, none⟩ = some (.int .u64 a0_5) := hS_
  obtain ⟨Ao15, co15, eo15⟩ := Kd.R_slice HO315.out
  (first | subst eo15 | (injection eo15 with f1_ f2_ f3_; have f4_ := f1_.symm; have f5_ := f3_.symm; clear f1_ f2_ f3_; subst f4_; subst f5_))
  refine norm_ (a' := ?_) ?_ ?_
  rotate_left
  ·simp only [putAll, Act.put, List.setIfInBounds_toArray, List.set_cons_zero, List.set_cons_succ]
   rfl
  refine one_ (i := 6) (N := some 18) #[true, true, true, true, true, true, true, true, false, true, true, true, false, false] rfl rfl (one_of HT_.out (by kernel_rfl)) (by decide) (fun K hK => ?_)
  refine goes_ Tryd.func90 (by kernel_rfl) rfl #[.int .u64 t312, .slice Ao15 y313.length co15] (by rfl) rfl rfl aV ?_
  with_reducible refine (impl_mixed.calls k t312 _ _ y313 t316 _ ?side1 ?side2 A6.out).mono ?_
  (case side1 => repeat (first | exact (Kd.R_reads' HO315.out).2.2 | (with_reducible refine Kd.C_alloc ?_ _) | (with_reducible refine Kd.C_drewN ?_ _) | (with_reducible refine Kd.C_drew ?_)))
  (case side2 => exact (Kd.R_reads' HO315.out).2.1)
  rintro e w' ⟨rfl, ⟨nd, rfl⟩⟩
  refine ⟨_, rfl, ?_⟩
  refine hK.out _ _ ⟨(blk_cell BK311.out 0).trans rfl, (blk_cell BK311.out 1).trans rfl, (blk_cell BK311.out 2).trans rfl, (blk_cell BK311.out 3).trans rfl, (blk_cell BK311.out 4).trans rfl, (blk_cell BK311.out 5).trans rfl⟩ (fun hHeld => ?_)
  clear hK K
  refine norm_ (a' := ?_) ?_ ?_
  rotate_left
  ·show Act.put _ (some 18) _ = _
   simp only [Act.put, List.setIfInBounds_toArray, List.set_cons_zero, List.set_cons_succ, i64_w, i32_w]
   rfl
  refine one_ (i := 8) (N := some 20) #[true, true, true, true, true, true, true, true, true, true, true, true, false, false] rfl rfl (one_of HT_.out (by kernel_rfl)) (by decide) (fun K hK => ?_)
  refine goes_ Tryd.func90 (by kernel_rfl) rfl #[.int .u64 t316, .slice A2 l2.length c2] (by rfl) rfl rfl aV ?_
  with_reducible refine (impl_mixed.calls k t316 _ _ l2 t317 _ ?side1 ?side2 A7.out).mono ?_
  (case side1 => repeat (first | exact (Kd.C_below HR2.out bB) | (with_reducible refine Kd.C_alloc ?_ _) | (with_reducible refine Kd.C_drewN ?_ _) | (with_reducible refine Kd.C_drew ?_)))
  (case side2 => exact HC2.out)
  rintro e w' ⟨rfl, ⟨nd, rfl⟩⟩
  refine ⟨_, rfl, ?_⟩
  refine hK.out _ _ ⟨(blk_cell BK311.out 0).trans rfl, (blk_cell BK311.out 1).trans rfl, (blk_cell BK311.out 2).trans rfl, (blk_cell BK311.out 3).trans rfl, (blk_cell BK311.out 4).trans rfl, (blk_cell BK311.out 5).trans rfl⟩ (fun hHeld => ?_)
  clear hK K
  refine norm_ (a' := ?_) ?_ ?_
  rotate_left
  ·show Act.put _ (some 20) _ = _
   simp only [Act.put, List.setIfInBounds_toArray, List.set_cons_zero, List.set_cons_succ, i64_w, i32_w]
   rfl
  refine one_ (i := 12) (N := some 24) #[true, true, true, true, true, true, true, true, true, true, true, true, true, false] rfl rfl (one_of HT_.out (by kernel_rfl)) (by decide) (fun K hK => ?_)
  refine goes_ Tryd.func89 (by kernel_rfl) rfl #[.int .u64 t317, .int .i64 a0_2] (by rfl) rfl rfl aV ?_
  with_reducible refine (impl_word.calls k t317 a0_2 t318 _ A8.out).mono ?_
  rintro e w16 ⟨v319, rfl, ho0, hb⟩
  refine ⟨_, rfl, ?_⟩
  have n0_ := Aside0.mk (Kd.R_elder' (kR HO315.out) (Kd.R_base ho0) hb)
  have n1_ := Aside0.mk (Kd.R_lower (Kd.R_new' ho0 (Kd.R_lt (kR HO315.out))) (below_size bB))
  have n2_ := Aside0.mk (blk_below (g := gb311) (o := .cells #[.int .i64 a0_0, .int .i64 a0_1, .int .i64 a0_2, .int .u64 a0_3, .int .u64 a0_4, .int .u64 a0_5] 85 (0, 0)) (kB BK311.out) hb)
  have n3_ := Aside0.mk (below_step bB hb)
  clear HO315
  clear BK311
  clear HB
  have HO315 := n0_
  have HO320 := n1_
  have BK311 := n2_
  have HB := n3_
  clear n0_ n1_ n2_ n3_
  (try clear hb)
  (try clear hb2)
  (try clear hk)
  (try clear hi)
  (try clear ho0)
  refine hK.out _ _ ⟨(blk_cell BK311.out 0).trans rfl, (blk_cell BK311.out 1).trans rfl, (blk_cell BK311.out 2).trans rfl, (blk_cell BK311.out 3).trans rfl, (blk_cell BK311.out 4).trans rfl, (blk_cell BK311.out 5).trans rfl⟩ (fun hHeld => ?_)
  clear hK K
  refine norm_ (a' := ?_) ?_ ?_
  rotate_left
  ·show Act.put _ (some 24) _ = _
   simp only [Act.put, List.setIfInBounds_toArray, List.set_cons_zero, List.set_cons_succ, i64_w, i32_w]
   rfl
  refine pure_ (i := 13) (N := some 6) (v := ?_) (a' := ?_) #[true, true, true, true, true, true, true, true, true, true, true, true, true, true] rfl rfl (any_of HT_.out (by kernel_rfl)) (fun _ _ _ h => h) (Or.inl ⟨by rfl, ?_⟩) ?_ ?_
  rotate_left
  ·intro w'
   go_simp
   with_reducible rfl
  rotate_left
  ·simp only [Act.put, List.setIfInBounds_toArray, List.set_cons_zero, List.set_cons_succ, i64_w, i32_w]
   rfl
  refine done_ (done_of HT_.out (by kernel_rfl)) ?_
  try go_wp2
  go_ret
  exact ⟨_, by first | rfl | (simp [errW_none, errW_some] <;> rfl) | (simp [*, errW_none, errW_some] <;> rfl), by (with_reducible repeat (first | apply Kd.R_alloc | apply Kd.R_drewN | apply Kd.R_drew)); exact Kd.R_mono HO320.out (fun _ hk => trivial), bB⟩
 ·rw [if_neg c4] at H
  have c4b0 : (a0_0 == 1) = false := beq_eq_false_iff_ne.mpr c4
  have c4b1 : (a0_0 != 1) = true := bne_iff_ne.mpr c4
  obtain ⟨y321, hy321⟩ : ∃ y_ : List Int, y_ = (([1] : List Int)) := ⟨_, rfl⟩
  replace H : ((impl_word.f k (IntKind.u64.wrap ((l1.length : Int))) 8).bind fun t324 => (if y321.length + t324.length < 140737488355328 then ((some (y321 ++ t324 : List Int)).bind fun y327 => (if y327.length + l1.length < 140737488355328 then ((some (y327 ++ l1 : List Int)).bind fun y330 => (if y330.length + l2.length < 140737488355328 then (some (y330 ++ l2)) else (none))) else (none))) else (none))) = some r := by first | (rw [hy321]; with_reducible exact H) | (have H2_ := (Option.bind_some _ _).symm.trans H; rw [hy321]; with_reducible exact H2_) | (have H2_ := (Option.bind_some _ _).symm.trans H; with_reducible exact H2_) | with_reducible exact H | (rw [hy321]; exact H) | exact H
  have Ny321 := Aside0.mk hy321
  clear hy321
  replace H := Option.bind_eq_some_iff.mp H
  obtain ⟨t324, A170, H⟩ := H
  replace H : (if y321.length + t324.length < 140737488355328 then ((some (y321 ++ t324 : List Int)).bind fun y327 => (if y327.length + l1.length < 140737488355328 then ((some (y327 ++ l1 : List Int)).bind fun y330 => (if y330.length + l2.length < 140737488355328 then (some (y330 ++ l2)) else (none))) else (none))) else (none)) = some r := H
  have A17 := Aside0.mk A170
  clear A170
  by_cases c18 : y321.length + t324.length < 140737488355328
  ·rw [if_pos c18] at H
   have LMc18 := Aside0.mk c18
   clear c18
   obtain ⟨y327, hy327⟩ : ∃ y_ : List Int, y_ = (y321 ++ t324) := ⟨_, rfl⟩
   replace H : (if y327.length + l1.length < 140737488355328 then ((some (y327 ++ l1 : List Int)).bind fun y330 => (if y330.length + l2.length < 140737488355328 then (some (y330 ++ l2)) else (none))) else (none)) = some r := by first | (rw [hy327]; with_reducible exact H) | (have H2_ := (Option.bind_some _ _).symm.trans H; rw [hy327]; with_reducible exact H2_) | (have H2_ := (Option.bind_some _ _).symm.trans H; with_reducible exact H2_) | with_reducible exact H | (rw [hy327]; exact H) | exact H
   have Ny327 := Aside0.mk hy327
   clear hy327
   by_cases c19 : y327.length + l1.length < 140737488355328
   ·rw [if_pos c19] at H
    have LMc19 := Aside0.mk c19
    clear c19
    obtain ⟨y330, hy330⟩ : ∃ y_ : List Int, y_ = (y327 ++ l1) := ⟨_, rfl⟩
    replace H : (if y330.length + l2.length < 140737488355328 then (some (y330 ++ l2)) else (none)) = some r := by first | (rw [hy330]; with_reducible exact H) | (have H2_ := (Option.bind_some _ _).symm.trans H; rw [hy330]; with_reducible exact H2_) | (have H2_ := (Option.bind_some _ _).symm.trans H; with_reducible exact H2_) | with_reducible exact H | (rw [hy330]; exact H) | exact H
    have Ny330 := Aside0.mk hy330
    clear hy330
    by_cases c20 : y330.length + l2.length < 140737488355328
    ·rw [if_pos c20] at H
     have LMc20 := Aside0.mk c20
     clear c20
     obtain ⟨y333, hy333⟩ : ∃ y_ : List Int, y_ = (y330 ++ l2) := ⟨_, rfl⟩
     replace H : (some y333) = some r := by first | (rw [hy333]; with_reducible exact H) | (have H2_ := (Option.bind_some _ _).symm.trans H; rw [hy333]; with_reducible exact H2_) | (have H2_ := (Option.bind_some _ _).symm.trans H; with_reducible exact H2_) | with_reducible exact H | (rw [hy333]; exact H) | exact H
     have Ny333 := Aside0.mk hy333
     clear hy333
     obtain rfl := Option.some.inj H
     go_enter Tryd.func52, Tryd.ntmps52
     go_wp2_with (first | ((with_reducible refine gate_dst (N := 3) rfl ?_); refine box_event ?hg (N := 3) ?hd (cs := #[.int .i64 a0_0, .int .i64 a0_1, .int .i64 a0_2, .int .u64 a0_3, .int .u64 a0_4, .int .u64 a0_5]) (t := 85) ?hr ?_; (case hd => rfl); (case hg => rfl); (case hr => first | (go_simp; done) | (go_simp; rfl)); intro gb311 hg w21 hbox hb; have n0_ := Aside0.mk (below_step bB hb); have n1_ := Aside0.mk (hbox); have n2_ := Aside0.mk ((by rw [hg]; exact (below_size bB) : w.heap.size ≤ gb311)); have n3_ := Aside0.mk ((by rw [hg]; exact (below_size bB) : w.heap.size ≤ gb311)); clear HB; have HB := n0_; have BK311 := n1_; have GW311 := n2_; have GE311 := n3_; clear n0_ n1_ n2_ n3_; clear hb hbox hg; have hcz22_0 : w21.cell? ⟨gb311, 0, none⟩ = some (.int .i64 a0_0) := (blk_cell BK311.out 0).trans rfl; have hcz22_1 : w21.cell? ⟨gb311, 1, none⟩ = some (.int .i64 a0_1) := (blk_cell BK311.out 1).trans rfl; have hcz22_2 : w21.cell? ⟨gb311, 2, none⟩ = some (.int .i64 a0_2) := (blk_cell BK311.out 2).trans rfl; have hcz22_3 : w21.cell? ⟨gb311, 3, none⟩ = some (.int .u64 a0_3) := (blk_cell BK311.out 3).trans rfl; have hcz22_4 : w21.cell? ⟨gb311, 4, none⟩ = some (.int .u64 a0_4) := (blk_cell BK311.out 4).trans rfl; have hcz22_5 : w21.cell? ⟨gb311, 5, none⟩ = some (.int .u64 a0_5) := (blk_cell BK311.out 5).trans rfl; have hfz22_0 := blk_frozen BK311.out 0; have hfz22_1 := blk_frozen BK311.out 1; have hfz22_2 := blk_frozen BK311.out 2; have hfz22_3 := blk_frozen BK311.out 3; have hfz22_4 := blk_frozen BK311.out 4; have hfz22_5 := blk_frozen BK311.out 5) | ((with_reducible refine gate_dst (N := 25) rfl ?_); refine Kd.R_lit (Kd.int .u8) _ 5 ?hg (N := 25) ?hd (xs := ([1] : List Int)) (inner := [.int .u8 1]) (ok := fun _ => True) (okp := fun _ => True) ?hr ?hp (fun _ hk => hk) trivial (Below.refl _ _) (Nat.le_refl _) (by simp) ?_; (case hd => rfl); (case hg => rfl); (case hr => first | (go_simp; done) | (go_simp; rfl)); (case hp => exact (Reps.one (show Kd.M (Kd.int .u8) _ _ _ 1 [.int .u8 1] from rfl) (Reps.none _ _))); intro v322 w23 ho24 hb hg_ hnew_; clear hg_ hnew_; (first | rw [← Ny321.out] at ho24 | (simp only [Int.reduceToNat] at ho24; rw [← Ny321.out] at ho24)); have n0_ := Aside0.mk (Kd.R_lower ho24 (below_size bB)); have n1_ := Aside0.mk (blk_below (g := gb311) (o := .cells #[.int .i64 a0_0, .int .i64 a0_1, .int .i64 a0_2, .int .u64 a0_3, .int .u64 a0_4, .int .u64 a0_5] 85 (0, 0)) (kB BK311.out) hb); have n2_ := Aside0.mk (below_step bB hb); clear BK311; clear HB; have HO323 := n0_; have BK311 := n1_; have HB := n2_; clear n0_ n1_ n2_; clear hb ho24) | ((with_reducible refine gate_callee (f := 89) rfl ?_); refine goesL_ (some 29) rfl rfl Tryd.func89 (by kernel_rfl) rfl #[.int .u64 (IntKind.u64.wrap ((l1.length : Int))), .int .i64 8] rfl aV ?_; (with_reducible refine (impl_word.calls k (IntKind.u64.wrap ((l1.length : Int))) 8 t324 _ A17.out).mono ?_); rintro e w25 ⟨v325, rfl, ho0, hb⟩; refine ⟨_, rfl, ?_⟩; have n0_ := Aside0.mk (Kd.R_elder' (kR HO323.out) (Kd.R_base ho0) hb); have n1_ := Aside0.mk (Kd.R_lower (Kd.R_new' ho0 (Kd.R_lt (kR HO323.out))) (below_size bB)); have n2_ := Aside0.mk (blk_below (g := gb311) (o := .cells #[.int .i64 a0_0, .int .i64 a0_1, .int .i64 a0_2, .int .u64 a0_3, .int .u64 a0_4, .int .u64 a0_5] 85 (0, 0)) (kB BK311.out) hb); have n3_ := Aside0.mk (below_step bB hb); clear HO323; clear BK311; clear HB; have HO323 := n0_; have HO326 := n1_; have BK311 := n2_; have HB := n3_; clear n0_ n1_ n2_ n3_; (try clear hb); (try clear hb2); (try clear hk); (try clear hi); (try clear ho0); obtain ⟨Ao27, co27, eo27⟩ := Kd.R_slice HO326.out; subst eo27) | ((with_reducible refine gate_builtin (b := .append) (xs := #[.tmp 25, .tmp 29]) rfl ?_); at_builtin; refine Kd.R_append_rows (Kd.int .u8) (w0 := w) w.heap.size rfl (.tmp 25) (.tmp 29) 27 5 (.int .u8 0) 1 rfl Tryd.underlying27 info5 rfl (by decide) (by omega) v322 y321 t324 _ _ _ (fun k_ => some k_ ≠ (.slice Ao27 t324.length co27 : Value).ownBlock) (fun _ => False) rfl rfl ?aO ?aR (fun _ _ h => h) (fun _ h => h.elim) ?aF ?aB ?aS ?aL ?_; (case aR => repeat (first | exact (Kd.R_reads' HO326.out).2.2 | (with_reducible refine Kd.C_alloc ?_ _) | (with_reducible refine Kd.C_drewN ?_ _) | (with_reducible refine Kd.C_drew ?_))); (case aB => exact bB); (case aF => exact (fun k_ hk => Kd.fresh' (Kd.R_lt (kR HO326.out)) k_ hk)); (case aO => exact (by (with_reducible repeat (first | apply Kd.R_alloc | apply Kd.R_drewN | apply Kd.R_drew)); exact Kd.R_mono HO323.out (fun _ hk => hk.2))); (case aS => exact (below_size bB)); (case aL => have := LMc18.out; omega); intro v328 w26 ho hb hg hat; rw [← Ny327.out] at ho; have n0_ := Aside0.mk (blk_grown (g := gb311) (o := .cells #[.int .i64 a0_0, .int .i64 a0_1, .int .i64 a0_2, .int .u64 a0_3, .int .u64 a0_4, .int .u64 a0_5] 85 (0, 0)) (kB BK311.out) hg (Kd.R_ne HO323.out BK311.out (by decide))); have n1_ := Aside0.mk (Kd.R_after (ok := (fun _ => True)) (kR HO326.out) hg hat); have n2_ := Aside0.mk (hb); have n3_ := Aside0.mk (ho); clear BK311; clear HO326; clear HB; clear HO323; have BK311 := n0_; have HO326 := n1_; have HB := n2_; have HO329 := n3_; clear n0_ n1_ n2_ n3_; clear ho hb hg hat) | ((with_reducible refine gate_builtin (b := .append) (xs := #[.tmp 31, .tmp 32]) rfl ?_); at_builtin; refine Kd.R_append_rows (Kd.int .u8) (w0 := w) w.heap.size rfl (.tmp 31) (.tmp 32) 27 5 (.int .u8 0) 1 rfl Tryd.underlying27 info5 rfl (by decide) (by omega) v328 y327 l1 _ _ _ (fun k_ => some k_ ≠ (.slice Ao27 t324.length co27 : Value).ownBlock) (fun _ => False) rfl rfl ?aO ?aR (fun _ _ h => h) (fun _ h => h.elim) ?aF ?aB ?aS ?aL ?_; (case aR => repeat (first | exact (Kd.C_below HR1.out HB.out) | (with_reducible refine Kd.C_alloc ?_ _) | (with_reducible refine Kd.C_drewN ?_ _) | (with_reducible refine Kd.C_drew ?_))); (case aB => exact bB); (case aF => exact (fun k_ hk => Kd.fresh' (Kd.R_lt (kR HO326.out)) k_ hk)); (case aO => exact (kR HO329.out)); (case aS => exact (below_size bB)); (case aL => have := LMc19.out; omega); intro v331 w28 ho hb hg hat; rw [← Ny330.out] at ho; have n0_ := Aside0.mk (blk_grown (g := gb311) (o := .cells #[.int .i64 a0_0, .int .i64 a0_1, .int .i64 a0_2, .int .u64 a0_3, .int .u64 a0_4, .int .u64 a0_5] 85 (0, 0)) (kB BK311.out) hg (Kd.R_ne HO329.out BK311.out (by decide))); have n1_ := Aside0.mk (Kd.R_after (ok := (fun _ => True)) (kR HO326.out) hg hat); have n2_ := Aside0.mk (hb); have n3_ := Aside0.mk (ho); clear BK311; clear HO326; clear HB; clear HO329; have BK311 := n0_; have HO326 := n1_; have HB := n2_; have HO332 := n3_; clear n0_ n1_ n2_ n3_; clear ho hb hg hat) | ((with_reducible refine gate_builtin (b := .append) (xs := #[.tmp 33, .tmp 34]) rfl ?_); at_builtin; refine Kd.R_append_rows (Kd.int .u8) (w0 := w) w.heap.size rfl (.tmp 33) (.tmp 34) 27 5 (.int .u8 0) 1 rfl Tryd.underlying27 info5 rfl (by decide) (by omega) v331 y330 l2 _ _ _ (fun k_ => some k_ ≠ (.slice Ao27 t324.length co27 : Value).ownBlock) (fun _ => False) rfl rfl ?aO ?aR (fun _ _ h => h) (fun _ h => h.elim) ?aF ?aB ?aS ?aL ?_; (case aR => repeat (first | exact (Kd.C_below HR2.out HB.out) | (with_reducible refine Kd.C_alloc ?_ _) | (with_reducible refine Kd.C_drewN ?_ _) | (with_reducible refine Kd.C_drew ?_))); (case aB => exact bB); (case aF => exact (fun k_ hk => Kd.fresh' (Kd.R_lt (kR HO326.out)) k_ hk)); (case aO => exact (kR HO332.out)); (case aS => exact (below_size bB)); (case aL => have := LMc20.out; omega); intro v334 w29 ho hb hg hat; rw [← Ny333.out] at ho; have n0_ := Aside0.mk (blk_grown (g := gb311) (o := .cells #[.int .i64 a0_0, .int .i64 a0_1, .int .i64 a0_2, .int .u64 a0_3, .int .u64 a0_4, .int .u64 a0_5] 85 (0, 0)) (kB BK311.out) hg (Kd.R_ne HO332.out BK311.out (by decide))); have n1_ := Aside0.mk (Kd.R_after (ok := (fun _ => True)) (kR HO326.out) hg hat); have n2_ := Aside0.mk (hb); have n3_ := Aside0.mk (ho); clear BK311; clear HO326; clear HB; clear HO332; have BK311 := n0_; have HO326 := n1_; have HB := n2_; have HO335 := n3_; clear n0_ n1_ n2_ n3_; clear ho hb hg hat))
     go_ret
     exact ⟨_, by first | rfl | (simp [errW_none, errW_some] <;> rfl) | (simp [*, errW_none, errW_some] <;> rfl), by (with_reducible repeat (first | apply Kd.R_alloc | apply Kd.R_drewN | apply Kd.R_drew)); exact Kd.R_mono HO335.out (fun _ hk => trivial), bB⟩
    ·rw [if_neg c20] at H
     exact absurd H (by simp)
   ·rw [if_neg c19] at H
    exact absurd H (by simp)
  ·rw [if_neg c18] at H
   exact absurd H (by simp)


/-! ### proof_Nodes_Rehash: function 71 -/
theorem cell_set_far {w : World} {p a : Addr} {u v : Value} (h : w.cell? a = some v) (hne : ¬ a.block = p.block) : (w.setCell p u).cell? a = some v := (World.cell?_of_block (w := w) (w' := w.setCell p u) (Below.heap_setCell w p u a.block hne)).trans h
set_option maxHeartbeats 8000000 in
set_option maxRecDepth 100000 in
theorem proof_Nodes_Rehash.any (k : Nat) (a0 a1 a2 a3 a4 a5 : Int) (fv : Value) (hfv : IsFn Tryd.prog fv 52 (.agg #[.int .i64 a0, .int .i64 a1, .int .i64 a2, .int .u64 a3, .int .u64 a4, .int .u64 a5]))
  (B : Nat) (Ai : Option Addr) (ni ci b e : Nat) (lv ix : Int) (v : Value) (xs r : List (List Int)) (w : World)
  (hR : (Kd.slice 5 (Kd.int .u8)).R 27 w B (fun _ => True) v xs) (hB : B ≤ w.heap.size) (hn : ni = xs.length) (hbe : b ≤ e) (hen : e ≤ xs.length) (hl : xs.length < 1099511627776)
  (h : rhGo (fun l r => impl_toy_HashChildren.f k a0 a1 a2 a3 a4 a5 l r) b e (xs.length + 1) 0 [] xs = some r) :
  Calls Tryd.prog 71 #[.agg #[.slice Ai ni ci, .int .i64 (b : Int), .int .i64 (e : Int), .int .u64 lv, .int .u64 ix], v, fv] w fun e' w' => ∃ v0, e' = .returned (.tuple #[v0, .nilIface]) ∧ (Kd.slice 5 (Kd.int .u8)).R 27 w' B (fun _ => True) v0 r ∧ Below B w w' := by
 subst hn
 obtain ⟨A, c, rfl⟩ := Kd.R_slice hR
 have HR0 := Aside0.mk hR
 have H0 := Aside0.mk h
 have HFV := Aside0.mk hfv
 have HBE := Aside0.mk hbe
 have HEN := Aside0.mk hen
 have HL := Aside0.mk hl
 have HBW := Aside0.mk hB
 clear hR h hfv hbe hen hB
 obtain ⟨w1, hw1⟩ : ∃ w1, w1 = w.alloc (.cells #[.slice Ai xs.length ci, .int .i64 (b : Int), .int .i64 (e : Int), .int .u64 lv, .int .u64 ix] 122) := ⟨_, rfl⟩
 have hb1 : Below w.heap.size w w1 := by rw [hw1]; exact below_alloc (Below.refl _ _) _
 have hk1 : w1.heap[w.heap.size]? = some (.cells #[.slice Ai xs.length ci, .int .i64 (b : Int), .int .i64 (e : Int), .int .u64 lv, .int .u64 ix] 122 (0, 0)) := by rw [hw1]; exact blk_new w _
 have HR1 := Aside0.mk (Kd.R_below HR0.out hb1)
 have HB1 := Aside0.mk (show Below B w w1 from hb1.mono HBW.out)
 have HKx := Aside0.mk hk1
 have HRL := Aside0.mk (fun (j : Nat) (hj : j ≤ xs.length) => (Kd.R_reads' HR0.out).2.1)
 have ec0 : w1.cell? ⟨w.heap.size, 0, none⟩ = some (.slice Ai xs.length ci) := (blk_cell hk1 0).trans rfl
 have hbx : w.heap.size < w1.heap.size := blk_lt hk1
 have HBX := Aside0.mk hbx
 clear HR0 hb1 hk1 hbx
 go_enter Tryd.func71, Tryd.ntmps71
 have hne0 : ((xs.length : Int) != (xs.length : Int)) = false := by simp
 go_upto_region 1 with (fail)
 rw [← hw1]
 clear hw1
 generalize w.heap.size = bx at *
 go_quiet (fail)
 go_wp2
 have HR2 := Aside0.mk (Kd.R_drewN HR1.out nq)
 have HB2 := Aside0.mk (pw_below_drewN HB1.out nq)
 have HK2 := Aside0.mk (show (w1.drewN nq).heap[bx]? = _ from HKx.out)
 clear HR1 HB1 HKx ec0 HBX
 generalize w1.drewN nq = w2 at HR2 HB2 HK2 ⊢
 go_loopg [10, 11] (xs.length + 1) (fun kq v10 v11 w' => ∃ (done xs' rest : List (List Int)) (i fuel : Nat), v10 = .int .i64 (done.length : Int) ∧ v11 = .int .i64 (i : Int) ∧ Aside0 (rest.length < kq) ∧ Aside0 (rhGo (fun l r => impl_toy_HashChildren.f k a0 a1 a2 a3 a4 a5 l r) b e fuel i done rest = some r) ∧ Aside0 (i + rest.length = xs.length ∧ done.length ≤ i) ∧ Aside0 (xs'.take done.length = done ∧ xs'.drop i = rest ∧ xs'.length = xs.length) ∧ Aside0 ((Kd.slice 5 (Kd.int .u8)).R 27 w' B (fun _ => True) (.slice A xs.length c) xs') ∧ Aside0 (w'.heap[bx]? = some (.cells #[.slice Ai xs.length ci, .int .i64 (b : Int), .int .i64 (e : Int), .int .u64 lv, .int .u64 ix] 122 (0, 0))) ∧ Aside0 (Below B w w'))
 case atStart => exact ⟨[], xs, xs, 0, xs.length + 1, rfl, rfl, ⟨Nat.lt_succ_self _⟩, H0, ⟨by simp, Nat.le_refl _⟩, ⟨rfl, rfl, rfl⟩, HR2, HK2, HB2⟩
 case round =>
  clear HR2 HB2 HK2 H0
  obtain ⟨done, xs', rest, i, fuel, rfl, rfl, HQ, HG, HLN, HXS, HR, HKb, HBw⟩ := hrel
  cases gk with
  | zero => exact absurd HQ.out (by omega)
  | succ k1 =>
   have hl2 : (xs.length : Int) < 1099511627776 := by have := HL.out; omega
   by_cases c1 : i < xs.length
   ·cases rest with
    | nil => exact absurd HLN.out.1 (by simp; omega)
    | cons x rest =>
    have hG := HG.out
    cases fuel with
    | zero => simp [rhGo] at hG
    | succ fuel =>
    rw [rhGo] at hG
    have hx : xs'.getD i [] = x := by
     have h1 : (xs'.drop i)[0]? = some x := by rw [HXS.out.2.1]; rfl
     rw [List.getElem?_drop, Nat.add_zero] at h1
     rw [List.getD_eq_getElem?_getD, h1]
     rfl
    have hrest : xs'.drop (i + 1) = rest := by
     rw [← List.drop_drop, HXS.out.2.1]
     rfl
    have hdl : done.length < xs.length := by have := HLN.out.2; omega
    obtain ⟨gh, cg, eA, hBg, hgl, cells, hcl⟩ := row_form2 HR.out (by rw [HXS.out.2.2]; omega)
    obtain ⟨rfl, rfl⟩ : A = some ⟨gh, 0, none⟩ ∧ c = cg := by injection eA with e1 e2 e3; exact ⟨e1, e3⟩
    clear eA
    obtain ⟨Ae, de, ecx, hE⟩ := row_elem2 HR.out i c1
    obtain ⟨Ad, dd, ecd, _⟩ := row_elem2 HR.out done.length hdl
    rw [hx] at ecx hE
    have efd := blk_frozen hcl done.length
    have hgb : gh ≠ bx := blk_ne hcl HKb.out (by decide)
    have ec1 : wr.cell? ⟨bx, 1, none⟩ = some (.int .i64 (b : Int)) := (blk_cell HKb.out 1).trans rfl
    have ec2 : wr.cell? ⟨bx, 2, none⟩ = some (.int .i64 (e : Int)) := (blk_cell HKb.out 2).trans rfl
    have HE := Aside0.mk hE
    have HX := Aside0.mk hx
    have HQ2 := Aside0.mk (show rest.length < k1 from by have := HQ.out; simp only [List.length_cons] at this; omega)
    have HL2 := Aside0.mk (show i + 1 + rest.length = xs.length from by have := HLN.out.1; simp only [List.length_cons] at this; omega)
    have HD2 := Aside0.mk HLN.out.2
    have HRE := Aside0.mk hrest
    have HGB := Aside0.mk hgb
    have HBG := Aside0.mk hBg
    have HDL := Aside0.mk hdl
    have i0 : (0 : Int) ≤ (i : Int) := by omega
    have i1 : (i : Int) < (xs.length : Int) := by omega
    have d0 : (0 : Int) ≤ (done.length : Int) := by omega
    have d1 : (done.length : Int) < (xs.length : Int) := by omega
    clear hE hx hrest hgb hBg hcl hgl HG hdl
    generalize hdn : done.length = dn at ecd efd d0 d1 ⊢
    have HDN := Aside0.mk hdn
    clear hdn
    by_cases c2 : b ≤ i ∧ i < e
    ·rw [if_pos c2] at hG
     obtain ⟨y, hy, hG⟩ := Option.bind_eq_some_iff.mp hG
     have HY := Aside0.mk hy
     have HG := Aside0.mk hG
     clear hy hG
     have b1 : (b : Int) ≤ (i : Int) := by omega
     have b2 : (i : Int) < (e : Int) := by omega
     have he' : (e : Int) ≤ (xs.length : Int) := by have := HEN.out; omega
     have HC2 := Aside0.mk c2
     clear c2
     obtain ⟨wo, hwo⟩ : ∃ wo, wo = wr := ⟨_, rfl⟩
     have hey : (xs'.drop (i + 1)).take (e - (i + 1)) = rest.take (e - i - 1) := by rw [HRE.out, Nat.sub_sub]
     have HY0 := Aside0.mk (show rhFold (fun l r => impl_toy_HashChildren.f k a0 a1 a2 a3 a4 a5 l r) x ((xs'.drop (i + 1)).take (e - (i + 1))) = some y from by rw [hey]; exact HY.out)
     clear hey HY
     go_wp2
     go_loopg [11, 13] (e - i) (fun kq v11 v13 w' => ∃ (acc : List Int) (A13 : Option Addr) (c13 j : Nat), v11 = .int .i64 (j : Int) ∧ v13 = .slice A13 acc.length c13 ∧ Aside0 (kq = e + 1 - j) ∧ Aside0 (i < j ∧ j ≤ e) ∧ Aside0 (rhFold (fun l r => impl_toy_HashChildren.f k a0 a1 a2 a3 a4 a5 l r) acc ((xs'.drop j).take (e - j)) = some y) ∧ Aside0 ((Kd.int .u8).R 5 w' B (fun _ => True) v13 acc) ∧ Aside0 ((Kd.slice 5 (Kd.int .u8)).R 27 w' B (fun _ => True) (.slice (some ⟨gh, 0, none⟩) xs.length c) xs') ∧ Aside0 (w'.heap[bx]? = some (.cells #[.slice Ai xs.length ci, .int .i64 (b : Int), .int .i64 (e : Int), .int .u64 lv, .int .u64 ix] 122 (0, 0))) ∧ Aside0 (Below B w w'))
     case atStart => exact ⟨x, Ae, de, i + 1, by simp, rfl, ⟨by omega⟩, ⟨by have := HC2.out; omega⟩, HY0, HE, HR, HKb, HBw⟩
     case round =>
      subst hwo
      clear HY0 HE HR HKb HBw ecx ecd efd ec1 ec2 b1 b2
      obtain ⟨acc, A13, c13, j, rfl, rfl, HQj, HJ, HY, HE, HR, HKb, HBw⟩ := hrel
      cases gk with
      | zero => exact absurd HQj.out (by have := HJ.out; omega)
      | succ k2 =>
       have ec2 : wr.cell? ⟨bx, 2, none⟩ = some (.int .i64 (e : Int)) := (blk_cell HKb.out 2).trans rfl
       by_cases c3 : j < e
       ·have hjl : j < xs'.length := by rw [HXS.out.2.2]; have := HEN.out; omega
        have hY1 := HY.out
        rw [List.drop_eq_getElem_cons hjl, show e - j = (e - (j + 1)) + 1 by omega, List.take_succ_cons, rhFold] at hY1
        obtain ⟨z, hz, hY⟩ := Option.bind_eq_some_iff.mp hY1
        clear hY1
        obtain ⟨Ax, dx, ecx, hX⟩ := row_elem2 HR.out j (by rw [← HXS.out.2.2]; exact hjl)
        rw [show xs'.getD j [] = xs'[j] by simp [hjl]] at ecx hX
        generalize xs'[j] = xe at ecx hX hz
        have HZ := Aside0.mk hz
        have HN := Aside0.mk hY
        have HX3 := Aside0.mk hX
        have j0 : (0 : Int) ≤ (j : Int) := by omega
        have j1 : (j : Int) < (xs.length : Int) := by have := HEN.out; omega
        have j2 : (j : Int) < (e : Int) := by omega
        clear hY hz hX HY hjl
        go_wp2_with ((with_reducible refine gate_value (x := .tmp 54) rfl ?_); refine callsFv_ (some 60) rfl rfl fv _ HFV.out #[.slice Ax xe.length dx, .slice A13 acc.length c13] #[.agg #[.int .i64 a0, .int .i64 a1, .int .i64 a2, .int .u64 a3, .int .u64 a4, .int .u64 a5], .slice Ax xe.length dx, .slice A13 acc.length c13] rfl rfl (by first | rfl | (simp only [Act.eval]; rfl)) (by (try simp only [List.map_toArray, List.map_cons, List.map_nil]); first | done | rfl) ?_; (with_reducible refine (impl_toy_HashChildren.calls k a0 a1 a2 a3 a4 a5 _ _ xe _ _ acc z _ ?side1 ?side2 ?side3 ?side4 HZ.out).mono ?_); (case side1 => exact (Kd.R_reads' HX3.out).2.2); (case side2 => exact (Kd.R_reads' HX3.out).2.1); (case side3 => exact (Kd.R_reads' HE.out).2.2); (case side4 => exact (Kd.R_reads' HE.out).2.1); rintro e' w4 ⟨v4, rfl, ho4, hb4⟩; refine ⟨_, rfl, ?_⟩; have HO4 := Aside0.mk ho4; have HB4 := Aside0.mk hb4; clear ho4 hb4)
        go_roundg k2
        case measure => have := HQj.out; omega
        case rel =>
         obtain ⟨A4, c4, rfl⟩ := Kd.R_slice HO4.out
         exact ⟨z, A4, c4, j + 1, by simp, rfl, ⟨by have := HQj.out; omega⟩, ⟨by have := HJ.out; omega⟩, HN, ⟨Kd.R_lower HO4.out (Nat.le_trans HBW.out (Nat.le_of_lt (blk_lt HKb.out)))⟩, ⟨Kd.R_below HR.out HB4.out⟩, ⟨blk_below HKb.out HB4.out⟩, ⟨HBw.out.trans (HB4.out.mono (Nat.le_trans HBW.out (Nat.le_of_lt (blk_lt HKb.out))))⟩⟩
       ·have hje : j = e := by have := HJ.out; omega
        subst hje
        have hY := HY.out
        rw [Nat.sub_self, List.take_zero, rhFold] at hY
        injection hY with hY
        subst hY
        have j2 : ¬ (j : Int) < (j : Int) := by omega
        have hjp : IntKind.i64.wrap ((j : Int) - 1) = ((j - 1 : Nat) : Int) := by rw [i64_w]; unfold wrap64; have := HJ.out; omega
        obtain ⟨Ad, dd, ecd, _⟩ := row_elem2 HR.out done.length HDL.out
        obtain ⟨gh', cg', eA, hBg, hgl, cells, hcl⟩ := row_form2 HR.out (by rw [HXS.out.2.2]; have := HDL.out; omega)
        obtain rfl : gh = gh' := by injection eA with e1 e2 e3; injection e1 with e1; injection e1
        have efd := blk_frozen hcl done.length
        rw [HDN.out] at ecd efd
        clear hcl hgl eA hBg HY
        go_wp2
        go_roundg k1
        case measure => omega
        case rel =>
         refine ⟨done ++ [acc], xs'.set done.length acc, rest.drop (j - i - 1), j, fuel, by rw [← HDN.out]; simp, by have := HJ.out; simp; omega, ⟨by have := HQ2.out; simp only [List.length_drop]; omega⟩, HG, ⟨by have := HL2.out; have := HJ.out; have := HEN.out; simp only [List.length_drop]; omega, by rw [List.length_append, List.length_singleton]; have := HD2.out; have := HJ.out; omega⟩, ⟨?_, ?_, ?_⟩, ⟨?_⟩, ⟨?_⟩, ⟨?_⟩⟩
         ·rw [List.length_append, List.length_singleton]; exact put_take HXS.out.1 (by rw [HXS.out.2.2]; exact HDL.out)
         ·rw [put_drop (by have := HD2.out; have := HJ.out; omega), ← HRE.out, List.drop_drop]
          congr 1
          have := HJ.out
          omega
         ·rw [List.length_set]; exact HXS.out.2.2
         ·rw [← HDN.out]; exact R_putrow2 HR.out (by rw [HXS.out.2.2]; exact HDL.out) HE.out
         ·exact blk_far HKb.out (Ne.symm HGB.out) _
         ·exact HBw.out.setCell HBG.out _
    ·rw [if_neg c2] at hG
     have HG := Aside0.mk hG
     clear hG
     by_cases c3 : b ≤ i
     ·have c4 : ¬ i < e := fun h => c2 ⟨c3, h⟩
      have b1 : (b : Int) ≤ (i : Int) := by omega
      have b2 : ¬ (i : Int) < (e : Int) := by omega
      clear c2 c3 c4
      go_wp2
      go_roundg k1
      case measure => omega
      case rel =>
       refine ⟨done ++ [x], xs'.set done.length x, rest, i + 1, fuel, by rw [← HDN.out]; simp, by simp, HQ2, HG, ⟨HL2.out, by rw [List.length_append, List.length_singleton]; have := HD2.out; omega⟩, ⟨?_, ?_, ?_⟩, ⟨?_⟩, ⟨?_⟩, ⟨?_⟩⟩
       ·rw [List.length_append, List.length_singleton]; exact put_take HXS.out.1 (by rw [HXS.out.2.2]; exact HDL.out)
       ·rw [put_drop (by have := HD2.out; omega)]; exact HRE.out
       ·rw [List.length_set]; exact HXS.out.2.2
       ·rw [← HDN.out]; exact R_putrow2 HR.out (by rw [HXS.out.2.2]; exact HDL.out) HE.out
       ·exact blk_far HKb.out (Ne.symm HGB.out) _
       ·exact HBw.out.setCell HBG.out _
     ·have b1 : ¬ (b : Int) ≤ (i : Int) := by omega
      clear c2 c3
      go_wp2
      go_roundg k1
      case measure => omega
      case rel =>
       refine ⟨done ++ [x], xs'.set done.length x, rest, i + 1, fuel, by rw [← HDN.out]; simp, by simp, HQ2, HG, ⟨HL2.out, by rw [List.length_append, List.length_singleton]; have := HD2.out; omega⟩, ⟨?_, ?_, ?_⟩, ⟨?_⟩, ⟨?_⟩, ⟨?_⟩⟩
       ·rw [List.length_append, List.length_singleton]; exact put_take HXS.out.1 (by rw [HXS.out.2.2]; exact HDL.out)
       ·rw [put_drop (by have := HD2.out; omega)]; exact HRE.out
       ·rw [List.length_set]; exact HXS.out.2.2
       ·rw [← HDN.out]; exact R_putrow2 HR.out (by rw [HXS.out.2.2]; exact HDL.out) HE.out
       ·exact blk_far HKb.out (Ne.symm HGB.out) _
       ·exact HBw.out.setCell HBG.out _
   ·have hi : i = xs.length := by have := HLN.out.1; omega
    have hr0 : rest = [] := by have := HLN.out.1; exact List.length_eq_zero_iff.1 (by omega)
    subst hr0
    have hG := HG.out
    cases fuel with
    | zero => simp [rhGo] at hG
    | succ fuel =>
    rw [rhGo] at hG
    injection hG with hG
    subst hG
    subst hi
    have hnlt : ¬ ((xs.length : Int) < (xs.length : Int)) := by omega
    have hcc := (Kd.R_reads' HR.out).2.1
    have hdl := HLN.out.2
    obtain ⟨i0, hi0, hz0⟩ := Option.map_eq_some_iff.1 info27
    simp only [Prod.mk.injEq] at hz0
    have HT0 := (print_take_of (P := Tryd.prog) (Value.int .u8) (0 : Int) 25 27 .i64 Tryd.underlying25 hi0 hz0.2.1 A c (List.replicate xs.length 0) (done.length : Int) (by omega) (by simp; omega) (by rw [List.length_replicate]; omega)).1
    simp only [List.length_replicate, List.length_take, Int.toNat_natCast, Nat.min_eq_left hdl] at HT0
    have HDL := Aside0.mk hdl
    clear hi0 hz0 hdl hcc
    go_wp2
    go_ret2
    refine ⟨_, rfl, ?_, HBw.out⟩
    have hT := Kd.R_take HR.out (m := done.length) (by rw [HXS.out.2.2]; exact HDL.out)
    rw [HXS.out.1] at hT
    exact hT
theorem proof_Nodes_Rehash.end_ : True := trivial


/-! ### impl_ConsistencyHashes: function 36 -/
def impl_ConsistencyHashes.f (k : Nat) (a0_0 a0_1 a0_2 a0_3 a0_4 a0_5 : Int) (a1 a2 : Int) (l3 : List (List Int)) : Option (List (List Int) × Bool) :=
 (proof_Consistency.f k a1 a2).bind fun n => if n.2.2.2.2.2.isNone = true then
  ((impl_texts.f k l3).bind fun l => if l.length = n.1.length ∧ 0 ≤ n.2.1 ∧ n.2.1 ≤ n.2.2.1 ∧ n.2.2.1 ≤ (l.length : Int) ∧ l.length < 1099511627776 then
   ((rhGo (fun l r => impl_toy_HashChildren.f k a0_0 a0_1 a0_2 a0_3 a0_4 a0_5 l r) n.2.1.toNat n.2.2.1.toNat (l.length + 1) 0 [] l).bind fun r => (impl_texts.f k r).bind fun r2 => some (r2, true)) else none)
  else some ([], false)
theorem impl_ConsistencyHashes.mono : ∀ a0_0 a0_1 a0_2 a0_3 a0_4 a0_5 a1 a2 l3 k, LeO (impl_ConsistencyHashes.f k a0_0 a0_1 a0_2 a0_3 a0_4 a0_5 a1 a2 l3) (impl_ConsistencyHashes.f (k + 1) a0_0 a0_1 a0_2 a0_3 a0_4 a0_5 a1 a2 l3) := by
 intro a0_0 a0_1 a0_2 a0_3 a0_4 a0_5 a1 a2 l3 k
 unfold impl_ConsistencyHashes.f
 repeat' first
  | exact proof_Consistency.mono _ _ _
  | exact impl_texts.mono _ _
  | exact rhGo_mono (fun _ _ => impl_toy_HashChildren.mono _ _ _ _ _ _ _ _ _) _ _ _ _ _ _
  | exact LeO.refl _
  | refine LeO.ite ?_ ?_
  | refine LeO.bind ?_ (fun _ => ?_)
def HeldCH (gb gh : Nat) (A2 : Option Addr) (n c2 b e : Nat) (lv ix a0 a1 a2 a3 a4 a5 : Int) (w : World) : Prop :=
 (w.cell? ⟨gb, 0, none⟩ = some (.slice A2 n c2) ∧ w.cell? ⟨gb, 1, none⟩ = some (.int .i64 (b : Int)) ∧ w.cell? ⟨gb, 2, none⟩ = some (.int .i64 (e : Int)) ∧ w.cell? ⟨gb, 3, none⟩ = some (.int .u64 lv) ∧ w.cell? ⟨gb, 4, none⟩ = some (.int .u64 ix)) ∧
  w.cell? ⟨gh, 0, none⟩ = some (.int .i64 a0) ∧ w.cell? ⟨gh, 1, none⟩ = some (.int .i64 a1) ∧ w.cell? ⟨gh, 2, none⟩ = some (.int .i64 a2) ∧ w.cell? ⟨gh, 3, none⟩ = some (.int .u64 a3) ∧ w.cell? ⟨gh, 4, none⟩ = some (.int .u64 a4) ∧ w.cell? ⟨gh, 5, none⟩ = some (.int .u64 a5)
theorem HeldCH.below {gb gh : Nat} {A2 : Option Addr} {n c2 b e : Nat} {lv ix a0 a1 a2 a3 a4 a5 : Int} {w w' : World} {B : Nat} (h : HeldCH gb gh A2 n c2 b e lv ix a0 a1 a2 a3 a4 a5 w) (hb : Below B w w') (h1 : gb < B) (h2 : gh < B) : HeldCH gb gh A2 n c2 b e lv ix a0 a1 a2 a3 a4 a5 w' := by
 obtain ⟨⟨g0, g1, g2, g3, g4⟩, k0, k1, k2, k3, k4, k5⟩ := h
 refine ⟨⟨?_, ?_, ?_, ?_, ?_⟩, ?_, ?_, ?_, ?_, ?_, ?_⟩
 all_goals first
  | exact (hb.cell (p := ⟨gb, 0, none⟩) h1).trans g0 | exact (hb.cell (p := ⟨gb, 1, none⟩) h1).trans g1 | exact (hb.cell (p := ⟨gb, 2, none⟩) h1).trans g2 | exact (hb.cell (p := ⟨gb, 3, none⟩) h1).trans g3 | exact (hb.cell (p := ⟨gb, 4, none⟩) h1).trans g4
  | exact (hb.cell (p := ⟨gh, 0, none⟩) h2).trans k0 | exact (hb.cell (p := ⟨gh, 1, none⟩) h2).trans k1 | exact (hb.cell (p := ⟨gh, 2, none⟩) h2).trans k2 | exact (hb.cell (p := ⟨gh, 3, none⟩) h2).trans k3 | exact (hb.cell (p := ⟨gh, 4, none⟩) h2).trans k4 | exact (hb.cell (p := ⟨gh, 5, none⟩) h2).trans k5
theorem toy_func (v : Value) : IsFn Tryd.prog (.func (.func 52) #[v] #[]) 52 v := isFn_func Tryd.func52 (by kernel_rfl) rfl v
set_option maxHeartbeats 8000000 in
set_option maxRecDepth 100000 in
theorem impl_ConsistencyHashes.calls (k : Nat) (a0_0 a0_1 a0_2 a0_3 a0_4 a0_5 : Int) (a1 a2 : Int) (A3 : Option Addr) (c3 : Nat) (l3 : List (List Int)) (r1 : List (List Int)) (r2 : Bool) (w : World) (hT : TabOK w)
  (hr3 : Kd.C (Kd.slice 5 (Kd.int .u8)) w A3 l3.length l3) (hc3 : l3.length ≤ c3) (h : impl_ConsistencyHashes.f k a0_0 a0_1 a0_2 a0_3 a0_4 a0_5 a1 a2 l3 = some (r1, r2)) :
  Calls Tryd.prog 36 #[.agg #[.int .i64 a0_0, .int .i64 a0_1, .int .i64 a0_2, .int .u64 a0_3, .int .u64 a0_4, .int .u64 a0_5], .int .u64 a1, .int .u64 a2, .slice A3 l3.length c3] w fun e w' => ∃ v0_ : Value, e = .returned (.tuple #[v0_, .bool r2]) ∧ Kd.S (Kd.slice 5 (Kd.int .u8)) 27 w' w.heap.size (fun _ => True) v0_ r1 ∧ Below w.heap.size w w' := by
 have HTab := Aside0.mk hT
 have HR3 := Aside0.mk hr3
 have HC3 := Aside0.mk hc3
 clear hT hr3 hc3
 unfold impl_ConsistencyHashes.f at h
 obtain ⟨⟨ids, b, e, lv, ix, er⟩, hn, h⟩ := Option.bind_eq_some_iff.mp h
 have HN := Aside0.mk hn
 clear hn
 dsimp only at h
 obtain ⟨w1, hw1⟩ : ∃ w1, w1 = w.alloc (.cells #[.int .i64 a0_0, .int .i64 a0_1, .int .i64 a0_2, .int .u64 a0_3, .int .u64 a0_4, .int .u64 a0_5] 24) := ⟨_, rfl⟩
 have hb1 : Below w.heap.size w w1 := by rw [hw1]; exact below_alloc (Below.refl _ _) _
 have hk1 : w1.heap[w.heap.size]? = some (.cells #[.int .i64 a0_0, .int .i64 a0_1, .int .i64 a0_2, .int .u64 a0_3, .int .u64 a0_4, .int .u64 a0_5] 24 (0, 0)) := by rw [hw1]; exact blk_new w _
 have HB1 := Aside0.mk hb1
 have HK1 := Aside0.mk hk1
 have HT1 := Aside0.mk (TabOK.below HTab.out hb1)
 clear hb1 hk1
 cases er with
 | some q =>
  simp only [Option.isNone_some, Bool.false_eq_true, if_false, Option.some.injEq, Prod.mk.injEq] at h
  obtain ⟨rfl, rfl⟩ := h
  go_enter Tryd.func36, Tryd.ntmps36
  go_upto_region 1 with (fail)
  rw [← hw1]
  clear hw1
  go_wp2_with (go_at_call 69; (with_reducible refine (proof_Consistency.calls k a1 a2 ids b e lv ix (some q) w1 HT1.out HN.out).mono ?_); rintro e' w2 ⟨T_, X_, v2, rfl, hV2, hB2⟩; obtain ⟨A2, c2, rfl⟩ := Kd.V_slice hV2; have HB2 := Aside0.mk (below_step HB1.out hB2); clear hV2 hB2; simp only [errW_some])
  go_ret2
  exact ⟨_, rfl, Kd.S_nil _ _ _ _ _, by repeat (first | exact HB2.out | apply below_alloc | refine Below.setCell ?_ (Nat.le_of_lt ?_) _)⟩
 | none =>
  simp only [Option.isNone_none, if_true] at h
  obtain ⟨l, hl, h⟩ := Option.bind_eq_some_iff.mp h
  by_cases c1 : l.length = ids.length ∧ 0 ≤ b ∧ b ≤ e ∧ e ≤ (l.length : Int) ∧ l.length < 1099511627776
  case neg => rw [if_neg c1] at h; exact absurd h (by simp)
  rw [if_pos c1] at h
  obtain ⟨e1, e2, e3, e4, e5⟩ := c1
  obtain ⟨b, rfl⟩ : ∃ n : Nat, b = (n : Int) := ⟨b.toNat, by omega⟩
  obtain ⟨e, rfl⟩ : ∃ n : Nat, e = (n : Int) := ⟨e.toNat, by omega⟩
  rw [Int.toNat_natCast, Int.toNat_natCast] at h
  obtain ⟨r, hr, h⟩ := Option.bind_eq_some_iff.mp h
  obtain ⟨q, hq, h⟩ := Option.bind_eq_some_iff.mp h
  simp only [Option.some.injEq, Prod.mk.injEq] at h
  obtain ⟨rfl, rfl⟩ := h
  have HL := Aside0.mk hl
  have HRr := Aside0.mk hr
  have HQ := Aside0.mk hq
  have E1 := Aside0.mk e1
  have E3 := Aside0.mk (show b ≤ e by omega)
  have E4 := Aside0.mk (show e ≤ l.length by omega)
  have E5 := Aside0.mk e5
  clear hl hr hq e1 e2 e3 e4 e5
  go_enter Tryd.func36, Tryd.ntmps36
  go_upto_region 1 with (fail)
  rw [← hw1]
  clear hw1
  go_wp2_with (first
   | (go_at_call 69; (with_reducible refine (proof_Consistency.calls k a1 a2 ids b e lv ix none w1 HT1.out HN.out).mono ?_); rintro e' w2 ⟨T_, X_, v2, rfl, hV2, hB2⟩; obtain ⟨A2, c2, rfl⟩ := Kd.V_slice hV2; have HB2 := Aside0.mk (below_step HB1.out hB2); have HK2 := Aside0.mk (blk_below HK1.out hB2); clear hV2 hB2; simp only [errW_none])
   | ((with_reducible refine gate_dst (N := 10) rfl ?_); refine box_event ?hg (N := 10) ?hd (cs := #[.slice none 0 0, .int .i64 0, .int .i64 0, .int .u64 0, .int .u64 0]) (t := 122) ?hr ?_; (case hd => rfl); (case hg => rfl); (case hr => first | (go_simp; done) | (go_simp; rfl)); intro gb hg w3 hbox hb; have HB3 := Aside0.mk (below_step HB2.out hb); have HK3 := Aside0.mk (blk_below HK2.out hb); have BK := Aside0.mk hbox; have GB := Aside0.mk (show w.heap.size < gb from by rw [hg]; exact blk_lt HK2.out); have f0 := blk_frozen hbox 0; have g0 : w3.cell? ⟨gb, 0, none⟩ = some (.slice none 0 0) := (blk_cell hbox 0).trans rfl; have f1 := blk_frozen hbox 1; have g1 : w3.cell? ⟨gb, 1, none⟩ = some (.int .i64 0) := (blk_cell hbox 1).trans rfl; have f2 := blk_frozen hbox 2; have g2 : w3.cell? ⟨gb, 2, none⟩ = some (.int .i64 0) := (blk_cell hbox 2).trans rfl; have f3 := blk_frozen hbox 3; have g3 : w3.cell? ⟨gb, 3, none⟩ = some (.int .u64 0) := (blk_cell hbox 3).trans rfl; have f4 := blk_frozen hbox 4; have g4 : w3.cell? ⟨gb, 4, none⟩ = some (.int .u64 0) := (blk_cell hbox 4).trans rfl; clear hg hbox hb))
  clear f0 f1 f2 f3 f4 g0 g1 g2 g3 g4
  obtain ⟨w5, hw5⟩ : ∃ w5, w5 = ((((w3.setCell ⟨gb, 0, none⟩ (.slice A2 ids.length c2)).setCell ⟨gb, 1, none⟩ (.int .i64 (b : Int))).setCell ⟨gb, 2, none⟩ (.int .i64 (e : Int))).setCell ⟨gb, 3, none⟩ (.int .u64 lv)).setCell ⟨gb, 4, none⟩ (.int .u64 ix) := ⟨_, rfl⟩
  rw [← hw5]
  have K5 : w5.heap[gb]? = some (.cells #[.slice A2 ids.length c2, .int .i64 (b : Int), .int .i64 (e : Int), .int .u64 lv, .int .u64 ix] 122 (0, 0)) := by
   rw [hw5]
   exact blk_put (blk_put (blk_put (blk_put (blk_put BK.out 0 _ rfl) 1 _ rfl) 2 _ rfl) 3 _ rfl) 4 _ rfl
  have hgn : w.heap.size ≠ gb := Nat.ne_of_lt GB.out
  have KH : w5.heap[w.heap.size]? = some (.cells #[.int .i64 a0_0, .int .i64 a0_1, .int .i64 a0_2, .int .u64 a0_3, .int .u64 a0_4, .int .u64 a0_5] 24 (0, 0)) := by
   rw [hw5]
   exact blk_far (blk_far (blk_far (blk_far (blk_far HK3.out hgn _) hgn _) hgn _) hgn _) hgn _
  have hB5 : Below w.heap.size w w5 := by
   rw [hw5]
   have := Nat.le_of_lt GB.out
   exact ((((HB3.out.setCell this _).setCell this _).setCell this _).setCell this _).setCell this _
  clear hw5 hgn
  have HB5 := Aside0.mk hB5
  have HKg := Aside0.mk K5
  have HKh := Aside0.mk KH
  have HC5 := Aside0.mk (Kd.C_below HR3.out hB5)
  have hgl := blk_lt K5
  have hhl := blk_lt KH
  generalize hgw : w.heap.size = gh at *
  have HGW := Aside0.mk hgw
  clear hgw
  have g0 := (blk_cell K5 0).trans rfl
  have g1 : w5.cell? ⟨gb, 1, none⟩ = some (.int .i64 (b : Int)) := (blk_cell K5 1).trans rfl
  have g2 : w5.cell? ⟨gb, 2, none⟩ = some (.int .i64 (e : Int)) := (blk_cell K5 2).trans rfl
  have g3 : w5.cell? ⟨gb, 3, none⟩ = some (.int .u64 lv) := (blk_cell K5 3).trans rfl
  have g4 : w5.cell? ⟨gb, 4, none⟩ = some (.int .u64 ix) := (blk_cell K5 4).trans rfl
  have h0 : w5.cell? ⟨gh, 0, none⟩ = some (.int .i64 a0_0) := (blk_cell KH 0).trans rfl
  have h1 : w5.cell? ⟨gh, 1, none⟩ = some (.int .i64 a0_1) := (blk_cell KH 1).trans rfl
  have h2 : w5.cell? ⟨gh, 2, none⟩ = some (.int .i64 a0_2) := (blk_cell KH 2).trans rfl
  have h3 : w5.cell? ⟨gh, 3, none⟩ = some (.int .u64 a0_3) := (blk_cell KH 3).trans rfl
  have h4 : w5.cell? ⟨gh, 4, none⟩ = some (.int .u64 a0_4) := (blk_cell KH 4).trans rfl
  have h5 : w5.cell? ⟨gh, 5, none⟩ = some (.int .u64 a0_5) := (blk_cell KH 5).trans rfl
  replace g0 : w5.cell? ⟨gb, 0, none⟩ = some (.slice A2 ids.length c2) := g0
  have hmf : ∀ (fn : Fn) (first cap : Array Value) (w : World), (Instr.makeFunc fn first cap).run Tryd.prog w = .ok (.func fn first cap) w := fun _ _ _ _ => rfl
  clear K5 KH hB5
  have HGL := Aside0.mk hgl
  have HHL := Aside0.mk hhl
  clear hgl hhl
  have hS : HeldCH gb gh A2 ids.length c2 b e lv ix a0_0 a0_1 a0_2 a0_3 a0_4 a0_5 w5 := ⟨⟨g0, g1, g2, g3, g4⟩, h0, h1, h2, h3, h4, h5⟩
  have HS := Aside0.mk hS
  clear hS
  go_region_held3 (fun w' => (w'.cell? ⟨gb, 0, none⟩ = some (.slice A2 ids.length c2) ∧ w'.cell? ⟨gb, 1, none⟩ = some (.int .i64 (b : Int)) ∧ w'.cell? ⟨gb, 2, none⟩ = some (.int .i64 (e : Int)) ∧ w'.cell? ⟨gb, 3, none⟩ = some (.int .u64 lv) ∧ w'.cell? ⟨gb, 4, none⟩ = some (.int .u64 ix)) ∧ w'.cell? ⟨gh, 0, none⟩ = some (.int .i64 a0_0) ∧ w'.cell? ⟨gh, 1, none⟩ = some (.int .i64 a0_1) ∧ w'.cell? ⟨gh, 2, none⟩ = some (.int .i64 a0_2) ∧ w'.cell? ⟨gh, 3, none⟩ = some (.int .u64 a0_3) ∧ w'.cell? ⟨gh, 4, none⟩ = some (.int .u64 a0_4) ∧ w'.cell? ⟨gh, 5, none⟩ = some (.int .u64 a0_5)) (first | exact HS7.out | exact HS6.out | go_keep)
   (first
    | (go_at_call 46; (with_reducible refine (impl_texts.calls k A3 c3 l3 l _ ?side1 HC3.out HL.out).mono ?_); (case side1 => first | exact HC5.out | exact Kd.C_drew HC5.out | exact Kd.C_drewN HC5.out _); rintro e' w6 ⟨v6, rfl, hS6, hB6⟩; have hb6 : Below w5.heap.size w5 w6 := (by first | exact hB6 | exact below_step (below_drew (Below.refl _ _)) hB6 | exact below_step (pw_below_drewN (Below.refl _ _) _) hB6); have HB6 := Aside0.mk hb6; have HS6 := Aside0.mk (HS.out.below hb6 HGL.out HHL.out); have HR6 := Aside0.mk (show (Kd.slice 5 (Kd.int .u8)).R 27 w6 w5.heap.size (fun _ => True) v6 l from Kd.S_R hS6); clear hS6 hB6 hb6)
    | (go_at_call 71; (with_reducible refine (proof_Nodes_Rehash.any k a0_0 a0_1 a0_2 a0_3 a0_4 a0_5 _ (toy_func _) w5.heap.size A2 ids.length c2 b e lv ix v6 l r _ ?side1 ?side2 E1.out.symm E3.out E4.out E5.out HRr.out).mono ?_); (case side1 => first | exact HR6.out | exact Kd.R_drew HR6.out | exact Kd.R_drewN HR6.out _); (case side2 => exact HB6.out.size); rintro e' w7 ⟨v7, rfl, hR7, hB7⟩; obtain ⟨A7, c7, rfl⟩ := Kd.R_slice hR7; have hb7 : Below w5.heap.size w5 w7 := (by first | exact HB6.out.trans hB7 | exact (below_drew HB6.out).trans hB7 | exact (pw_below_drewN HB6.out _).trans hB7); have HB7 := Aside0.mk hb7; have HS7 := Aside0.mk (HS.out.below hb7 HGL.out HHL.out); have HR7 := Aside0.mk hR7; clear hR7 hB7 hb7))
  all_goals
   go_wp2
   go_region_held3 (fun _ => True) (trivial)
    ((go_at_call 46; (with_reducible refine (impl_texts.calls k A7 c7 r q _ ?side1 ?side2 HQ.out).mono ?_); (case side1 => first | exact (Kd.R_reads' HR7.out).2.2 | exact Kd.C_drew (Kd.R_reads' HR7.out).2.2 | exact Kd.C_drewN (Kd.R_reads' HR7.out).2.2 _); (case side2 => exact (Kd.R_reads' HR7.out).2.1); rintro e' w8 ⟨v8, rfl, hS8, hB8⟩; have hb8 : Below w7.heap.size w7 w8 := (by first | exact hB8 | exact below_step (below_drew (Below.refl _ _)) hB8 | exact below_step (pw_below_drewN (Below.refl _ _) _) hB8); have HB8 := Aside0.mk (HB7.out.trans (hb8.mono HB7.out.size)); have HS8 := Aside0.mk (show Kd.S (Kd.slice 5 (Kd.int .u8)) 27 w8 w7.heap.size (fun _ => True) v8 q from hS8); clear hS8 hB8 hb8))
   all_goals
    go_wp2
    go_ret2
    have hgw := HGW.out
    subst hgw
    have h5 := HB5.out.size
    have h7 := HB7.out.size
    refine ⟨_, rfl, ?_, ?_⟩
    ·first
      | exact Kd.S_lower HS8.out (Nat.le_trans h5 h7)
      | exact Kd.S_drew (Kd.S_lower HS8.out (Nat.le_trans h5 h7))
      | exact Kd.S_drewN (Kd.S_lower HS8.out (Nat.le_trans h5 h7)) _
    ·first
      | exact HB5.out.trans (HB8.out.mono h5)
      | exact below_drew (HB5.out.trans (HB8.out.mono h5))
      | exact pw_below_drewN (HB5.out.trans (HB8.out.mono h5)) _

end Go.Proofs.YtkmdkmlgahfcpaaDoor.M

