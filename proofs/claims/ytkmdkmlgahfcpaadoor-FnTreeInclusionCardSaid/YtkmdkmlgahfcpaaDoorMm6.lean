-- Written by a program of ours (wip/xp) out of the translation; Lean checks it.
import Derived.Test.YtkmdkmlgahfcpaaDoorSq
import Derived.Test.YtkmdkmlgahfcpaaDoorMm1
import Derived.Test.YtkmdkmlgahfcpaaDoorMm5
namespace Go.Proofs.YtkmdkmlgahfcpaaDoor.M
open Go.RowKit Go.Proofs.YtkmdkmlgahfcpaaDoorW.PrintWords Go.Proofs.YtkmdkmlgahfcpaaDoorW.PrintLast Go.Proofs.YtkmdkmlgahfcpaaDoorW.PrintMore
attribute [local go_sem] max2_int min2_int max_two min_two max_three min_three max_four min_four   -- for this text's walks alone
set_option linter.unusedVariables false
set_option linter.unusedSimpArgs false

/-! ### impl_toy_HashChildren: function 52 -/
def impl_toy_HashChildren.f (k : Nat) (a0_0 : Int) (a0_1 : Int) (a0_2 : Int) (a0_3 : Int) (a0_4 : Int) (a0_5 : Int) (l1 : List Int) (l2 : List Int) : Option (List Int) := if a0_0 = 1 then ((impl_mixed.f k a0_5 l1).bind fun t230 => ((impl_mixed.f k t230 (([255] : List Int))).bind fun t234 => ((impl_mixed.f k t234 l2).bind fun t235 => ((impl_word.f k t235 a0_2).bind fun t236 => (some t236))))) else ((some (([1] : List Int) : List Int)).bind fun y239 => ((impl_word.f k (IntKind.u64.wrap ((l1.length : Int))) 8).bind fun t242 => (if y239.length + t242.length < 140737488355328 then ((some (y239 ++ t242 : List Int)).bind fun y245 => (if y245.length + l1.length < 140737488355328 then ((some (y245 ++ l1 : List Int)).bind fun y248 => (if y248.length + l2.length < 140737488355328 then (some (y248 ++ l2)) else (none))) else (none))) else (none))))
theorem impl_toy_HashChildren.mono : ∀ a0 a1 a2 a3 a4 a5 a6 a7 k, LeO (impl_toy_HashChildren.f k a0 a1 a2 a3 a4 a5 a6 a7) (impl_toy_HashChildren.f (k + 1) a0 a1 a2 a3 a4 a5 a6 a7) := by
 intro a0 a1 a2 a3 a4 a5 a6 a7 k
 unfold impl_toy_HashChildren.f
 repeat' first
   | (with_reducible exact impl_mixed.mono _ _ _)
   | (with_reducible exact impl_word.mono _ _ _)
   | (with_reducible exact LeO.refl _)
   | (with_reducible exact LeO.none _)
   | (with_reducible refine LeO.ite ?_ ?_)
   | (with_reducible refine LeO.bind ?_ (fun _ => ?_))
   | exact impl_mixed.mono _ _ _
   | exact impl_word.mono _ _ _
   | exact LeO.none _
   | refine LeO.ite ?_ ?_
   | refine LeO.bind ?_ (fun _ => ?_)
def impl_toy_HashChildren.T2 : Bool × List (List Nat × List Nat) := (true, [([], []), ([0], [0]), ([1], [1]), ([], []), ([2, 3], [2, 3]), ([], []), ([4, 5, 4], [4, 5]), ([], []), ([6, 7, 6], [6, 7]), ([], []), ([9], [9]), ([10], [10]), ([8, 11, 8], [8, 11]), ([12, 12, 0, 1, 2, 3, 4, 5, 6, 7, 8, 9, 10, 11, 12], [12])])
def impl_toy_HashChildren.B2 : List Nat := [0, 1, 3, 0, 15, 0, 63, 0, 255, 0, 512, 1536, 4095, 8191]
theorem impl_toy_HashChildren.tab2 : rtab .any (opsOf Tryd.f52 2) = impl_toy_HashChildren.T2 := by kernel_rfl
theorem impl_toy_HashChildren.bits2 : waitsOk impl_toy_HashChildren.T2.2 impl_toy_HashChildren.B2 = true := by kernel_rfl
set_option maxHeartbeats 8000000 in
set_option maxRecDepth 100000 in
theorem impl_toy_HashChildren.calls (k : Nat) (a0_0 : Int) (a0_1 : Int) (a0_2 : Int) (a0_3 : Int) (a0_4 : Int) (a0_5 : Int) (A1 : Option Addr) (c1 : Nat) (l1 : List Int) (A2 : Option Addr) (c2 : Nat) (l2 : List Int) (r : List Int) (w : World) (hr1 : Kd.C (Kd.int .u8) w A1 l1.length l1) (hc1 : l1.length ≤ c1) (hr2 : Kd.C (Kd.int .u8) w A2 l2.length l2) (hc2 : l2.length ≤ c2) (h : impl_toy_HashChildren.f k a0_0 a0_1 a0_2 a0_3 a0_4 a0_5 l1 l2 = some r) :
  Calls Tryd.prog 52 #[.agg #[.int .i64 a0_0, .int .i64 a0_1, .int .i64 a0_2, .int .u64 a0_3, .int .u64 a0_4, .int .u64 a0_5], .slice A1 l1.length c1, .slice A2 l2.length c2] w fun e w' => ∃ v0_ : Value, e = .returned (v0_) ∧ Kd.R (Kd.int .u8) 5 w' w.heap.size (fun _ => True) v0_ r ∧ Below w.heap.size w w' := by
 have hu85 := Tryd.underlying85
 have HR1 := Aside0.mk hr1
 have HC1 := Aside0.mk hc1
 clear hr1 hc1
 have HR2 := Aside0.mk hr2
 have HC2 := Aside0.mk hc2
 clear hr2 hc2
 have HB := Aside0.mk (Below.refl w.heap.size w)
 have H : (if a0_0 = 1 then ((impl_mixed.f k a0_5 l1).bind fun t230 => ((impl_mixed.f k t230 (([255] : List Int))).bind fun t234 => ((impl_mixed.f k t234 l2).bind fun t235 => ((impl_word.f k t235 a0_2).bind fun t236 => (some t236))))) else ((some (([1] : List Int) : List Int)).bind fun y239 => ((impl_word.f k (IntKind.u64.wrap ((l1.length : Int))) 8).bind fun t242 => (if y239.length + t242.length < 140737488355328 then ((some (y239 ++ t242 : List Int)).bind fun y245 => (if y245.length + l1.length < 140737488355328 then ((some (y245 ++ l1 : List Int)).bind fun y248 => (if y248.length + l2.length < 140737488355328 then (some (y248 ++ l2)) else (none))) else (none))) else (none))))) = some r := h
 clear h
 by_cases c4 : a0_0 = 1
 ·rw [if_pos c4] at H
  have c4b0 : (a0_0 == 1) = true := beq_iff_eq.mpr c4
  have c4b1 : (a0_0 != 1) = false := bne_eq_false_iff_eq.mpr c4
  clear c4
  replace H := Option.bind_eq_some_iff.mp H
  obtain ⟨t230, A50, H⟩ := H
  replace H : ((impl_mixed.f k t230 (([255] : List Int))).bind fun t234 => ((impl_mixed.f k t234 l2).bind fun t235 => ((impl_word.f k t235 a0_2).bind fun t236 => (some t236)))) = some r := H
  have A5 := Aside0.mk A50
  clear A50
  obtain ⟨y231, hy231⟩ : ∃ y_ : List Int, y_ = (([255] : List Int)) := ⟨_, rfl⟩
  replace H : ((impl_mixed.f k t230 y231).bind fun t234 => ((impl_mixed.f k t234 l2).bind fun t235 => ((impl_word.f k t235 a0_2).bind fun t236 => (some t236)))) = some r := by first | (rw [hy231]; with_reducible exact H) | (have H2_ := (Option.bind_some _ _).symm.trans H; rw [hy231]; with_reducible exact H2_) | (have H2_ := (Option.bind_some _ _).symm.trans H; with_reducible exact H2_) | with_reducible exact H | (rw [hy231]; exact H) | exact H
  have Ny231 := Aside0.mk hy231
  clear hy231
  replace H := Option.bind_eq_some_iff.mp H
  obtain ⟨t234, A60, H⟩ := H
  replace H : ((impl_mixed.f k t234 l2).bind fun t235 => ((impl_word.f k t235 a0_2).bind fun t236 => (some t236))) = some r := H
  have A6 := Aside0.mk A60
  clear A60
  replace H := Option.bind_eq_some_iff.mp H
  obtain ⟨t235, A70, H⟩ := H
  replace H : ((impl_word.f k t235 a0_2).bind fun t236 => (some t236)) = some r := H
  have A7 := Aside0.mk A70
  clear A70
  replace H := Option.bind_eq_some_iff.mp H
  obtain ⟨t236, A80, H⟩ := H
  replace H : (some t236) = some r := H
  have A8 := Aside0.mk A80
  clear A80
  obtain rfl := Option.some.inj H
  go_enter Tryd.func52, Tryd.ntmps52
  try go_wp2_with (first | ((with_reducible refine gate_dst (N := 3) rfl ?_); refine box_event ?hg (N := 3) ?hd (cs := #[.int .i64 a0_0, .int .i64 a0_1, .int .i64 a0_2, .int .u64 a0_3, .int .u64 a0_4, .int .u64 a0_5]) (t := 85) ?hr ?_; (case hd => rfl); (case hg => rfl); (case hr => first | (go_simp; done) | (go_simp; rfl)); intro gb229 hg w9 hbox hb; have n0_ := Aside0.mk (below_step bB hb); have n1_ := Aside0.mk (hbox); have n2_ := Aside0.mk ((by rw [hg]; exact (below_size bB) : w.heap.size ≤ gb229)); have n3_ := Aside0.mk ((by rw [hg]; exact (below_size bB) : w.heap.size ≤ gb229)); clear HB; have HB := n0_; have BK229 := n1_; have GW229 := n2_; have GE229 := n3_; clear n0_ n1_ n2_ n3_; clear hb hbox hg; have hcz10_0 : w9.cell? ⟨gb229, 0, none⟩ = some (.int .i64 a0_0) := (blk_cell BK229.out 0).trans rfl; have hcz10_1 : w9.cell? ⟨gb229, 1, none⟩ = some (.int .i64 a0_1) := (blk_cell BK229.out 1).trans rfl; have hcz10_2 : w9.cell? ⟨gb229, 2, none⟩ = some (.int .i64 a0_2) := (blk_cell BK229.out 2).trans rfl; have hcz10_3 : w9.cell? ⟨gb229, 3, none⟩ = some (.int .u64 a0_3) := (blk_cell BK229.out 3).trans rfl; have hcz10_4 : w9.cell? ⟨gb229, 4, none⟩ = some (.int .u64 a0_4) := (blk_cell BK229.out 4).trans rfl; have hcz10_5 : w9.cell? ⟨gb229, 5, none⟩ = some (.int .u64 a0_5) := (blk_cell BK229.out 5).trans rfl; have hfz10_0 := blk_frozen BK229.out 0; have hfz10_1 := blk_frozen BK229.out 1; have hfz10_2 := blk_frozen BK229.out 2; have hfz10_3 := blk_frozen BK229.out 3; have hfz10_4 := blk_frozen BK229.out 4; have hfz10_5 := blk_frozen BK229.out 5))
  have n0_ := Aside0.mk (blk_drew BK229.out)
  have n1_ := Aside0.mk (below_drew1 HB.out)
  clear BK229
  clear HB
  have BK229 := n0_
  have HB := n1_
  clear n0_ n1_
  refine start_ (n := 14) (S := fun w' => w'.cell? ⟨gb229, 0, none⟩ = some (.int .i64 a0_0) ∧ w'.cell? ⟨gb229, 1, none⟩ = some (.int .i64 a0_1) ∧ w'.cell? ⟨gb229, 2, none⟩ = some (.int .i64 a0_2) ∧ w'.cell? ⟨gb229, 3, none⟩ = some (.int .u64 a0_3) ∧ w'.cell? ⟨gb229, 4, none⟩ = some (.int .u64 a0_4) ∧ w'.cell? ⟨gb229, 5, none⟩ = some (.int .u64 a0_5)) (ds := []) #[false, false, false, false, false, false, false, false, false, false, false, false, false, false] (by kernel_rfl) rfl rfl ⟨(blk_cell BK229.out 0).trans rfl, (blk_cell BK229.out 1).trans rfl, (blk_cell BK229.out 2).trans rfl, (blk_cell BK229.out 3).trans rfl, (blk_cell BK229.out 4).trans rfl, (blk_cell BK229.out 5).trans rfl⟩ (fun hHeld => ?_); refine with_tabW impl_toy_HashChildren.tab2 impl_toy_HashChildren.bits2 (fun HT_ HW_ => ?_)
  generalize w9.drew = w11 at BK229 HB hHeld ⊢
  refine pure_ (i := 0) (N := some 12) (v := ?_) (a' := ?_) #[true, false, false, false, false, false, false, false, false, false, false, false, false, false] rfl rfl (any_of HT_.out (by kernel_rfl)) (fun _ _ _ h => h) (Or.inl ⟨by rfl, ?_⟩) ?_ ?_
  rotate_left
  ·intro w'
   go_simp
   with_reducible rfl
  rotate_left
  ·simp only [Act.put, List.setIfInBounds_toArray, List.set_cons_zero, List.set_cons_succ, i64_w, i32_w]
   rfl
  refine pure_ (i := 1) (N := some 13) (v := ?_) (a' := ?_) #[true, true, false, false, false, false, false, false, false, false, false, false, false, false] rfl rfl (any_of HT_.out (by kernel_rfl)) (fun _ _ _ h => h) (Or.inl ⟨by rfl, ?_⟩) ?_ ?_
  rotate_left
  ·intro w'
   go_simp
   with_reducible rfl
  rotate_left
  ·simp only [Act.put, List.setIfInBounds_toArray, List.set_cons_zero, List.set_cons_succ, i64_w, i32_w]
   rfl
  refine pure_ (i := 3) (N := some 15) (v := ?_) (a' := ?_) #[true, true, false, true, false, false, false, false, false, false, false, false, false, false] rfl rfl (any_of HT_.out (by kernel_rfl)) (fun _ _ _ h => h) (Or.inl ⟨by rfl, ?_⟩) ?_ ?_
  rotate_left
  ·intro w'
   go_simp
   with_reducible rfl
  rotate_left
  ·simp only [Act.put, List.setIfInBounds_toArray, List.set_cons_zero, List.set_cons_succ, i64_w, i32_w]
   rfl
  refine pure_ (i := 7) (N := some 19) (v := ?_) (a' := ?_) #[true, true, false, true, false, false, false, true, false, false, false, false, false, false] rfl rfl (any_of HT_.out (by kernel_rfl)) (fun _ _ _ h => h) (Or.inl ⟨by rfl, ?_⟩) ?_ ?_
  rotate_left
  ·intro w'
   go_simp
   with_reducible rfl
  rotate_left
  ·simp only [Act.put, List.setIfInBounds_toArray, List.set_cons_zero, List.set_cons_succ, i64_w, i32_w]
   rfl
  refine pure_ (i := 9) (N := some 21) (v := ?_) (a' := ?_) #[true, true, false, true, false, false, false, true, false, true, false, false, false, false] rfl rfl (any_of HT_.out (by kernel_rfl)) (fun _ _ _ h => h) (Or.inl ⟨by rfl, ?_⟩) ?_ ?_
  rotate_left
  ·intro w'
   go_simp
   with_reducible rfl
  rotate_left
  ·simp only [Act.put, List.setIfInBounds_toArray, List.set_cons_zero, List.set_cons_succ, i64_w, i32_w]
   rfl
  refine pure_ (i := 10) (N := some 22) (v := ?_) (a' := ?_) #[true, true, false, true, false, false, false, true, false, true, true, false, false, false] rfl rfl (any_of HT_.out (by kernel_rfl)) (fun _ _ _ h => h) (Or.inl ⟨by rfl, ?_⟩) ?_ ?_
  rotate_left
  ·intro w'
   go_simp
   with_reducible rfl
  rotate_left
  ·simp only [Act.put, List.setIfInBounds_toArray, List.set_cons_zero, List.set_cons_succ, i64_w, i32_w]
   rfl
  refine take_ (i := 2) (N := some 14) (v := ?_) (a' := ?_) #[true, true, true, true, false, false, false, true, false, true, true, false, false, false] rfl rfl (take_ofW HT_.out HW_.out (by kernel_rfl)) (fun _ _ _ h => h) (Or.inl ⟨by rfl, ?_⟩) hHeld ?_ ?_
  rotate_left
  ·rintro w' ⟨s0, s1, s2, s3, s4, s5⟩
   go_simp
   with_reducible rfl
  rotate_left
  ·simp only [Act.put, List.setIfInBounds_toArray, List.set_cons_zero, List.set_cons_succ, i64_w, i32_w]
   rfl
  refine take_ (i := 11) (N := some 23) (v := ?_) (a' := ?_) #[true, true, true, true, false, false, false, true, false, true, true, true, false, false] rfl rfl (take_ofW HT_.out HW_.out (by kernel_rfl)) (fun _ _ _ h => h) (Or.inl ⟨by rfl, ?_⟩) hHeld ?_ ?_
  rotate_left
  ·rintro w' ⟨s0, s1, s2, s3, s4, s5⟩
   go_simp
   with_reducible rfl
  rotate_left
  ·simp only [Act.put, List.setIfInBounds_toArray, List.set_cons_zero, List.set_cons_succ, i64_w, i32_w]
   rfl
  refine join_ (σ := Value) 4 #[true, true, true, true, true, true, false, true, false, true, true, true, false, false] (fun s_ => [(16, .int .u64 t230), (17, s_)]) (fun s_ w' => (w'.cell? ⟨gb229, 0, none⟩ = some (.int .i64 a0_0) ∧ w'.cell? ⟨gb229, 1, none⟩ = some (.int .i64 a0_1) ∧ w'.cell? ⟨gb229, 2, none⟩ = some (.int .i64 a0_2) ∧ w'.cell? ⟨gb229, 3, none⟩ = some (.int .u64 a0_3) ∧ w'.cell? ⟨gb229, 4, none⟩ = some (.int .u64 a0_4) ∧ w'.cell? ⟨gb229, 5, none⟩ = some (.int .u64 a0_5)) ∧ (Kd.R (Kd.int .u8) 5 w' w.heap.size (fun _ => True) s_ y231) ∧ (w'.heap[gb229]? = some (.cells #[.int .i64 a0_0, .int .i64 a0_1, .int .i64 a0_2, .int .u64 a0_3, .int .u64 a0_4, .int .u64 a0_5] 85 (0, 0))) ∧ (Below w.heap.size w w')) ?_ ?_
  rotate_left
  ·intro hCont
   refine two_ (i := 4) (j := 5) (Ni := some 16) (Nj := some 17) #[true, true, true, true, true, false, false, true, false, true, true, true, false, false] #[true, true, true, true, false, true, false, true, false, true, true, true, false, false] rfl rfl rfl rfl (two_of HT_.out (by kernel_rfl)) (by decide) (by decide) (fun K hK => ?_) (fun K hK => ?_)
   ·skip
    refine goes_ Tryd.func90 (by kernel_rfl) rfl #[.int .u64 a0_5, .slice A1 l1.length c1] (by rfl) rfl rfl aV ?_
    with_reducible refine (impl_mixed.calls k a0_5 _ _ l1 t230 _ ?side1 ?side2 A5.out).mono ?_
    (case side1 => repeat (first | exact (Kd.C_below HR1.out HB.out) | (with_reducible refine Kd.C_alloc ?_ _) | (with_reducible refine Kd.C_drewN ?_ _) | (with_reducible refine Kd.C_drew ?_)))
    (case side2 => exact HC1.out)
    rintro e w' ⟨rfl, ⟨nd, rfl⟩⟩
    refine ⟨_, rfl, ?_⟩
    refine hK.out _ _ ⟨(blk_cell BK229.out 0).trans rfl, (blk_cell BK229.out 1).trans rfl, (blk_cell BK229.out 2).trans rfl, (blk_cell BK229.out 3).trans rfl, (blk_cell BK229.out 4).trans rfl, (blk_cell BK229.out 5).trans rfl⟩ (fun hHeld => ?_)
    clear hK K
    refine norm_ (a' := ?_) ?_ ?_
    rotate_left
    ·show Act.put _ (some 16) _ = _
     simp only [Act.put, List.setIfInBounds_toArray, List.set_cons_zero, List.set_cons_succ, i64_w, i32_w]
     rfl
    refine one_ (i := 5) (N := some 17) #[true, true, true, true, true, true, false, true, false, true, true, true, false, false] rfl rfl (one_of HT_.out (by kernel_rfl)) (by decide) (fun K hK => ?_)
    refine Kd.R_lit_step (Kd.int .u8) _ 5 ?hg (N := 17) ?hd (xs := ([255] : List Int)) (inner := [.int .u8 255]) (ok := fun _ => True) (okp := fun _ => True) ?hr ?hp (fun _ hk => hk) trivial (Below.refl _ _) (Nat.le_refl _) (by simp) ?_; (case hd => rfl); (case hg => rfl); (case hr => first | (go_simp; done) | (go_simp; rfl)); (case hp => exact (Reps.one (show Kd.M (Kd.int .u8) _ _ _ 255 [.int .u8 255] from rfl) (Reps.none _ _)))
    intro v232 w12 ho13 hb hg_ hnew_
    clear hg_ hnew_
    (first | rw [← Ny231.out] at ho13 | (simp only [Int.reduceToNat] at ho13; rw [← Ny231.out] at ho13))
    have n0_ := Aside0.mk (Kd.R_lower ho13 (below_size bB))
    have n1_ := Aside0.mk (blk_below (g := gb229) (o := .cells #[.int .i64 a0_0, .int .i64 a0_1, .int .i64 a0_2, .int .u64 a0_3, .int .u64 a0_4, .int .u64 a0_5] 85 (0, 0)) (kB BK229.out) hb)
    have n2_ := Aside0.mk (below_step bB hb)
    clear BK229
    clear HB
    have HO233 := n0_
    have BK229 := n1_
    have HB := n2_
    clear n0_ n1_ n2_
    clear hb ho13
    refine hK.out _ _ ⟨(blk_cell BK229.out 0).trans rfl, (blk_cell BK229.out 1).trans rfl, (blk_cell BK229.out 2).trans rfl, (blk_cell BK229.out 3).trans rfl, (blk_cell BK229.out 4).trans rfl, (blk_cell BK229.out 5).trans rfl⟩ (fun hHeld => ?_)
    clear hK K
    refine norm_ (a' := ?_) ?_ ?_
    rotate_left
    ·show Act.put _ (some 17) _ = _
     simp only [Act.put, List.setIfInBounds_toArray, List.set_cons_zero, List.set_cons_succ, i64_w, i32_w]
     rfl
    exact norm_ (by simp only [putAll, Act.put, List.setIfInBounds_toArray, List.set_cons_zero, List.set_cons_succ]) (hCont (v232) _ ⟨hHeld, (kR HO233.out), (kB BK229.out), bB⟩)
   ·skip
    refine Kd.R_lit_step (Kd.int .u8) _ 5 ?hg (N := 17) ?hd (xs := ([255] : List Int)) (inner := [.int .u8 255]) (ok := fun _ => True) (okp := fun _ => True) ?hr ?hp (fun _ hk => hk) trivial (Below.refl _ _) (Nat.le_refl _) (by simp) ?_; (case hd => rfl); (case hg => rfl); (case hr => first | (go_simp; done) | (go_simp; rfl)); (case hp => exact (Reps.one (show Kd.M (Kd.int .u8) _ _ _ 255 [.int .u8 255] from rfl) (Reps.none _ _)))
    intro v232 w12 ho13 hb hg_ hnew_
    clear hg_ hnew_
    (first | rw [← Ny231.out] at ho13 | (simp only [Int.reduceToNat] at ho13; rw [← Ny231.out] at ho13))
    have n0_ := Aside0.mk (Kd.R_lower ho13 (below_size bB))
    have n1_ := Aside0.mk (blk_below (g := gb229) (o := .cells #[.int .i64 a0_0, .int .i64 a0_1, .int .i64 a0_2, .int .u64 a0_3, .int .u64 a0_4, .int .u64 a0_5] 85 (0, 0)) (kB BK229.out) hb)
    have n2_ := Aside0.mk (below_step bB hb)
    clear BK229
    clear HB
    have HO233 := n0_
    have BK229 := n1_
    have HB := n2_
    clear n0_ n1_ n2_
    clear hb ho13
    refine hK.out _ _ ⟨(blk_cell BK229.out 0).trans rfl, (blk_cell BK229.out 1).trans rfl, (blk_cell BK229.out 2).trans rfl, (blk_cell BK229.out 3).trans rfl, (blk_cell BK229.out 4).trans rfl, (blk_cell BK229.out 5).trans rfl⟩ (fun hHeld => ?_)
    clear hK K
    refine norm_ (a' := ?_) ?_ ?_
    rotate_left
    ·show Act.put _ (some 17) _ = _
     simp only [Act.put, List.setIfInBounds_toArray, List.set_cons_zero, List.set_cons_succ, i64_w, i32_w]
     rfl
    refine one_ (i := 4) (N := some 16) #[true, true, true, true, true, true, false, true, false, true, true, true, false, false] rfl rfl (one_of HT_.out (by kernel_rfl)) (by decide) (fun K hK => ?_)
    refine goes_ Tryd.func90 (by kernel_rfl) rfl #[.int .u64 a0_5, .slice A1 l1.length c1] (by rfl) rfl rfl aV ?_
    with_reducible refine (impl_mixed.calls k a0_5 _ _ l1 t230 _ ?side1 ?side2 A5.out).mono ?_
    (case side1 => repeat (first | exact (Kd.C_below HR1.out HB.out) | (with_reducible refine Kd.C_alloc ?_ _) | (with_reducible refine Kd.C_drewN ?_ _) | (with_reducible refine Kd.C_drew ?_)))
    (case side2 => exact HC1.out)
    rintro e w' ⟨rfl, ⟨nd, rfl⟩⟩
    refine ⟨_, rfl, ?_⟩
    refine hK.out _ _ ⟨(blk_cell BK229.out 0).trans rfl, (blk_cell BK229.out 1).trans rfl, (blk_cell BK229.out 2).trans rfl, (blk_cell BK229.out 3).trans rfl, (blk_cell BK229.out 4).trans rfl, (blk_cell BK229.out 5).trans rfl⟩ (fun hHeld => ?_)
    clear hK K
    refine norm_ (a' := ?_) ?_ ?_
    rotate_left
    ·show Act.put _ (some 16) _ = _
     simp only [Act.put, List.setIfInBounds_toArray, List.set_cons_zero, List.set_cons_succ, i64_w, i32_w]
     rfl
    exact norm_ (by simp only [putAll, Act.put, List.setIfInBounds_toArray, List.set_cons_zero, List.set_cons_succ]) (hCont (v232) _ ⟨hHeld, (kR HO233.out), (kB BK229.out), bB⟩)
  rintro v232 w14 ⟨hS_, h0_, h1_, h2_⟩
  have n0_ : Aside0 (Kd.R (Kd.int .u8) 5 w14 w.heap.size (fun _ => True) v232 y231) := ⟨h0_⟩
  have n1_ : Aside0 (w14.heap[gb229]? = some (.cells #[.int .i64 a0_0, .int .i64 a0_1, .int .i64 a0_2, .int .u64 a0_3, .int .u64 a0_4, .int .u64 a0_5] 85 (0, 0))) := ⟨h1_⟩
  have n2_ : Aside0 (Below w.heap.size w w14) := ⟨h2_⟩
  clear BK229
  clear HB
  clear h0_ h1_ h2_
  have HO233 := n0_
  have BK229 := n1_
  have HB := n2_
  clear n0_ n1_ n2_
  have hHeld : w14.cell? ⟨gb229, 0, none⟩ = some (.int .i64 a0_0) ∧ w14.cell? ⟨gb229, 1, none⟩ = some (.int .i64 a0_1) ∧ w14.cell? ⟨gb229, 2, none⟩ = some (.int .i64 a0_2) ∧ w14.cell? ⟨gb229, 3, none⟩ = some (.int .u64 a0_3) ∧ w14.cell? ⟨gb229, 4, none⟩ = some (.int .u64 a0_4) ∧ w14.cell? ⟨gb229, 5, none⟩ = some (.int .u64 a0_5) := hS_
  obtain ⟨Ao15, co15, eo15⟩ := Kd.R_slice HO233.out
  (first | subst eo15 | (injection eo15 with f1_ f2_ f3_; have f4_ := f1_.symm; have f5_ := f3_.symm; clear f1_ f2_ f3_; subst f4_; subst f5_))
  refine norm_ (a' := ?_) ?_ ?_
  rotate_left
  ·simp only [putAll, Act.put, List.setIfInBounds_toArray, List.set_cons_zero, List.set_cons_succ]
   rfl
  refine one_ (i := 6) (N := some 18) #[true, true, true, true, true, true, true, true, false, true, true, true, false, false] rfl rfl (one_of HT_.out (by kernel_rfl)) (by decide) (fun K hK => ?_)
  refine goes_ Tryd.func90 (by kernel_rfl) rfl #[.int .u64 t230, .slice Ao15 y231.length co15] (by rfl) rfl rfl aV ?_
  with_reducible refine (impl_mixed.calls k t230 _ _ y231 t234 _ ?side1 ?side2 A6.out).mono ?_
  (case side1 => repeat (first | exact (Kd.R_reads' HO233.out).2.2 | (with_reducible refine Kd.C_alloc ?_ _) | (with_reducible refine Kd.C_drewN ?_ _) | (with_reducible refine Kd.C_drew ?_)))
  (case side2 => exact (Kd.R_reads' HO233.out).2.1)
  rintro e w' ⟨rfl, ⟨nd, rfl⟩⟩
  refine ⟨_, rfl, ?_⟩
  refine hK.out _ _ ⟨(blk_cell BK229.out 0).trans rfl, (blk_cell BK229.out 1).trans rfl, (blk_cell BK229.out 2).trans rfl, (blk_cell BK229.out 3).trans rfl, (blk_cell BK229.out 4).trans rfl, (blk_cell BK229.out 5).trans rfl⟩ (fun hHeld => ?_)
  clear hK K
  refine norm_ (a' := ?_) ?_ ?_
  rotate_left
  ·show Act.put _ (some 18) _ = _
   simp only [Act.put, List.setIfInBounds_toArray, List.set_cons_zero, List.set_cons_succ, i64_w, i32_w]
   rfl
  refine one_ (i := 8) (N := some 20) #[true, true, true, true, true, true, true, true, true, true, true, true, false, false] rfl rfl (one_of HT_.out (by kernel_rfl)) (by decide) (fun K hK => ?_)
  refine goes_ Tryd.func90 (by kernel_rfl) rfl #[.int .u64 t234, .slice A2 l2.length c2] (by rfl) rfl rfl aV ?_
  with_reducible refine (impl_mixed.calls k t234 _ _ l2 t235 _ ?side1 ?side2 A7.out).mono ?_
  (case side1 => repeat (first | exact (Kd.C_below HR2.out bB) | (with_reducible refine Kd.C_alloc ?_ _) | (with_reducible refine Kd.C_drewN ?_ _) | (with_reducible refine Kd.C_drew ?_)))
  (case side2 => exact HC2.out)
  rintro e w' ⟨rfl, ⟨nd, rfl⟩⟩
  refine ⟨_, rfl, ?_⟩
  refine hK.out _ _ ⟨(blk_cell BK229.out 0).trans rfl, (blk_cell BK229.out 1).trans rfl, (blk_cell BK229.out 2).trans rfl, (blk_cell BK229.out 3).trans rfl, (blk_cell BK229.out 4).trans rfl, (blk_cell BK229.out 5).trans rfl⟩ (fun hHeld => ?_)
  clear hK K
  refine norm_ (a' := ?_) ?_ ?_
  rotate_left
  ·show Act.put _ (some 20) _ = _
   simp only [Act.put, List.setIfInBounds_toArray, List.set_cons_zero, List.set_cons_succ, i64_w, i32_w]
   rfl
  refine one_ (i := 12) (N := some 24) #[true, true, true, true, true, true, true, true, true, true, true, true, true, false] rfl rfl (one_of HT_.out (by kernel_rfl)) (by decide) (fun K hK => ?_)
  refine goes_ Tryd.func89 (by kernel_rfl) rfl #[.int .u64 t235, .int .i64 a0_2] (by rfl) rfl rfl aV ?_
  with_reducible refine (impl_word.calls k t235 a0_2 t236 _ A8.out).mono ?_
  rintro e w16 ⟨v237, rfl, ho0, hb⟩
  refine ⟨_, rfl, ?_⟩
  have n0_ := Aside0.mk (Kd.R_elder' (kR HO233.out) (Kd.R_base ho0) hb)
  have n1_ := Aside0.mk (Kd.R_lower (Kd.R_new' ho0 (Kd.R_lt (kR HO233.out))) (below_size bB))
  have n2_ := Aside0.mk (blk_below (g := gb229) (o := .cells #[.int .i64 a0_0, .int .i64 a0_1, .int .i64 a0_2, .int .u64 a0_3, .int .u64 a0_4, .int .u64 a0_5] 85 (0, 0)) (kB BK229.out) hb)
  have n3_ := Aside0.mk (below_step bB hb)
  clear HO233
  clear BK229
  clear HB
  have HO233 := n0_
  have HO238 := n1_
  have BK229 := n2_
  have HB := n3_
  clear n0_ n1_ n2_ n3_
  (try clear hb)
  (try clear hb2)
  (try clear hk)
  (try clear hi)
  (try clear ho0)
  refine hK.out _ _ ⟨(blk_cell BK229.out 0).trans rfl, (blk_cell BK229.out 1).trans rfl, (blk_cell BK229.out 2).trans rfl, (blk_cell BK229.out 3).trans rfl, (blk_cell BK229.out 4).trans rfl, (blk_cell BK229.out 5).trans rfl⟩ (fun hHeld => ?_)
  clear hK K
  refine norm_ (a' := ?_) ?_ ?_
  rotate_left
  ·show Act.put _ (some 24) _ = _
   simp only [Act.put, List.setIfInBounds_toArray, List.set_cons_zero, List.set_cons_succ, i64_w, i32_w]
   rfl
  refine pure_ (i := 13) (N := some 6) (v := ?_) (a' := ?_) #[true, true, true, true, true, true, true, true, true, true, true, true, true, true] rfl rfl (any_of HT_.out (by kernel_rfl)) (fun _ _ _ h => h) (Or.inl ⟨by rfl, ?_⟩) ?_ ?_
  rotate_left
  ·intro w'
   go_simp
   with_reducible rfl
  rotate_left
  ·simp only [Act.put, List.setIfInBounds_toArray, List.set_cons_zero, List.set_cons_succ, i64_w, i32_w]
   rfl
  refine done_ (done_of HT_.out (by kernel_rfl)) ?_
  try go_wp2
  go_ret
  exact ⟨_, by first | rfl | (simp [errW_none, errW_some] <;> rfl) | (simp [*, errW_none, errW_some] <;> rfl), by (with_reducible repeat (first | apply Kd.R_alloc | apply Kd.R_drewN | apply Kd.R_drew)); exact Kd.R_mono HO238.out (fun _ hk => trivial), bB⟩
 ·rw [if_neg c4] at H
  have c4b0 : (a0_0 == 1) = false := beq_eq_false_iff_ne.mpr c4
  have c4b1 : (a0_0 != 1) = true := bne_iff_ne.mpr c4
  obtain ⟨y239, hy239⟩ : ∃ y_ : List Int, y_ = (([1] : List Int)) := ⟨_, rfl⟩
  replace H : ((impl_word.f k (IntKind.u64.wrap ((l1.length : Int))) 8).bind fun t242 => (if y239.length + t242.length < 140737488355328 then ((some (y239 ++ t242 : List Int)).bind fun y245 => (if y245.length + l1.length < 140737488355328 then ((some (y245 ++ l1 : List Int)).bind fun y248 => (if y248.length + l2.length < 140737488355328 then (some (y248 ++ l2)) else (none))) else (none))) else (none))) = some r := by first | (rw [hy239]; with_reducible exact H) | (have H2_ := (Option.bind_some _ _).symm.trans H; rw [hy239]; with_reducible exact H2_) | (have H2_ := (Option.bind_some _ _).symm.trans H; with_reducible exact H2_) | with_reducible exact H | (rw [hy239]; exact H) | exact H
  have Ny239 := Aside0.mk hy239
  clear hy239
  replace H := Option.bind_eq_some_iff.mp H
  obtain ⟨t242, A170, H⟩ := H
  replace H : (if y239.length + t242.length < 140737488355328 then ((some (y239 ++ t242 : List Int)).bind fun y245 => (if y245.length + l1.length < 140737488355328 then ((some (y245 ++ l1 : List Int)).bind fun y248 => (if y248.length + l2.length < 140737488355328 then (some (y248 ++ l2)) else (none))) else (none))) else (none)) = some r := H
  have A17 := Aside0.mk A170
  clear A170
  by_cases c18 : y239.length + t242.length < 140737488355328
  ·rw [if_pos c18] at H
   have LMc18 := Aside0.mk c18
   clear c18
   obtain ⟨y245, hy245⟩ : ∃ y_ : List Int, y_ = (y239 ++ t242) := ⟨_, rfl⟩
   replace H : (if y245.length + l1.length < 140737488355328 then ((some (y245 ++ l1 : List Int)).bind fun y248 => (if y248.length + l2.length < 140737488355328 then (some (y248 ++ l2)) else (none))) else (none)) = some r := by first | (rw [hy245]; with_reducible exact H) | (have H2_ := (Option.bind_some _ _).symm.trans H; rw [hy245]; with_reducible exact H2_) | (have H2_ := (Option.bind_some _ _).symm.trans H; with_reducible exact H2_) | with_reducible exact H | (rw [hy245]; exact H) | exact H
   have Ny245 := Aside0.mk hy245
   clear hy245
   by_cases c19 : y245.length + l1.length < 140737488355328
   ·rw [if_pos c19] at H
    have LMc19 := Aside0.mk c19
    clear c19
    obtain ⟨y248, hy248⟩ : ∃ y_ : List Int, y_ = (y245 ++ l1) := ⟨_, rfl⟩
    replace H : (if y248.length + l2.length < 140737488355328 then (some (y248 ++ l2)) else (none)) = some r := by first | (rw [hy248]; with_reducible exact H) | (have H2_ := (Option.bind_some _ _).symm.trans H; rw [hy248]; with_reducible exact H2_) | (have H2_ := (Option.bind_some _ _).symm.trans H; with_reducible exact H2_) | with_reducible exact H | (rw [hy248]; exact H) | exact H
    have Ny248 := Aside0.mk hy248
    clear hy248
    by_cases c20 : y248.length + l2.length < 140737488355328
    ·rw [if_pos c20] at H
     have LMc20 := Aside0.mk c20
     clear c20
     obtain ⟨y251, hy251⟩ : ∃ y_ : List Int, y_ = (y248 ++ l2) := ⟨_, rfl⟩
     replace H : (some y251) = some r := by first | (rw [hy251]; with_reducible exact H) | (have H2_ := (Option.bind_some _ _).symm.trans H; rw [hy251]; with_reducible exact H2_) | (have H2_ := (Option.bind_some _ _).symm.trans H; with_reducible exact H2_) | with_reducible exact H | (rw [hy251]; exact H) | exact H
     have Ny251 := Aside0.mk hy251
     clear hy251
     obtain rfl := Option.some.inj H
     go_enter Tryd.func52, Tryd.ntmps52
     go_wp2_with (first | ((with_reducible refine gate_dst (N := 3) rfl ?_); refine box_event ?hg (N := 3) ?hd (cs := #[.int .i64 a0_0, .int .i64 a0_1, .int .i64 a0_2, .int .u64 a0_3, .int .u64 a0_4, .int .u64 a0_5]) (t := 85) ?hr ?_; (case hd => rfl); (case hg => rfl); (case hr => first | (go_simp; done) | (go_simp; rfl)); intro gb229 hg w21 hbox hb; have n0_ := Aside0.mk (below_step bB hb); have n1_ := Aside0.mk (hbox); have n2_ := Aside0.mk ((by rw [hg]; exact (below_size bB) : w.heap.size ≤ gb229)); have n3_ := Aside0.mk ((by rw [hg]; exact (below_size bB) : w.heap.size ≤ gb229)); clear HB; have HB := n0_; have BK229 := n1_; have GW229 := n2_; have GE229 := n3_; clear n0_ n1_ n2_ n3_; clear hb hbox hg; have hcz22_0 : w21.cell? ⟨gb229, 0, none⟩ = some (.int .i64 a0_0) := (blk_cell BK229.out 0).trans rfl; have hcz22_1 : w21.cell? ⟨gb229, 1, none⟩ = some (.int .i64 a0_1) := (blk_cell BK229.out 1).trans rfl; have hcz22_2 : w21.cell? ⟨gb229, 2, none⟩ = some (.int .i64 a0_2) := (blk_cell BK229.out 2).trans rfl; have hcz22_3 : w21.cell? ⟨gb229, 3, none⟩ = some (.int .u64 a0_3) := (blk_cell BK229.out 3).trans rfl; have hcz22_4 : w21.cell? ⟨gb229, 4, none⟩ = some (.int .u64 a0_4) := (blk_cell BK229.out 4).trans rfl; have hcz22_5 : w21.cell? ⟨gb229, 5, none⟩ = some (.int .u64 a0_5) := (blk_cell BK229.out 5).trans rfl; have hfz22_0 := blk_frozen BK229.out 0; have hfz22_1 := blk_frozen BK229.out 1; have hfz22_2 := blk_frozen BK229.out 2; have hfz22_3 := blk_frozen BK229.out 3; have hfz22_4 := blk_frozen BK229.out 4; have hfz22_5 := blk_frozen BK229.out 5) | ((with_reducible refine gate_dst (N := 25) rfl ?_); refine Kd.R_lit (Kd.int .u8) _ 5 ?hg (N := 25) ?hd (xs := ([1] : List Int)) (inner := [.int .u8 1]) (ok := fun _ => True) (okp := fun _ => True) ?hr ?hp (fun _ hk => hk) trivial (Below.refl _ _) (Nat.le_refl _) (by simp) ?_; (case hd => rfl); (case hg => rfl); (case hr => first | (go_simp; done) | (go_simp; rfl)); (case hp => exact (Reps.one (show Kd.M (Kd.int .u8) _ _ _ 1 [.int .u8 1] from rfl) (Reps.none _ _))); intro v240 w23 ho24 hb hg_ hnew_; clear hg_ hnew_; (first | rw [← Ny239.out] at ho24 | (simp only [Int.reduceToNat] at ho24; rw [← Ny239.out] at ho24)); have n0_ := Aside0.mk (Kd.R_lower ho24 (below_size bB)); have n1_ := Aside0.mk (blk_below (g := gb229) (o := .cells #[.int .i64 a0_0, .int .i64 a0_1, .int .i64 a0_2, .int .u64 a0_3, .int .u64 a0_4, .int .u64 a0_5] 85 (0, 0)) (kB BK229.out) hb); have n2_ := Aside0.mk (below_step bB hb); clear BK229; clear HB; have HO241 := n0_; have BK229 := n1_; have HB := n2_; clear n0_ n1_ n2_; clear hb ho24) | ((with_reducible refine gate_callee (f := 89) rfl ?_); refine goesL_ (some 29) rfl rfl Tryd.func89 (by kernel_rfl) rfl #[.int .u64 (IntKind.u64.wrap ((l1.length : Int))), .int .i64 8] rfl aV ?_; (with_reducible refine (impl_word.calls k (IntKind.u64.wrap ((l1.length : Int))) 8 t242 _ A17.out).mono ?_); rintro e w25 ⟨v243, rfl, ho0, hb⟩; refine ⟨_, rfl, ?_⟩; have n0_ := Aside0.mk (Kd.R_elder' (kR HO241.out) (Kd.R_base ho0) hb); have n1_ := Aside0.mk (Kd.R_lower (Kd.R_new' ho0 (Kd.R_lt (kR HO241.out))) (below_size bB)); have n2_ := Aside0.mk (blk_below (g := gb229) (o := .cells #[.int .i64 a0_0, .int .i64 a0_1, .int .i64 a0_2, .int .u64 a0_3, .int .u64 a0_4, .int .u64 a0_5] 85 (0, 0)) (kB BK229.out) hb); have n3_ := Aside0.mk (below_step bB hb); clear HO241; clear BK229; clear HB; have HO241 := n0_; have HO244 := n1_; have BK229 := n2_; have HB := n3_; clear n0_ n1_ n2_ n3_; (try clear hb); (try clear hb2); (try clear hk); (try clear hi); (try clear ho0); obtain ⟨Ao27, co27, eo27⟩ := Kd.R_slice HO244.out; subst eo27) | ((with_reducible refine gate_builtin (b := .append) (xs := #[.tmp 25, .tmp 29]) rfl ?_); at_builtin; refine Kd.R_append_rows (Kd.int .u8) (w0 := w) w.heap.size rfl (.tmp 25) (.tmp 29) 27 5 (.int .u8 0) 1 rfl Tryd.underlying27 info5 rfl (by decide) (by omega) v240 y239 t242 _ _ _ (fun k_ => some k_ ≠ (.slice Ao27 t242.length co27 : Value).ownBlock) (fun _ => False) rfl rfl ?aO ?aR (fun _ _ h => h) (fun _ h => h.elim) ?aF ?aB ?aS ?aL ?_; (case aR => repeat (first | exact (Kd.R_reads' HO244.out).2.2 | (with_reducible refine Kd.C_alloc ?_ _) | (with_reducible refine Kd.C_drewN ?_ _) | (with_reducible refine Kd.C_drew ?_))); (case aB => exact bB); (case aF => exact (fun k_ hk => Kd.fresh' (Kd.R_lt (kR HO244.out)) k_ hk)); (case aO => exact (by (with_reducible repeat (first | apply Kd.R_alloc | apply Kd.R_drewN | apply Kd.R_drew)); exact Kd.R_mono HO241.out (fun _ hk => hk.2))); (case aS => exact (below_size bB)); (case aL => have := LMc18.out; omega); intro v246 w26 ho hb hg hat; rw [← Ny245.out] at ho; have n0_ := Aside0.mk (blk_grown (g := gb229) (o := .cells #[.int .i64 a0_0, .int .i64 a0_1, .int .i64 a0_2, .int .u64 a0_3, .int .u64 a0_4, .int .u64 a0_5] 85 (0, 0)) (kB BK229.out) hg (Kd.R_ne HO241.out BK229.out (by decide))); have n1_ := Aside0.mk (Kd.R_after (ok := (fun _ => True)) (kR HO244.out) hg hat); have n2_ := Aside0.mk (hb); have n3_ := Aside0.mk (ho); clear BK229; clear HO244; clear HB; clear HO241; have BK229 := n0_; have HO244 := n1_; have HB := n2_; have HO247 := n3_; clear n0_ n1_ n2_ n3_; clear ho hb hg hat) | ((with_reducible refine gate_builtin (b := .append) (xs := #[.tmp 31, .tmp 32]) rfl ?_); at_builtin; refine Kd.R_append_rows (Kd.int .u8) (w0 := w) w.heap.size rfl (.tmp 31) (.tmp 32) 27 5 (.int .u8 0) 1 rfl Tryd.underlying27 info5 rfl (by decide) (by omega) v246 y245 l1 _ _ _ (fun k_ => some k_ ≠ (.slice Ao27 t242.length co27 : Value).ownBlock) (fun _ => False) rfl rfl ?aO ?aR (fun _ _ h => h) (fun _ h => h.elim) ?aF ?aB ?aS ?aL ?_; (case aR => repeat (first | exact (Kd.C_below HR1.out HB.out) | (with_reducible refine Kd.C_alloc ?_ _) | (with_reducible refine Kd.C_drewN ?_ _) | (with_reducible refine Kd.C_drew ?_))); (case aB => exact bB); (case aF => exact (fun k_ hk => Kd.fresh' (Kd.R_lt (kR HO244.out)) k_ hk)); (case aO => exact (kR HO247.out)); (case aS => exact (below_size bB)); (case aL => have := LMc19.out; omega); intro v249 w28 ho hb hg hat; rw [← Ny248.out] at ho; have n0_ := Aside0.mk (blk_grown (g := gb229) (o := .cells #[.int .i64 a0_0, .int .i64 a0_1, .int .i64 a0_2, .int .u64 a0_3, .int .u64 a0_4, .int .u64 a0_5] 85 (0, 0)) (kB BK229.out) hg (Kd.R_ne HO247.out BK229.out (by decide))); have n1_ := Aside0.mk (Kd.R_after (ok := (fun _ => True)) (kR HO244.out) hg hat); have n2_ := Aside0.mk (hb); have n3_ := Aside0.mk (ho); clear BK229; clear HO244; clear HB; clear HO247; have BK229 := n0_; have HO244 := n1_; have HB := n2_; have HO250 := n3_; clear n0_ n1_ n2_ n3_; clear ho hb hg hat) | ((with_reducible refine gate_builtin (b := .append) (xs := #[.tmp 33, .tmp 34]) rfl ?_); at_builtin; refine Kd.R_append_rows (Kd.int .u8) (w0 := w) w.heap.size rfl (.tmp 33) (.tmp 34) 27 5 (.int .u8 0) 1 rfl Tryd.underlying27 info5 rfl (by decide) (by omega) v249 y248 l2 _ _ _ (fun k_ => some k_ ≠ (.slice Ao27 t242.length co27 : Value).ownBlock) (fun _ => False) rfl rfl ?aO ?aR (fun _ _ h => h) (fun _ h => h.elim) ?aF ?aB ?aS ?aL ?_; (case aR => repeat (first | exact (Kd.C_below HR2.out HB.out) | (with_reducible refine Kd.C_alloc ?_ _) | (with_reducible refine Kd.C_drewN ?_ _) | (with_reducible refine Kd.C_drew ?_))); (case aB => exact bB); (case aF => exact (fun k_ hk => Kd.fresh' (Kd.R_lt (kR HO244.out)) k_ hk)); (case aO => exact (kR HO250.out)); (case aS => exact (below_size bB)); (case aL => have := LMc20.out; omega); intro v252 w29 ho hb hg hat; rw [← Ny251.out] at ho; have n0_ := Aside0.mk (blk_grown (g := gb229) (o := .cells #[.int .i64 a0_0, .int .i64 a0_1, .int .i64 a0_2, .int .u64 a0_3, .int .u64 a0_4, .int .u64 a0_5] 85 (0, 0)) (kB BK229.out) hg (Kd.R_ne HO250.out BK229.out (by decide))); have n1_ := Aside0.mk (Kd.R_after (ok := (fun _ => True)) (kR HO244.out) hg hat); have n2_ := Aside0.mk (hb); have n3_ := Aside0.mk (ho); clear BK229; clear HO244; clear HB; clear HO250; have BK229 := n0_; have HO244 := n1_; have HB := n2_; have HO253 := n3_; clear n0_ n1_ n2_ n3_; clear ho hb hg hat))
     go_ret
     exact ⟨_, by first | rfl | (simp [errW_none, errW_some] <;> rfl) | (simp [*, errW_none, errW_some] <;> rfl), by (with_reducible repeat (first | apply Kd.R_alloc | apply Kd.R_drewN | apply Kd.R_drew)); exact Kd.R_mono HO253.out (fun _ hk => trivial), bB⟩
    ·rw [if_neg c20] at H
     exact absurd H (by simp)
   ·rw [if_neg c19] at H
    exact absurd H (by simp)
  ·rw [if_neg c18] at H
   exact absurd H (by simp)


/-! ### impl_texts: function 46 -/
def impl_texts.l0 : Nat → List (List Int) → List (List Int) → Int → Int → Option ((List (List Int)))
 | 0, _, _, _, _ => none
 | k + 1, x3, x6, x7, x8 => if x8 < x7 then (if 0 ≤ x8 then (if x8 < (x6.length : Int) then ((some (([] : List Int) : List Int)).bind fun y257 => (if y257.length + (rd_L1 x6 x8).length < 140737488355328 then (if x3.length < 5864062014805 then (impl_texts.l0 k (x3 ++ [(y257 ++ (rd_L1 x6 x8))]) x6 x7 (wrap64 (x8 + 1))) else (none)) else (none))) else (none)) else (none)) else (some x3)
def impl_texts.f (k : Nat) (l0 : List (List Int)) : Option ((List (List Int))) := impl_texts.l0 k ([] : List (List Int)) l0 (l0.length : Int) 0
theorem impl_texts.mono_l : ∀ k, (∀ y0 y1 y2 y3, LeO (impl_texts.l0 k y0 y1 y2 y3) (impl_texts.l0 (k + 1) y0 y1 y2 y3))
 | 0 => fun _ _ _ _ r h => by simp [impl_texts.l0] at h
 | k + 1 => by
  have ih0 := impl_texts.mono_l k
  ·intro y0 y1 y2 y3
   unfold impl_texts.l0
   repeat' first
   | (with_reducible exact ih0 _ _ _ _)
   | (with_reducible exact LeO.refl _)
   | (with_reducible exact LeO.none _)
   | (with_reducible refine LeO.ite ?_ ?_)
   | (with_reducible refine LeO.bind ?_ (fun _ => ?_))
   | exact ih0 _ _ _ _
   | exact LeO.none _
   | refine LeO.ite ?_ ?_
   | refine LeO.bind ?_ (fun _ => ?_)
theorem impl_texts.mono : ∀ a0 k, LeO (impl_texts.f k a0) (impl_texts.f (k + 1) a0) := by
 intro a0 k
 have ih0 := impl_texts.mono_l k
 unfold impl_texts.f
 repeat' first
   | (with_reducible exact ih0 _ _ _ _)
   | (with_reducible exact LeO.refl _)
   | (with_reducible exact LeO.none _)
   | (with_reducible refine LeO.ite ?_ ?_)
   | (with_reducible refine LeO.bind ?_ (fun _ => ?_))
   | exact ih0 _ _ _ _
   | exact LeO.none _
   | refine LeO.ite ?_ ?_
   | refine LeO.bind ?_ (fun _ => ?_)
set_option maxHeartbeats 8000000 in
set_option maxRecDepth 100000 in
theorem impl_texts.calls (k : Nat) (A0 : Option Addr) (c0 : Nat) (l0 : List (List Int)) (r : List (List Int)) (w : World) (hr0 : Kd.C (Kd.slice 5 (Kd.int .u8)) w A0 l0.length l0) (hc0 : l0.length ≤ c0) (h : impl_texts.f k l0 = some r) :
  Calls Tryd.prog 46 #[.slice A0 l0.length c0] w fun e w' => ∃ v0_ : Value, e = .returned (v0_) ∧ Kd.S (Kd.slice 5 (Kd.int .u8)) 27 w' w.heap.size (fun _ => True) v0_ r ∧ Below w.heap.size w w' := by
 have HR0 := Aside0.mk hr0
 have HC0 := Aside0.mk hc0
 clear hr0 hc0
 have HB := Aside0.mk (Below.refl w.heap.size w)
 have H : (impl_texts.l0 k ([] : List (List Int)) l0 (l0.length : Int) 0) = some r := h
 clear h
 have H' := Aside0.mk H
 clear H
 go_enter Tryd.func46, Tryd.ntmps46
 go_wp2
 go_loopg [3, 8] k (fun kq v3 v8 w' => ∃ (x3_1 : List (List Int)) (x8_1 : Int), v8 = .int .i64 x8_1 ∧ Aside0 (impl_texts.l0 kq x3_1 l0 (l0.length : Int) x8_1 = some r) ∧ Aside0 (kq ≤ k) ∧ Aside0 (Kd.S (Kd.slice 5 (Kd.int .u8)) 27 w' w.heap.size (fun _ => True) v3 x3_1) ∧ Aside0 (Below w.heap.size w w'))
 case atStart => exact ⟨(([] : List (List Int))), (0), (by first | rfl | (simp; done) | (simp [*]; done)), H', ⟨Nat.le_refl _⟩, ⟨by first | exact Kd.S_nil _ _ _ _ _ | exact Kd.N_nil _ _ _ _ _ | exact Kd.V_nil _ _ _ _ _ | exact Kd.Q_nil _ _ _ _ _ | exact Kd.R_nil _ _ _ _ _⟩, ⟨bB⟩⟩
 case round =>
  clear H'
  obtain ⟨x3_1, x8_1, rfl, HA, HK1, HO_3, HB⟩ := hrel
  cases gk with
  | zero => exact absurd HA.out (by simp [impl_texts.l0])
  | succ k1 =>
   have H := HA.out
   clear HA
   simp only [impl_texts.l0] at H
   by_cases c2 : x8_1 < (l0.length : Int)
   ·rw [if_pos c2] at H
    have c2b0 : decide (x8_1 < (l0.length : Int)) = true := decide_eq_true c2
    clear c2
    by_cases c3 : 0 ≤ x8_1
    ·rw [if_pos c3] at H
     have c3b0 : decide (0 ≤ x8_1) = true := decide_eq_true c3
     clear c3
     by_cases c4 : x8_1 < (l0.length : Int)
     ·rw [if_pos c4] at H
      have c4b0 : decide (x8_1 < (l0.length : Int)) = true := decide_eq_true c4
      clear c4
      obtain ⟨y257, hy257⟩ : ∃ y_ : List Int, y_ = (([] : List Int)) := ⟨_, rfl⟩
      replace H : (if y257.length + (rd_L1 l0 x8_1).length < 140737488355328 then (if x3_1.length < 5864062014805 then (impl_texts.l0 k1 (x3_1 ++ [(y257 ++ (rd_L1 l0 x8_1))]) l0 (l0.length : Int) (wrap64 (x8_1 + 1))) else (none)) else (none)) = some r := by first | (rw [hy257]; with_reducible exact H) | (have H2_ := (Option.bind_some _ _).symm.trans H; rw [hy257]; with_reducible exact H2_) | (have H2_ := (Option.bind_some _ _).symm.trans H; with_reducible exact H2_) | with_reducible exact H | (rw [hy257]; exact H) | exact H
      have Ny257 := Aside0.mk hy257
      clear hy257
      by_cases c5 : y257.length + (rd_L1 l0 x8_1).length < 140737488355328
      ·rw [if_pos c5] at H
       have LMc5 := Aside0.mk c5
       clear c5
       obtain ⟨y260, hy260⟩ : ∃ y_ : List Int, y_ = (y257 ++ (rd_L1 l0 x8_1)) := ⟨_, rfl⟩
       replace H : (if x3_1.length < 5864062014805 then (impl_texts.l0 k1 (x3_1 ++ [y260]) l0 (l0.length : Int) (wrap64 (x8_1 + 1))) else (none)) = some r := by first | (rw [hy260]; with_reducible exact H) | (have H2_ := (Option.bind_some _ _).symm.trans H; rw [hy260]; with_reducible exact H2_) | (have H2_ := (Option.bind_some _ _).symm.trans H; with_reducible exact H2_) | with_reducible exact H | (rw [hy260]; exact H) | exact H
       have Ny260 := Aside0.mk hy260
       clear hy260
       by_cases c6 : x3_1.length < 5864062014805
       ·rw [if_pos c6] at H
        have LMc6 := Aside0.mk c6
        clear c6
        obtain ⟨y263, hy263⟩ : ∃ y_ : List (List Int), y_ = (x3_1 ++ [y260]) := ⟨_, rfl⟩
        replace H : (impl_texts.l0 k1 y263 l0 (l0.length : Int) (wrap64 (x8_1 + 1))) = some r := by first | (rw [hy263]; with_reducible exact H) | (have H2_ := (Option.bind_some _ _).symm.trans H; rw [hy263]; with_reducible exact H2_) | (have H2_ := (Option.bind_some _ _).symm.trans H; with_reducible exact H2_) | with_reducible exact H | (rw [hy263]; exact H) | exact H
        have Ny263 := Aside0.mk hy263
        clear hy263
        have H' := Aside0.mk H
        clear H
        have p256 : 0 ≤ (x8_1 : Int) := dA
        have q256 : x8_1 < (l0.length : Int) := dA
        obtain ⟨ad256, A256_0, c256_0, e256, hx256_0, hl256_0, hi256_0⟩ := at_L1 HR0.out x8_1 p256 q256
        cases e256
        replace hx256_0 := (HB.out.cell (World.block_lt_of_cell? w _ hx256_0)).trans hx256_0
        have HR256_0 := Aside0.mk hi256_0
        have HC256_0 := Aside0.mk hl256_0
        clear hi256_0 hl256_0
        replace p256 := eq_true p256
        replace q256 := eq_true q256
        go_wp2_with (first | ((with_reducible refine gate_dst (N := 13) rfl ?_); refine Kd.R_lit (Kd.int .u8) _ 5 ?hg (N := 13) ?hd (xs := ([] : List Int)) (inner := []) (ok := fun _ => True) (okp := fun _ => True) ?hr ?hp (fun _ hk => hk) trivial (Below.refl _ _) (Nat.le_refl _) (by simp) ?_; (case hd => rfl); (case hg => rfl); (case hr => first | (go_simp; done) | (go_simp; rfl)); (case hp => exact (Reps.none _ _)); intro v258 w7 ho8 hb hg_ hnew_; clear hg_ hnew_; (first | rw [← Ny257.out] at ho8 | (simp only [Int.reduceToNat] at ho8; rw [← Ny257.out] at ho8)); have n0_ := Aside0.mk (Kd.S_elder' (by (with_reducible repeat (first | apply Kd.S_alloc | apply Kd.S_drewN | apply Kd.S_drew)); exact HO_3.out) (Kd.R_base ho8) hb); have n1_ := Aside0.mk (Kd.R_lower ho8 (below_size bB)); have n2_ := Aside0.mk (below_step bB hb); clear HO_3; clear HB; have HO_3 := n0_; have HO259 := n1_; have HB := n2_; clear n0_ n1_ n2_; clear hb ho8) | ((with_reducible refine gate_builtin (b := .append) (xs := #[.tmp 13, .tmp 14]) rfl ?_); at_builtin; refine Kd.R_append_rows (Kd.int .u8) (w0 := w) w.heap.size rfl (.tmp 13) (.tmp 14) 27 5 (.int .u8 0) 1 rfl Tryd.underlying27 info5 rfl (by decide) (by omega) v258 y257 (rd_L1 l0 x8_1) _ _ _ (fun _ => True) (fun _ => False) rfl rfl ?aO ?aR (fun _ _ h => h) (fun _ h => h.elim) ?aF ?aB ?aS ?aL ?_; (case aR => repeat (first | exact (Kd.C_below HR256_0.out HB.out) | (with_reducible refine Kd.C_alloc ?_ _) | (with_reducible refine Kd.C_drewN ?_ _) | (with_reducible refine Kd.C_drew ?_))); (case aB => exact bB); (case aF => exact (fun _ _ => trivial)); (case aO => exact (kR HO259.out)); (case aS => exact (below_size bB)); (case aL => have := LMc5.out; omega); intro v261 w9 ho hb hg hat; rw [← Ny260.out] at ho; have n0_ := Aside0.mk (Kd.S_after (ok := (fun _ => True)) (by (with_reducible repeat (first | apply Kd.S_alloc | apply Kd.S_drewN | apply Kd.S_drew)); exact HO_3.out) hg hat); have n1_ := Aside0.mk (hb); have n2_ := Aside0.mk (ho); clear HO_3; clear HB; clear HO259; have HO_3 := n0_; have HB := n1_; have HO262 := n2_; clear n0_ n1_ n2_; clear ho hb hg hat; obtain ⟨Ao11, co11, eo11⟩ := Kd.R_slice HO262.out; subst eo11) | ((with_reducible refine gate_builtin (b := .append) (xs := #[.tmp 12, .tmp 16]) rfl ?_); at_builtin; refine Kd.S_append (Kd.slice 5 (Kd.int .u8)) (w0 := w) w.heap.size rfl (.tmp 12) (.tmp 16) 25 27 (.slice none 0 0) 24 rfl Tryd.underlying25 info27 rfl (by decide) (by omega) u3 x3_1 y260 [.slice Ao11 y260.length co11] (fun _ => True) (fun k_ => some k_ = (.slice Ao11 y260.length co11 : Value).ownBlock) rfl rfl ?aP (fun k_ hk_ => ((Kd.R_mono (ok' := fun k_ => ((fun _ => True)) k_ ∧ some k_ ≠ (u3 : Value).ownBlock) (Kd.R_apart' (HO262.out) (Kd.S_typed HO_3.out) (by decide)) (fun k_ hk => ⟨trivial, hk.2⟩))).1 k_ hk_.symm) ?aF ?aO ?aB ?aS ?aL ?_; (case aP => exact Kd.M_row (Kd.R_mono (Kd.R_tight rfl (Kd.R_mono (ok' := fun k_ => ((fun _ => True)) k_ ∧ some k_ ≠ (u3 : Value).ownBlock) (Kd.R_apart' (HO262.out) (Kd.S_typed HO_3.out) (by decide)) (fun k_ hk => ⟨trivial, hk.2⟩))) (fun _ h_ => h_))); (case aB => exact bB); (case aF => exact (fun _ _ => trivial)); (case aO => exact (by (with_reducible repeat (first | apply Kd.S_alloc | apply Kd.S_drewN | apply Kd.S_drew)); exact Kd.S_mono HO_3.out (fun k_ hk => ⟨trivial, fun e_ => hk.2 e_⟩))); (case aS => exact (below_size bB)); (case aL => have := LMc6.out; omega); intro v264 w10 ho hb hg hat; rw [← Ny263.out] at ho; have n0_ := Aside0.mk (hb); have n1_ := Aside0.mk (ho); clear HB; clear HO_3; clear HO262; have HB := n0_; have HO265 := n1_; clear n0_ n1_; clear ho hb hg hat))
        go_roundg k1
        case measure => have := HK1.out; omega
        case rel => exact ⟨(y263), (wrap64 (x8_1 + 1)), (by first | rfl | (simp; done) | (simp [*]; done)), H', ⟨by have := HK1.out; omega⟩, ⟨by (with_reducible repeat (first | apply Kd.S_alloc | apply Kd.S_drewN | apply Kd.S_drew)); exact HO265.out⟩, ⟨bB⟩⟩
       ·rw [if_neg c6] at H
        exact absurd H (by simp)
      ·rw [if_neg c5] at H
       exact absurd H (by simp)
     ·rw [if_neg c4] at H
      exact absurd H (by simp)
    ·rw [if_neg c3] at H
     exact absurd H (by simp)
   ·rw [if_neg c2] at H
    have c2b0 : decide (x8_1 < (l0.length : Int)) = false := decide_eq_false c2
    clear c2
    obtain rfl := Option.some.inj H
    go_wp2
    go_ret
    exact ⟨_, by first | rfl | (simp [errW_none, errW_some] <;> rfl) | (simp [*, errW_none, errW_some] <;> rfl), by (with_reducible repeat (first | apply Kd.S_alloc | apply Kd.S_drewN | apply Kd.S_drew)); exact HO_3.out, bB⟩


/-! ### proof_Nodes_Rehash: function 71 -/
theorem cell_set_far {w : World} {p a : Addr} {u v : Value} (h : w.cell? a = some v) (hne : ¬ a.block = p.block) : (w.setCell p u).cell? a = some v := (World.cell?_of_block (w := w) (w' := w.setCell p u) (Below.heap_setCell w p u a.block hne)).trans h
set_option maxHeartbeats 8000000 in
set_option maxRecDepth 100000 in
theorem proof_Nodes_Rehash.gen (k : Nat) (a0 a1 a2 a3 a4 a5 : Int) (fv : Value) (hfv : IsFn Tryd.prog fv 52 (.agg #[.int .i64 a0, .int .i64 a1, .int .i64 a2, .int .u64 a3, .int .u64 a4, .int .u64 a5]))
  (B Bf : Nat) (Ai : Option Addr) (ni ci b e : Nat) (lv ix : Int) (v : Value) (xs r : List (List Int)) (w : World)
  (hR : (Kd.slice 5 (Kd.int .u8)).R 27 w B (fun _ => True) v xs) (hB : B ≤ w.heap.size) (hBf : Bf ≤ w.heap.size) (hown : ∀ k_, v.ownBlock = some k_ → Bf ≤ k_) (hn : ni = xs.length) (hbe : b ≤ e) (hen : e ≤ xs.length) (hl : xs.length < 1099511627776)
  (h : rhGo (fun l r => impl_toy_HashChildren.f k a0 a1 a2 a3 a4 a5 l r) b e (xs.length + 1) 0 [] xs = some r) :
  Calls Tryd.prog 71 #[.agg #[.slice Ai ni ci, .int .i64 (b : Int), .int .i64 (e : Int), .int .u64 lv, .int .u64 ix], v, fv] w fun e' w' => ∃ v0, e' = .returned (.tuple #[v0, .nilIface]) ∧ (Kd.slice 5 (Kd.int .u8)).R 27 w' B (fun _ => True) v0 r ∧ Below Bf w w' := by
 subst hn
 obtain ⟨A, c, rfl⟩ := Kd.R_slice hR
 have HR0 := Aside0.mk hR
 have H0 := Aside0.mk h
 have HFV := Aside0.mk hfv
 have HBE := Aside0.mk hbe
 have HEN := Aside0.mk hen
 have HL := Aside0.mk hl
 have HBW := Aside0.mk hB
 have HBF := Aside0.mk hBf
 have HOW := Aside0.mk hown
 clear hR h hfv hbe hen hB hBf hown
 obtain ⟨w1, hw1⟩ : ∃ w1, w1 = w.alloc (.cells #[.slice Ai xs.length ci, .int .i64 (b : Int), .int .i64 (e : Int), .int .u64 lv, .int .u64 ix] 122) := ⟨_, rfl⟩
 have hb1 : Below w.heap.size w w1 := by rw [hw1]; exact below_alloc (Below.refl _ _) _
 have hk1 : w1.heap[w.heap.size]? = some (.cells #[.slice Ai xs.length ci, .int .i64 (b : Int), .int .i64 (e : Int), .int .u64 lv, .int .u64 ix] 122 (0, 0)) := by rw [hw1]; exact blk_new w _
 have HR1 := Aside0.mk (Kd.R_below HR0.out hb1)
 have HB1 := Aside0.mk (show Below Bf w w1 from hb1.mono HBF.out)
 have HKx := Aside0.mk hk1
 have HRL := Aside0.mk (fun (j : Nat) (hj : j ≤ xs.length) => (Kd.R_reads' HR0.out).2.1)
 have ec0 : w1.cell? ⟨w.heap.size, 0, none⟩ = some (.slice Ai xs.length ci) := (blk_cell hk1 0).trans rfl
 have hbx : w.heap.size < w1.heap.size := blk_lt hk1
 have HBX := Aside0.mk hbx
 clear HR0 hb1 hk1 hbx
 go_enter Tryd.func71, Tryd.ntmps71
 have hne0 : ((xs.length : Int) != (xs.length : Int)) = false := by simp
 go_upto_region 1 with (fail)
 rw [← hw1]
 clear hw1
 generalize w.heap.size = bx at *
 go_quiet (fail)
 go_wp2
 have HR2 := Aside0.mk (Kd.R_drewN HR1.out nq)
 have HB2 := Aside0.mk (pw_below_drewN HB1.out nq)
 have HK2 := Aside0.mk (show (w1.drewN nq).heap[bx]? = _ from HKx.out)
 clear HR1 HB1 HKx ec0 HBX
 generalize w1.drewN nq = w2 at HR2 HB2 HK2 ⊢
 go_loopg [10, 11] (xs.length + 1) (fun kq v10 v11 w' => ∃ (done xs' rest : List (List Int)) (i fuel : Nat), v10 = .int .i64 (done.length : Int) ∧ v11 = .int .i64 (i : Int) ∧ Aside0 (rest.length < kq) ∧ Aside0 (rhGo (fun l r => impl_toy_HashChildren.f k a0 a1 a2 a3 a4 a5 l r) b e fuel i done rest = some r) ∧ Aside0 (i + rest.length = xs.length ∧ done.length ≤ i) ∧ Aside0 (xs'.take done.length = done ∧ xs'.drop i = rest ∧ xs'.length = xs.length) ∧ Aside0 ((Kd.slice 5 (Kd.int .u8)).R 27 w' B (fun _ => True) (.slice A xs.length c) xs') ∧ Aside0 (w'.heap[bx]? = some (.cells #[.slice Ai xs.length ci, .int .i64 (b : Int), .int .i64 (e : Int), .int .u64 lv, .int .u64 ix] 122 (0, 0))) ∧ Aside0 (Below Bf w w'))
 case atStart => exact ⟨[], xs, xs, 0, xs.length + 1, rfl, rfl, ⟨Nat.lt_succ_self _⟩, H0, ⟨by simp, Nat.le_refl _⟩, ⟨rfl, rfl, rfl⟩, HR2, HK2, HB2⟩
 case round =>
  clear HR2 HB2 HK2 H0
  obtain ⟨done, xs', rest, i, fuel, rfl, rfl, HQ, HG, HLN, HXS, HR, HKb, HBw⟩ := hrel
  cases gk with
  | zero => exact absurd HQ.out (by omega)
  | succ k1 =>
   have hl2 : (xs.length : Int) < 1099511627776 := by have := HL.out; omega
   by_cases c1 : i < xs.length
   ·cases rest with
    | nil => exact absurd HLN.out.1 (by simp; omega)
    | cons x rest =>
    have hG := HG.out
    cases fuel with
    | zero => simp [rhGo] at hG
    | succ fuel =>
    rw [rhGo] at hG
    have hx : xs'.getD i [] = x := by
     have h1 : (xs'.drop i)[0]? = some x := by rw [HXS.out.2.1]; rfl
     rw [List.getElem?_drop, Nat.add_zero] at h1
     rw [List.getD_eq_getElem?_getD, h1]
     rfl
    have hrest : xs'.drop (i + 1) = rest := by
     rw [← List.drop_drop, HXS.out.2.1]
     rfl
    have hdl : done.length < xs.length := by have := HLN.out.2; omega
    obtain ⟨gh, cg, eA, hBg, hgl, cells, hcl⟩ := row_form2 HR.out (by rw [HXS.out.2.2]; omega)
    obtain ⟨rfl, rfl⟩ : A = some ⟨gh, 0, none⟩ ∧ c = cg := by injection eA with e1 e2 e3; exact ⟨e1, e3⟩
    clear eA
    obtain ⟨Ae, de, ecx, hE⟩ := row_elem2 HR.out i c1
    obtain ⟨Ad, dd, ecd, _⟩ := row_elem2 HR.out done.length hdl
    rw [hx] at ecx hE
    have efd := blk_frozen hcl done.length
    have hgb : gh ≠ bx := blk_ne hcl HKb.out (by decide)
    have ec1 : wr.cell? ⟨bx, 1, none⟩ = some (.int .i64 (b : Int)) := (blk_cell HKb.out 1).trans rfl
    have ec2 : wr.cell? ⟨bx, 2, none⟩ = some (.int .i64 (e : Int)) := (blk_cell HKb.out 2).trans rfl
    have HE := Aside0.mk hE
    have HX := Aside0.mk hx
    have HQ2 := Aside0.mk (show rest.length < k1 from by have := HQ.out; simp only [List.length_cons] at this; omega)
    have HL2 := Aside0.mk (show i + 1 + rest.length = xs.length from by have := HLN.out.1; simp only [List.length_cons] at this; omega)
    have HD2 := Aside0.mk HLN.out.2
    have HRE := Aside0.mk hrest
    have HGB := Aside0.mk hgb
    have HBG := Aside0.mk hBg
    have HBG2 := Aside0.mk (HOW.out _ rfl)
    have HDL := Aside0.mk hdl
    have i0 : (0 : Int) ≤ (i : Int) := by omega
    have i1 : (i : Int) < (xs.length : Int) := by omega
    have d0 : (0 : Int) ≤ (done.length : Int) := by omega
    have d1 : (done.length : Int) < (xs.length : Int) := by omega
    clear hE hx hrest hgb hBg hcl hgl HG hdl
    generalize hdn : done.length = dn at ecd efd d0 d1 ⊢
    have HDN := Aside0.mk hdn
    clear hdn
    by_cases c2 : b ≤ i ∧ i < e
    ·rw [if_pos c2] at hG
     obtain ⟨y, hy, hG⟩ := Option.bind_eq_some_iff.mp hG
     have HY := Aside0.mk hy
     have HG := Aside0.mk hG
     clear hy hG
     have b1 : (b : Int) ≤ (i : Int) := by omega
     have b2 : (i : Int) < (e : Int) := by omega
     have he' : (e : Int) ≤ (xs.length : Int) := by have := HEN.out; omega
     have HC2 := Aside0.mk c2
     clear c2
     obtain ⟨wo, hwo⟩ : ∃ wo, wo = wr := ⟨_, rfl⟩
     have hey : (xs'.drop (i + 1)).take (e - (i + 1)) = rest.take (e - i - 1) := by rw [HRE.out, Nat.sub_sub]
     have HY0 := Aside0.mk (show rhFold (fun l r => impl_toy_HashChildren.f k a0 a1 a2 a3 a4 a5 l r) x ((xs'.drop (i + 1)).take (e - (i + 1))) = some y from by rw [hey]; exact HY.out)
     clear hey HY
     go_wp2
     go_loopg [11, 13] (e - i) (fun kq v11 v13 w' => ∃ (acc : List Int) (A13 : Option Addr) (c13 j : Nat), v11 = .int .i64 (j : Int) ∧ v13 = .slice A13 acc.length c13 ∧ Aside0 (kq = e + 1 - j) ∧ Aside0 (i < j ∧ j ≤ e) ∧ Aside0 (rhFold (fun l r => impl_toy_HashChildren.f k a0 a1 a2 a3 a4 a5 l r) acc ((xs'.drop j).take (e - j)) = some y) ∧ Aside0 ((Kd.int .u8).R 5 w' B (fun _ => True) v13 acc) ∧ Aside0 ((Kd.slice 5 (Kd.int .u8)).R 27 w' B (fun _ => True) (.slice (some ⟨gh, 0, none⟩) xs.length c) xs') ∧ Aside0 (w'.heap[bx]? = some (.cells #[.slice Ai xs.length ci, .int .i64 (b : Int), .int .i64 (e : Int), .int .u64 lv, .int .u64 ix] 122 (0, 0))) ∧ Aside0 (Below Bf w w'))
     case atStart => exact ⟨x, Ae, de, i + 1, by simp, rfl, ⟨by omega⟩, ⟨by have := HC2.out; omega⟩, HY0, HE, HR, HKb, HBw⟩
     case round =>
      subst hwo
      clear HY0 HE HR HKb HBw ecx ecd efd ec1 ec2 b1 b2
      obtain ⟨acc, A13, c13, j, rfl, rfl, HQj, HJ, HY, HE, HR, HKb, HBw⟩ := hrel
      cases gk with
      | zero => exact absurd HQj.out (by have := HJ.out; omega)
      | succ k2 =>
       have ec2 : wr.cell? ⟨bx, 2, none⟩ = some (.int .i64 (e : Int)) := (blk_cell HKb.out 2).trans rfl
       by_cases c3 : j < e
       ·have hjl : j < xs'.length := by rw [HXS.out.2.2]; have := HEN.out; omega
        have hY1 := HY.out
        rw [List.drop_eq_getElem_cons hjl, show e - j = (e - (j + 1)) + 1 by omega, List.take_succ_cons, rhFold] at hY1
        obtain ⟨z, hz, hY⟩ := Option.bind_eq_some_iff.mp hY1
        clear hY1
        obtain ⟨Ax, dx, ecx, hX⟩ := row_elem2 HR.out j (by rw [← HXS.out.2.2]; exact hjl)
        rw [show xs'.getD j [] = xs'[j] by simp [hjl]] at ecx hX
        generalize xs'[j] = xe at ecx hX hz
        have HZ := Aside0.mk hz
        have HN := Aside0.mk hY
        have HX3 := Aside0.mk hX
        have j0 : (0 : Int) ≤ (j : Int) := by omega
        have j1 : (j : Int) < (xs.length : Int) := by have := HEN.out; omega
        have j2 : (j : Int) < (e : Int) := by omega
        clear hY hz hX HY hjl
        go_wp2_with ((with_reducible refine gate_value (x := .tmp 54) rfl ?_); refine callsFv_ (some 60) rfl rfl fv _ HFV.out #[.slice Ax xe.length dx, .slice A13 acc.length c13] #[.agg #[.int .i64 a0, .int .i64 a1, .int .i64 a2, .int .u64 a3, .int .u64 a4, .int .u64 a5], .slice Ax xe.length dx, .slice A13 acc.length c13] rfl rfl (by first | rfl | (simp only [Act.eval]; rfl)) (by (try simp only [List.map_toArray, List.map_cons, List.map_nil]); first | done | rfl) ?_; (with_reducible refine (impl_toy_HashChildren.calls k a0 a1 a2 a3 a4 a5 _ _ xe _ _ acc z _ ?side1 ?side2 ?side3 ?side4 HZ.out).mono ?_); (case side1 => exact (Kd.R_reads' HX3.out).2.2); (case side2 => exact (Kd.R_reads' HX3.out).2.1); (case side3 => exact (Kd.R_reads' HE.out).2.2); (case side4 => exact (Kd.R_reads' HE.out).2.1); rintro e' w4 ⟨v4, rfl, ho4, hb4⟩; refine ⟨_, rfl, ?_⟩; have HO4 := Aside0.mk ho4; have HB4 := Aside0.mk hb4; clear ho4 hb4)
        go_roundg k2
        case measure => have := HQj.out; omega
        case rel =>
         obtain ⟨A4, c4, rfl⟩ := Kd.R_slice HO4.out
         exact ⟨z, A4, c4, j + 1, by simp, rfl, ⟨by have := HQj.out; omega⟩, ⟨by have := HJ.out; omega⟩, HN, ⟨Kd.R_lower HO4.out (Nat.le_trans HBW.out (Nat.le_of_lt (blk_lt HKb.out)))⟩, ⟨Kd.R_below HR.out HB4.out⟩, ⟨blk_below HKb.out HB4.out⟩, ⟨HBw.out.trans (HB4.out.mono (Nat.le_trans HBF.out (Nat.le_of_lt (blk_lt HKb.out))))⟩⟩
       ·have hje : j = e := by have := HJ.out; omega
        subst hje
        have hY := HY.out
        rw [Nat.sub_self, List.take_zero, rhFold] at hY
        injection hY with hY
        subst hY
        have j2 : ¬ (j : Int) < (j : Int) := by omega
        have hjp : IntKind.i64.wrap ((j : Int) - 1) = ((j - 1 : Nat) : Int) := by rw [i64_w]; unfold wrap64; have := HJ.out; omega
        obtain ⟨Ad, dd, ecd, _⟩ := row_elem2 HR.out done.length HDL.out
        obtain ⟨gh', cg', eA, hBg, hgl, cells, hcl⟩ := row_form2 HR.out (by rw [HXS.out.2.2]; have := HDL.out; omega)
        obtain rfl : gh = gh' := by injection eA with e1 e2 e3; injection e1 with e1; injection e1
        have efd := blk_frozen hcl done.length
        rw [HDN.out] at ecd efd
        clear hcl hgl eA hBg HY
        go_wp2
        go_roundg k1
        case measure => omega
        case rel =>
         refine ⟨done ++ [acc], xs'.set done.length acc, rest.drop (j - i - 1), j, fuel, by rw [← HDN.out]; simp, by have := HJ.out; simp; omega, ⟨by have := HQ2.out; simp only [List.length_drop]; omega⟩, HG, ⟨by have := HL2.out; have := HJ.out; have := HEN.out; simp only [List.length_drop]; omega, by rw [List.length_append, List.length_singleton]; have := HD2.out; have := HJ.out; omega⟩, ⟨?_, ?_, ?_⟩, ⟨?_⟩, ⟨?_⟩, ⟨?_⟩⟩
         ·rw [List.length_append, List.length_singleton]; exact put_take HXS.out.1 (by rw [HXS.out.2.2]; exact HDL.out)
         ·rw [put_drop (by have := HD2.out; have := HJ.out; omega), ← HRE.out, List.drop_drop]
          congr 1
          have := HJ.out
          omega
         ·rw [List.length_set]; exact HXS.out.2.2
         ·rw [← HDN.out]; exact R_putrow2 HR.out (by rw [HXS.out.2.2]; exact HDL.out) HE.out
         ·exact blk_far HKb.out (Ne.symm HGB.out) _
         ·exact HBw.out.setCell HBG2.out _
    ·rw [if_neg c2] at hG
     have HG := Aside0.mk hG
     clear hG
     by_cases c3 : b ≤ i
     ·have c4 : ¬ i < e := fun h => c2 ⟨c3, h⟩
      have b1 : (b : Int) ≤ (i : Int) := by omega
      have b2 : ¬ (i : Int) < (e : Int) := by omega
      clear c2 c3 c4
      go_wp2
      go_roundg k1
      case measure => omega
      case rel =>
       refine ⟨done ++ [x], xs'.set done.length x, rest, i + 1, fuel, by rw [← HDN.out]; simp, by simp, HQ2, HG, ⟨HL2.out, by rw [List.length_append, List.length_singleton]; have := HD2.out; omega⟩, ⟨?_, ?_, ?_⟩, ⟨?_⟩, ⟨?_⟩, ⟨?_⟩⟩
       ·rw [List.length_append, List.length_singleton]; exact put_take HXS.out.1 (by rw [HXS.out.2.2]; exact HDL.out)
       ·rw [put_drop (by have := HD2.out; omega)]; exact HRE.out
       ·rw [List.length_set]; exact HXS.out.2.2
       ·rw [← HDN.out]; exact R_putrow2 HR.out (by rw [HXS.out.2.2]; exact HDL.out) HE.out
       ·exact blk_far HKb.out (Ne.symm HGB.out) _
       ·exact HBw.out.setCell HBG2.out _
     ·have b1 : ¬ (b : Int) ≤ (i : Int) := by omega
      clear c2 c3
      go_wp2
      go_roundg k1
      case measure => omega
      case rel =>
       refine ⟨done ++ [x], xs'.set done.length x, rest, i + 1, fuel, by rw [← HDN.out]; simp, by simp, HQ2, HG, ⟨HL2.out, by rw [List.length_append, List.length_singleton]; have := HD2.out; omega⟩, ⟨?_, ?_, ?_⟩, ⟨?_⟩, ⟨?_⟩, ⟨?_⟩⟩
       ·rw [List.length_append, List.length_singleton]; exact put_take HXS.out.1 (by rw [HXS.out.2.2]; exact HDL.out)
       ·rw [put_drop (by have := HD2.out; omega)]; exact HRE.out
       ·rw [List.length_set]; exact HXS.out.2.2
       ·rw [← HDN.out]; exact R_putrow2 HR.out (by rw [HXS.out.2.2]; exact HDL.out) HE.out
       ·exact blk_far HKb.out (Ne.symm HGB.out) _
       ·exact HBw.out.setCell HBG2.out _
   ·have hi : i = xs.length := by have := HLN.out.1; omega
    have hr0 : rest = [] := by have := HLN.out.1; exact List.length_eq_zero_iff.1 (by omega)
    subst hr0
    have hG := HG.out
    cases fuel with
    | zero => simp [rhGo] at hG
    | succ fuel =>
    rw [rhGo] at hG
    injection hG with hG
    subst hG
    subst hi
    have hnlt : ¬ ((xs.length : Int) < (xs.length : Int)) := by omega
    have hcc := (Kd.R_reads' HR.out).2.1
    have hdl := HLN.out.2
    obtain ⟨i0, hi0, hz0⟩ := Option.map_eq_some_iff.1 info27
    simp only [Prod.mk.injEq] at hz0
    have HT0 := (print_take_of (P := Tryd.prog) (Value.int .u8) (0 : Int) 25 27 .i64 Tryd.underlying25 hi0 hz0.2.1 A c (List.replicate xs.length 0) (done.length : Int) (by omega) (by simp; omega) (by rw [List.length_replicate]; omega)).1
    simp only [List.length_replicate, List.length_take, Int.toNat_natCast, Nat.min_eq_left hdl] at HT0
    have HDL := Aside0.mk hdl
    clear hi0 hz0 hdl hcc
    go_wp2
    go_ret2
    refine ⟨_, rfl, ?_, HBw.out⟩
    have hT := Kd.R_take HR.out (m := done.length) (by rw [HXS.out.2.2]; exact HDL.out)
    rw [HXS.out.1] at hT
    exact hT
theorem proof_Nodes_Rehash.any (k : Nat) (a0 a1 a2 a3 a4 a5 : Int) (fv : Value) (hfv : IsFn Tryd.prog fv 52 (.agg #[.int .i64 a0, .int .i64 a1, .int .i64 a2, .int .u64 a3, .int .u64 a4, .int .u64 a5]))
  (B : Nat) (Ai : Option Addr) (ni ci b e : Nat) (lv ix : Int) (v : Value) (xs r : List (List Int)) (w : World)
  (hR : (Kd.slice 5 (Kd.int .u8)).R 27 w B (fun _ => True) v xs) (hB : B ≤ w.heap.size) (hn : ni = xs.length) (hbe : b ≤ e) (hen : e ≤ xs.length) (hl : xs.length < 1099511627776)
  (h : rhGo (fun l r => impl_toy_HashChildren.f k a0 a1 a2 a3 a4 a5 l r) b e (xs.length + 1) 0 [] xs = some r) :
  Calls Tryd.prog 71 #[.agg #[.slice Ai ni ci, .int .i64 (b : Int), .int .i64 (e : Int), .int .u64 lv, .int .u64 ix], v, fv] w fun e' w' => ∃ v0, e' = .returned (.tuple #[v0, .nilIface]) ∧ (Kd.slice 5 (Kd.int .u8)).R 27 w' B (fun _ => True) v0 r ∧ Below B w w' :=
 proof_Nodes_Rehash.gen k a0 a1 a2 a3 a4 a5 fv hfv B B Ai ni ci b e lv ix v xs r w hR hB hB (fun k_ hk_ => Kd.R_base hR k_ hk_) hn hbe hen hl h
theorem proof_Nodes_Rehash.end_ : True := trivial


/-! ### errors_New: function 80 -/
def errors_New.f (a0 : ByteArray) : Option (Option Int) := some (some 0)
theorem errors_New.calls (a0 : ByteArray) (r : Option Int) (w : World) (h : errors_New.f a0 = some r) :
  Calls Tryd.prog 80 #[.string a0] w fun e w' => ∃ (T_ : Int → TypeId) (X_ : Int → Value), e = .returned (errW T_ X_ r) ∧ Below w.heap.size w w' := by
 injection h with h
 subst h
 go_enter Tryd.func80, Tryd.ntmps80
 go_wp2
 go_ret
 exact ⟨fun _ => 178, fun _ => .pointer (some ⟨w.heap.size, 0, none⟩), rfl, (Below.refl _ _).alloc (Nat.le_refl _) _⟩


/-! ### compact_NewNodeID: function 92 -/
def compact_NewNodeID.f (a0 : Int) (a1 : Int) : Option (Int × Int) := some (a0, a1)
set_option maxHeartbeats 8000000 in
set_option maxRecDepth 100000 in
theorem compact_NewNodeID.calls (a0 : Int) (a1 : Int) (r1 : Int) (r2 : Int) (w : World) (h : compact_NewNodeID.f a0 a1 = some (r1, r2)) :
  Calls Tryd.prog 92 #[.int .u64 a0, .int .u64 a1] w fun e w' => e = .returned (.agg #[.int .u64 r1, .int .u64 r2]) ∧ Below w.heap.size w w' := by
 have hu106 := Tryd.underlying106
 have HB := Aside0.mk (Below.refl w.heap.size w)
 have H : (some (a0, a1)) = some (r1, r2) := h
 clear h
 simp only [Option.some.injEq, Prod.mk.injEq] at H
 obtain ⟨rfl, rfl⟩ := H
 go_enter Tryd.func92, Tryd.ntmps92
 go_wp2_with (first | ((with_reducible refine gate_dst (N := 4) rfl ?_); refine box_event ?hg (N := 4) ?hd (cs := #[.int .u64 0, .int .u64 0]) (t := 106) ?hr ?_; (case hd => rfl); (case hg => rfl); (case hr => first | (go_simp; done) | (go_simp; rfl)); intro gb273 hg w3 hbox hb; have n0_ := Aside0.mk (below_step bB hb); have n1_ := Aside0.mk (hbox); have n2_ := Aside0.mk ((by rw [hg]; exact (below_size bB) : w.heap.size ≤ gb273)); have n3_ := Aside0.mk ((by rw [hg]; exact (below_size bB) : w.heap.size ≤ gb273)); clear HB; have HB := n0_; have BK273 := n1_; have GW273 := n2_; have GE273 := n3_; clear n0_ n1_ n2_ n3_; clear hb hbox hg; have hcz4_0 : w3.cell? ⟨gb273, 0, none⟩ = some (.int .u64 0) := (blk_cell BK273.out 0).trans rfl; have hcz4_1 : w3.cell? ⟨gb273, 1, none⟩ = some (.int .u64 0) := (blk_cell BK273.out 1).trans rfl; have hfz4_0 := blk_frozen BK273.out 0; have hfz4_1 := blk_frozen BK273.out 1))
 refine bodyPost_ret (results_cell_row rfl _ _ gb273 106 #[.int .u64 a0, .int .u64 a1] (0, 0) _ rfl (by (with_reducible repeat (first | refine blk_drewN ?_ _ | refine blk_drew ?_ | refine blk_alloc ?_ _)); refine blk_put (cs := #[.int .u64 a0, .int .u64 0]) ?_ 1 _ rfl; (with_reducible repeat (first | refine blk_drewN ?_ _ | refine blk_drew ?_ | refine blk_alloc ?_ _)); refine blk_put (cs := #[.int .u64 0, .int .u64 0]) ?_ 0 _ rfl; (with_reducible repeat (first | refine blk_drewN ?_ _ | refine blk_drew ?_ | refine blk_alloc ?_ _)); exact BK273.out) Tryd.underlying106 rfl (by kernel_rfl)) rfl ?_
 exact ⟨by first | rfl | (simp [errW_none, errW_some] <;> rfl) | (simp [*, errW_none, errW_some] <;> rfl), bB⟩

end Go.Proofs.YtkmdkmlgahfcpaaDoor.M

