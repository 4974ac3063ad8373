-- Written by a program of ours (wip/xp) out of the translation; Lean checks it.
import Derived.Test.YtkmdkmlgahfcpaaDoorSq
import Derived.Test.YtkmdkmlgahfcpaaDoorMm1
namespace Go.Proofs.YtkmdkmlgahfcpaaDoor.M
open Go.RowKit Go.Proofs.YtkmdkmlgahfcpaaDoorW.PrintWords Go.Proofs.YtkmdkmlgahfcpaaDoorW.PrintLast Go.Proofs.YtkmdkmlgahfcpaaDoorW.PrintMore
attribute [local go_sem] max2_int min2_int max_two min_two max_three min_three max_four min_four   -- for this text's walks alone
set_option linter.unusedVariables false
set_option linter.unusedSimpArgs false

/-! ### impl_toy_HashChildren: function 52 -/
def impl_toy_HashChildren.f (k : Nat) (a0_0 : Int) (a0_1 : Int) (a0_2 : Int) (a0_3 : Int) (a0_4 : Int) (a0_5 : Int) (l1 : List Int) (l2 : List Int) : Option (List Int) := if a0_0 = 1 then ((impl_mixed.f k a0_5 l1).bind fun t109 => ((impl_mixed.f k t109 (([255] : List Int))).bind fun t113 => ((impl_mixed.f k t113 l2).bind fun t114 => ((impl_word.f k t114 a0_2).bind fun t115 => (some t115))))) else ((some (([1] : List Int) : List Int)).bind fun y118 => ((impl_word.f k (IntKind.u64.wrap ((l1.length : Int))) 8).bind fun t121 => (if y118.length + t121.length < 140737488355328 then ((some (y118 ++ t121 : List Int)).bind fun y124 => (if y124.length + l1.length < 140737488355328 then ((some (y124 ++ l1 : List Int)).bind fun y127 => (if y127.length + l2.length < 140737488355328 then (some (y127 ++ l2)) else (none))) else (none))) else (none))))
theorem impl_toy_HashChildren.mono : ∀ a0 a1 a2 a3 a4 a5 a6 a7 k, LeO (impl_toy_HashChildren.f k a0 a1 a2 a3 a4 a5 a6 a7) (impl_toy_HashChildren.f (k + 1) a0 a1 a2 a3 a4 a5 a6 a7) := by
 intro a0 a1 a2 a3 a4 a5 a6 a7 k
 unfold impl_toy_HashChildren.f
 repeat' first
   | (with_reducible exact impl_mixed.mono _ _ _)
   | (with_reducible exact impl_word.mono _ _ _)
   | (with_reducible exact LeO.refl _)
   | (with_reducible exact LeO.none _)
   | (with_reducible refine LeO.ite ?_ ?_)
   | (with_reducible refine LeO.bind ?_ (fun _ => ?_))
   | exact impl_mixed.mono _ _ _
   | exact impl_word.mono _ _ _
   | exact LeO.none _
   | refine LeO.ite ?_ ?_
   | refine LeO.bind ?_ (fun _ => ?_)
def impl_toy_HashChildren.T2 : Bool × List (List Nat × List Nat) := (true, [([], []), ([0], [0]), ([1], [1]), ([], []), ([2, 3], [2, 3]), ([], []), ([4, 5, 4], [4, 5]), ([], []), ([6, 7, 6], [6, 7]), ([], []), ([9], [9]), ([10], [10]), ([8, 11, 8], [8, 11]), ([12, 12, 0, 1, 2, 3, 4, 5, 6, 7, 8, 9, 10, 11, 12], [12])])
def impl_toy_HashChildren.B2 : List Nat := [0, 1, 3, 0, 15, 0, 63, 0, 255, 0, 512, 1536, 4095, 8191]
theorem impl_toy_HashChildren.tab2 : rtab .any (opsOf Tryd.f52 2) = impl_toy_HashChildren.T2 := by kernel_rfl
theorem impl_toy_HashChildren.bits2 : waitsOk impl_toy_HashChildren.T2.2 impl_toy_HashChildren.B2 = true := by kernel_rfl
set_option maxHeartbeats 8000000 in
set_option maxRecDepth 100000 in
theorem impl_toy_HashChildren.calls (k : Nat) (a0_0 : Int) (a0_1 : Int) (a0_2 : Int) (a0_3 : Int) (a0_4 : Int) (a0_5 : Int) (A1 : Option Addr) (c1 : Nat) (l1 : List Int) (A2 : Option Addr) (c2 : Nat) (l2 : List Int) (r : List Int) (w : World) (hr1 : Kd.C (Kd.int .u8) w A1 l1.length l1) (hc1 : l1.length ≤ c1) (hr2 : Kd.C (Kd.int .u8) w A2 l2.length l2) (hc2 : l2.length ≤ c2) (h : impl_toy_HashChildren.f k a0_0 a0_1 a0_2 a0_3 a0_4 a0_5 l1 l2 = some r) :
  Calls Tryd.prog 52 #[.agg #[.int .i64 a0_0, .int .i64 a0_1, .int .i64 a0_2, .int .u64 a0_3, .int .u64 a0_4, .int .u64 a0_5], .slice A1 l1.length c1, .slice A2 l2.length c2] w fun e w' => ∃ v0_ : Value, e = .returned (v0_) ∧ Kd.R (Kd.int .u8) 5 w' w.heap.size (fun _ => True) v0_ r ∧ Below w.heap.size w w' := by
 have hu85 := Tryd.underlying85
 have HR1 := Aside0.mk hr1
 have HC1 := Aside0.mk hc1
 clear hr1 hc1
 have HR2 := Aside0.mk hr2
 have HC2 := Aside0.mk hc2
 clear hr2 hc2
 have HB := Aside0.mk (Below.refl w.heap.size w)
 have H : (if a0_0 = 1 then ((impl_mixed.f k a0_5 l1).bind fun t109 => ((impl_mixed.f k t109 (([255] : List Int))).bind fun t113 => ((impl_mixed.f k t113 l2).bind fun t114 => ((impl_word.f k t114 a0_2).bind fun t115 => (some t115))))) else ((some (([1] : List Int) : List Int)).bind fun y118 => ((impl_word.f k (IntKind.u64.wrap ((l1.length : Int))) 8).bind fun t121 => (if y118.length + t121.length < 140737488355328 then ((some (y118 ++ t121 : List Int)).bind fun y124 => (if y124.length + l1.length < 140737488355328 then ((some (y124 ++ l1 : List Int)).bind fun y127 => (if y127.length + l2.length < 140737488355328 then (some (y127 ++ l2)) else (none))) else (none))) else (none))))) = some r := h
 clear h
 by_cases c4 : a0_0 = 1
 ·rw [if_pos c4] at H
  have c4b0 : (a0_0 == 1) = true := beq_iff_eq.mpr c4
  have c4b1 : (a0_0 != 1) = false := bne_eq_false_iff_eq.mpr c4
  clear c4
  replace H := Option.bind_eq_some_iff.mp H
  obtain ⟨t109, A50, H⟩ := H
  replace H : ((impl_mixed.f k t109 (([255] : List Int))).bind fun t113 => ((impl_mixed.f k t113 l2).bind fun t114 => ((impl_word.f k t114 a0_2).bind fun t115 => (some t115)))) = some r := H
  have A5 := Aside0.mk A50
  clear A50
  obtain ⟨y110, hy110⟩ : ∃ y_ : List Int, y_ = (([255] : List Int)) := ⟨_, rfl⟩
  replace H : ((impl_mixed.f k t109 y110).bind fun t113 => ((impl_mixed.f k t113 l2).bind fun t114 => ((impl_word.f k t114 a0_2).bind fun t115 => (some t115)))) = some r := by first | (rw [hy110]; with_reducible exact H) | (have H2_ := (Option.bind_some _ _).symm.trans H; rw [hy110]; with_reducible exact H2_) | (have H2_ := (Option.bind_some _ _).symm.trans H; with_reducible exact H2_) | with_reducible exact H | (rw [hy110]; exact H) | exact H
  have Ny110 := Aside0.mk hy110
  clear hy110
  replace H := Option.bind_eq_some_iff.mp H
  obtain ⟨t113, A60, H⟩ := H
  replace H : ((impl_mixed.f k t113 l2).bind fun t114 => ((impl_word.f k t114 a0_2).bind fun t115 => (some t115))) = some r := H
  have A6 := Aside0.mk A60
  clear A60
  replace H := Option.bind_eq_some_iff.mp H
  obtain ⟨t114, A70, H⟩ := H
  replace H : ((impl_word.f k t114 a0_2).bind fun t115 => (some t115)) = some r := H
  have A7 := Aside0.mk A70
  clear A70
  replace H := Option.bind_eq_some_iff.mp H
  obtain ⟨t115, A80, H⟩ := H
  replace H : (some t115) = some r := H
  have A8 := Aside0.mk A80
  clear A80
  obtain rfl := Option.some.inj H
  go_enter Tryd.func52, Tryd.ntmps52
  try go_wp2_with (first | ((with_reducible refine gate_dst (N := 3) rfl ?_); refine box_event ?hg (N := 3) ?hd (cs := #[.int .i64 a0_0, .int .i64 a0_1, .int .i64 a0_2, .int .u64 a0_3, .int .u64 a0_4, .int .u64 a0_5]) (t := 85) ?hr ?_; (case hd => rfl); (case hg => rfl); (case hr => first | (go_simp; done) | (go_simp; rfl)); intro gb108 hg w9 hbox hb; have n0_ := Aside0.mk (below_step bB hb); have n1_ := Aside0.mk (hbox); have n2_ := Aside0.mk ((by rw [hg]; exact (below_size bB) : w.heap.size ≤ gb108)); have n3_ := Aside0.mk ((by rw [hg]; exact (below_size bB) : w.heap.size ≤ gb108)); clear HB; have HB := n0_; have BK108 := n1_; have GW108 := n2_; have GE108 := n3_; clear n0_ n1_ n2_ n3_; clear hb hbox hg; have hcz10_0 : w9.cell? ⟨gb108, 0, none⟩ = some (.int .i64 a0_0) := (blk_cell BK108.out 0).trans rfl; have hcz10_1 : w9.cell? ⟨gb108, 1, none⟩ = some (.int .i64 a0_1) := (blk_cell BK108.out 1).trans rfl; have hcz10_2 : w9.cell? ⟨gb108, 2, none⟩ = some (.int .i64 a0_2) := (blk_cell BK108.out 2).trans rfl; have hcz10_3 : w9.cell? ⟨gb108, 3, none⟩ = some (.int .u64 a0_3) := (blk_cell BK108.out 3).trans rfl; have hcz10_4 : w9.cell? ⟨gb108, 4, none⟩ = some (.int .u64 a0_4) := (blk_cell BK108.out 4).trans rfl; have hcz10_5 : w9.cell? ⟨gb108, 5, none⟩ = some (.int .u64 a0_5) := (blk_cell BK108.out 5).trans rfl; have hfz10_0 := blk_frozen BK108.out 0; have hfz10_1 := blk_frozen BK108.out 1; have hfz10_2 := blk_frozen BK108.out 2; have hfz10_3 := blk_frozen BK108.out 3; have hfz10_4 := blk_frozen BK108.out 4; have hfz10_5 := blk_frozen BK108.out 5))
  have n0_ := Aside0.mk (blk_drew BK108.out)
  have n1_ := Aside0.mk (below_drew1 HB.out)
  clear BK108
  clear HB
  have BK108 := n0_
  have HB := n1_
  clear n0_ n1_
  refine start_ (n := 14) (S := fun w' => w'.cell? ⟨gb108, 0, none⟩ = some (.int .i64 a0_0) ∧ w'.cell? ⟨gb108, 1, none⟩ = some (.int .i64 a0_1) ∧ w'.cell? ⟨gb108, 2, none⟩ = some (.int .i64 a0_2) ∧ w'.cell? ⟨gb108, 3, none⟩ = some (.int .u64 a0_3) ∧ w'.cell? ⟨gb108, 4, none⟩ = some (.int .u64 a0_4) ∧ w'.cell? ⟨gb108, 5, none⟩ = some (.int .u64 a0_5)) (ds := []) #[false, false, false, false, false, false, false, false, false, false, false, false, false, false] (by kernel_rfl) rfl rfl ⟨(blk_cell BK108.out 0).trans rfl, (blk_cell BK108.out 1).trans rfl, (blk_cell BK108.out 2).trans rfl, (blk_cell BK108.out 3).trans rfl, (blk_cell BK108.out 4).trans rfl, (blk_cell BK108.out 5).trans rfl⟩ (fun hHeld => ?_); refine with_tabW impl_toy_HashChildren.tab2 impl_toy_HashChildren.bits2 (fun HT_ HW_ => ?_)
  generalize w9.drew = w11 at BK108 HB hHeld ⊢
  refine pure_ (i := 0) (N := some 12) (v := ?_) (a' := ?_) #[true, false, false, false, false, false, false, false, false, false, false, false, false, false] rfl rfl (any_of HT_.out (by kernel_rfl)) (fun _ _ _ h => h) (Or.inl ⟨by rfl, ?_⟩) ?_ ?_
  rotate_left
  ·intro w'
   go_simp
   with_reducible rfl
  rotate_left
  ·simp only [Act.put, List.setIfInBounds_toArray, List.set_cons_zero, List.set_cons_succ, i64_w, i32_w]
   rfl
  refine pure_ (i := 1) (N := some 13) (v := ?_) (a' := ?_) #[true, true, false, false, false, false, false, false, false, false, false, false, false, false] rfl rfl (any_of HT_.out (by kernel_rfl)) (fun _ _ _ h => h) (Or.inl ⟨by rfl, ?_⟩) ?_ ?_
  rotate_left
  ·intro w'
   go_simp
   with_reducible rfl
  rotate_left
  ·simp only [Act.put, List.setIfInBounds_toArray, List.set_cons_zero, List.set_cons_succ, i64_w, i32_w]
   rfl
  refine pure_ (i := 3) (N := some 15) (v := ?_) (a' := ?_) #[true, true, false, true, false, false, false, false, false, false, false, false, false, false] rfl rfl (any_of HT_.out (by kernel_rfl)) (fun _ _ _ h => h) (Or.inl ⟨by rfl, ?_⟩) ?_ ?_
  rotate_left
  ·intro w'
   go_simp
   with_reducible rfl
  rotate_left
  ·simp only [Act.put, List.setIfInBounds_toArray, List.set_cons_zero, List.set_cons_succ, i64_w, i32_w]
   rfl
  refine pure_ (i := 7) (N := some 19) (v := ?_) (a' := ?_) #[true, true, false, true, false, false, false, true, false, false, false, false, false, false] rfl rfl (any_of HT_.out (by kernel_rfl)) (fun _ _ _ h => h) (Or.inl ⟨by rfl, ?_⟩) ?_ ?_
  rotate_left
  ·intro w'
   go_simp
   with_reducible rfl
  rotate_left
  ·simp only [Act.put, List.setIfInBounds_toArray, List.set_cons_zero, List.set_cons_succ, i64_w, i32_w]
   rfl
  refine pure_ (i := 9) (N := some 21) (v := ?_) (a' := ?_) #[true, true, false, true, false, false, false, true, false, true, false, false, false, false] rfl rfl (any_of HT_.out (by kernel_rfl)) (fun _ _ _ h => h) (Or.inl ⟨by rfl, ?_⟩) ?_ ?_
  rotate_left
  ·intro w'
   go_simp
   with_reducible rfl
  rotate_left
  ·simp only [Act.put, List.setIfInBounds_toArray, List.set_cons_zero, List.set_cons_succ, i64_w, i32_w]
   rfl
  refine pure_ (i := 10) (N := some 22) (v := ?_) (a' := ?_) #[true, true, false, true, false, false, false, true, false, true, true, false, false, false] rfl rfl (any_of HT_.out (by kernel_rfl)) (fun _ _ _ h => h) (Or.inl ⟨by rfl, ?_⟩) ?_ ?_
  rotate_left
  ·intro w'
   go_simp
   with_reducible rfl
  rotate_left
  ·simp only [Act.put, List.setIfInBounds_toArray, List.set_cons_zero, List.set_cons_succ, i64_w, i32_w]
   rfl
  refine take_ (i := 2) (N := some 14) (v := ?_) (a' := ?_) #[true, true, true, true, false, false, false, true, false, true, true, false, false, false] rfl rfl (take_ofW HT_.out HW_.out (by kernel_rfl)) (fun _ _ _ h => h) (Or.inl ⟨by rfl, ?_⟩) hHeld ?_ ?_
  rotate_left
  ·rintro w' ⟨s0, s1, s2, s3, s4, s5⟩
   go_simp
   with_reducible rfl
  rotate_left
  ·simp only [Act.put, List.setIfInBounds_toArray, List.set_cons_zero, List.set_cons_succ, i64_w, i32_w]
   rfl
  refine take_ (i := 11) (N := some 23) (v := ?_) (a' := ?_) #[true, true, true, true, false, false, false, true, false, true, true, true, false, false] rfl rfl (take_ofW HT_.out HW_.out (by kernel_rfl)) (fun _ _ _ h => h) (Or.inl ⟨by rfl, ?_⟩) hHeld ?_ ?_
  rotate_left
  ·rintro w' ⟨s0, s1, s2, s3, s4, s5⟩
   go_simp
   with_reducible rfl
  rotate_left
  ·simp only [Act.put, List.setIfInBounds_toArray, List.set_cons_zero, List.set_cons_succ, i64_w, i32_w]
   rfl
  refine join_ (σ := Value) 4 #[true, true, true, true, true, true, false, true, false, true, true, true, false, false] (fun s_ => [(16, .int .u64 t109), (17, s_)]) (fun s_ w' => (w'.cell? ⟨gb108, 0, none⟩ = some (.int .i64 a0_0) ∧ w'.cell? ⟨gb108, 1, none⟩ = some (.int .i64 a0_1) ∧ w'.cell? ⟨gb108, 2, none⟩ = some (.int .i64 a0_2) ∧ w'.cell? ⟨gb108, 3, none⟩ = some (.int .u64 a0_3) ∧ w'.cell? ⟨gb108, 4, none⟩ = some (.int .u64 a0_4) ∧ w'.cell? ⟨gb108, 5, none⟩ = some (.int .u64 a0_5)) ∧ (Kd.R (Kd.int .u8) 5 w' w.heap.size (fun _ => True) s_ y110) ∧ (w'.heap[gb108]? = some (.cells #[.int .i64 a0_0, .int .i64 a0_1, .int .i64 a0_2, .int .u64 a0_3, .int .u64 a0_4, .int .u64 a0_5] 85 (0, 0))) ∧ (Below w.heap.size w w')) ?_ ?_
  rotate_left
  ·intro hCont
   refine two_ (i := 4) (j := 5) (Ni := some 16) (Nj := some 17) #[true, true, true, true, true, false, false, true, false, true, true, true, false, false] #[true, true, true, true, false, true, false, true, false, true, true, true, false, false] rfl rfl rfl rfl (two_of HT_.out (by kernel_rfl)) (by decide) (by decide) (fun K hK => ?_) (fun K hK => ?_)
   ·skip
    refine goes_ Tryd.func90 (by kernel_rfl) rfl #[.int .u64 a0_5, .slice A1 l1.length c1] (by rfl) rfl rfl aV ?_
    with_reducible refine (impl_mixed.calls k a0_5 _ _ l1 t109 _ ?side1 ?side2 A5.out).mono ?_
    (case side1 => repeat (first | exact (Kd.C_below HR1.out HB.out) | (with_reducible refine Kd.C_alloc ?_ _) | (with_reducible refine Kd.C_drewN ?_ _) | (with_reducible refine Kd.C_drew ?_)))
    (case side2 => exact HC1.out)
    rintro e w' ⟨rfl, ⟨nd, rfl⟩⟩
    refine ⟨_, rfl, ?_⟩
    refine hK.out _ _ ⟨(blk_cell BK108.out 0).trans rfl, (blk_cell BK108.out 1).trans rfl, (blk_cell BK108.out 2).trans rfl, (blk_cell BK108.out 3).trans rfl, (blk_cell BK108.out 4).trans rfl, (blk_cell BK108.out 5).trans rfl⟩ (fun hHeld => ?_)
    clear hK K
    refine norm_ (a' := ?_) ?_ ?_
    rotate_left
    ·show Act.put _ (some 16) _ = _
     simp only [Act.put, List.setIfInBounds_toArray, List.set_cons_zero, List.set_cons_succ, i64_w, i32_w]
     rfl
    refine one_ (i := 5) (N := some 17) #[true, true, true, true, true, true, false, true, false, true, true, true, false, false] rfl rfl (one_of HT_.out (by kernel_rfl)) (by decide) (fun K hK => ?_)
    refine Kd.R_lit_step (Kd.int .u8) _ 5 ?hg (N := 17) ?hd (xs := ([255] : List Int)) (inner := [.int .u8 255]) (ok := fun _ => True) (okp := fun _ => True) ?hr ?hp (fun _ hk => hk) trivial (Below.refl _ _) (Nat.le_refl _) (by simp) ?_; (case hd => rfl); (case hg => rfl); (case hr => first | (go_simp; done) | (go_simp; rfl)); (case hp => exact (Reps.one (show Kd.M (Kd.int .u8) _ _ _ 255 [.int .u8 255] from rfl) (Reps.none _ _)))
    intro v111 w12 ho13 hb hg_ hnew_
    clear hg_ hnew_
    (first | rw [← Ny110.out] at ho13 | (simp only [Int.reduceToNat] at ho13; rw [← Ny110.out] at ho13))
    have n0_ := Aside0.mk (Kd.R_lower ho13 (below_size bB))
    have n1_ := Aside0.mk (blk_below (g := gb108) (o := .cells #[.int .i64 a0_0, .int .i64 a0_1, .int .i64 a0_2, .int .u64 a0_3, .int .u64 a0_4, .int .u64 a0_5] 85 (0, 0)) (kB BK108.out) hb)
    have n2_ := Aside0.mk (below_step bB hb)
    clear BK108
    clear HB
    have HO112 := n0_
    have BK108 := n1_
    have HB := n2_
    clear n0_ n1_ n2_
    clear hb ho13
    refine hK.out _ _ ⟨(blk_cell BK108.out 0).trans rfl, (blk_cell BK108.out 1).trans rfl, (blk_cell BK108.out 2).trans rfl, (blk_cell BK108.out 3).trans rfl, (blk_cell BK108.out 4).trans rfl, (blk_cell BK108.out 5).trans rfl⟩ (fun hHeld => ?_)
    clear hK K
    refine norm_ (a' := ?_) ?_ ?_
    rotate_left
    ·show Act.put _ (some 17) _ = _
     simp only [Act.put, List.setIfInBounds_toArray, List.set_cons_zero, List.set_cons_succ, i64_w, i32_w]
     rfl
    exact norm_ (by simp only [putAll, Act.put, List.setIfInBounds_toArray, List.set_cons_zero, List.set_cons_succ]) (hCont (v111) _ ⟨hHeld, (kR HO112.out), (kB BK108.out), bB⟩)
   ·skip
    refine Kd.R_lit_step (Kd.int .u8) _ 5 ?hg (N := 17) ?hd (xs := ([255] : List Int)) (inner := [.int .u8 255]) (ok := fun _ => True) (okp := fun _ => True) ?hr ?hp (fun _ hk => hk) trivial (Below.refl _ _) (Nat.le_refl _) (by simp) ?_; (case hd => rfl); (case hg => rfl); (case hr => first | (go_simp; done) | (go_simp; rfl)); (case hp => exact (Reps.one (show Kd.M (Kd.int .u8) _ _ _ 255 [.int .u8 255] from rfl) (Reps.none _ _)))
    intro v111 w12 ho13 hb hg_ hnew_
    clear hg_ hnew_
    (first | rw [← Ny110.out] at ho13 | (simp only [Int.reduceToNat] at ho13; rw [← Ny110.out] at ho13))
    have n0_ := Aside0.mk (Kd.R_lower ho13 (below_size bB))
    have n1_ := Aside0.mk (blk_below (g := gb108) (o := .cells #[.int .i64 a0_0, .int .i64 a0_1, .int .i64 a0_2, .int .u64 a0_3, .int .u64 a0_4, .int .u64 a0_5] 85 (0, 0)) (kB BK108.out) hb)
    have n2_ := Aside0.mk (below_step bB hb)
    clear BK108
    clear HB
    have HO112 := n0_
    have BK108 := n1_
    have HB := n2_
    clear n0_ n1_ n2_
    clear hb ho13
    refine hK.out _ _ ⟨(blk_cell BK108.out 0).trans rfl, (blk_cell BK108.out 1).trans rfl, (blk_cell BK108.out 2).trans rfl, (blk_cell BK108.out 3).trans rfl, (blk_cell BK108.out 4).trans rfl, (blk_cell BK108.out 5).trans rfl⟩ (fun hHeld => ?_)
    clear hK K
    refine norm_ (a' := ?_) ?_ ?_
    rotate_left
    ·show Act.put _ (some 17) _ = _
     simp only [Act.put, List.setIfInBounds_toArray, List.set_cons_zero, List.set_cons_succ, i64_w, i32_w]
     rfl
    refine one_ (i := 4) (N := some 16) #[true, true, true, true, true, true, false, true, false, true, true, true, false, false] rfl rfl (one_of HT_.out (by kernel_rfl)) (by decide) (fun K hK => ?_)
    refine goes_ Tryd.func90 (by kernel_rfl) rfl #[.int .u64 a0_5, .slice A1 l1.length c1] (by rfl) rfl rfl aV ?_
    with_reducible refine (impl_mixed.calls k a0_5 _ _ l1 t109 _ ?side1 ?side2 A5.out).mono ?_
    (case side1 => repeat (first | exact (Kd.C_below HR1.out HB.out) | (with_reducible refine Kd.C_alloc ?_ _) | (with_reducible refine Kd.C_drewN ?_ _) | (with_reducible refine Kd.C_drew ?_)))
    (case side2 => exact HC1.out)
    rintro e w' ⟨rfl, ⟨nd, rfl⟩⟩
    refine ⟨_, rfl, ?_⟩
    refine hK.out _ _ ⟨(blk_cell BK108.out 0).trans rfl, (blk_cell BK108.out 1).trans rfl, (blk_cell BK108.out 2).trans rfl, (blk_cell BK108.out 3).trans rfl, (blk_cell BK108.out 4).trans rfl, (blk_cell BK108.out 5).trans rfl⟩ (fun hHeld => ?_)
    clear hK K
    refine norm_ (a' := ?_) ?_ ?_
    rotate_left
    ·show Act.put _ (some 16) _ = _
     simp only [Act.put, List.setIfInBounds_toArray, List.set_cons_zero, List.set_cons_succ, i64_w, i32_w]
     rfl
    exact norm_ (by simp only [putAll, Act.put, List.setIfInBounds_toArray, List.set_cons_zero, List.set_cons_succ]) (hCont (v111) _ ⟨hHeld, (kR HO112.out), (kB BK108.out), bB⟩)
  rintro v111 w14 ⟨hS_, h0_, h1_, h2_⟩
  have n0_ : Aside0 (Kd.R (Kd.int .u8) 5 w14 w.heap.size (fun _ => True) v111 y110) := ⟨h0_⟩
  have n1_ : Aside0 (w14.heap[gb108]? = some (.cells #[.int .i64 a0_0, .int .i64 a0_1, .int .i64 a0_2, .int .u64 a0_3, .int .u64 a0_4, .int .u64 a0_5] 85 (0, 0))) := ⟨h1_⟩
  have n2_ : Aside0 (Below w.heap.size w w14) := ⟨h2_⟩
  clear BK108
  clear HB
  clear h0_ h1_ h2_
  have HO112 := n0_
  have BK108 := n1_
  have HB := n2_
  clear n0_ n1_ n2_
  have hHeld : w14.cell? ⟨gb108, 0, none⟩ = some (.int .i64 a0_0) ∧ w14.cell? ⟨gb108, 1, none⟩ = some (.int .i64 a0_1) ∧ w14.cell? ⟨gb108, 2, none⟩ = some (.int .i64 a0_2) ∧ w14.cell? ⟨gb108, 3, none⟩ = some (.int .u64 a0_3) ∧ w14.cell? ⟨gb108, 4, none⟩ = some (.int .u64 a0_4) ∧ w14.cell? ⟨gb108, 5, none⟩ = some (.int .u64 a0_5) := hS_
  obtain ⟨Ao15, co15, eo15⟩ := Kd.R_slice HO112.out
  (first | subst eo15 | (injection eo15 with f1_ f2_ f3_; have f4_ := f1_.symm; have f5_ := f3_.symm; clear f1_ f2_ f3_; subst f4_; subst f5_))
  refine norm_ (a' := ?_) ?_ ?_
  rotate_left
  ·simp only [putAll, Act.put, List.setIfInBounds_toArray, List.set_cons_zero, List.set_cons_succ]
   rfl
  refine one_ (i := 6) (N := some 18) #[true, true, true, true, true, true, true, true, false, true, true, true, false, false] rfl rfl (one_of HT_.out (by kernel_rfl)) (by decide) (fun K hK => ?_)
  refine goes_ Tryd.func90 (by kernel_rfl) rfl #[.int .u64 t109, .slice Ao15 y110.length co15] (by rfl) rfl rfl aV ?_
  with_reducible refine (impl_mixed.calls k t109 _ _ y110 t113 _ ?side1 ?side2 A6.out).mono ?_
  (case side1 => repeat (first | exact (Kd.R_reads' HO112.out).2.2 | (with_reducible refine Kd.C_alloc ?_ _) | (with_reducible refine Kd.C_drewN ?_ _) | (with_reducible refine Kd.C_drew ?_)))
  (case side2 => exact (Kd.R_reads' HO112.out).2.1)
  rintro e w' ⟨rfl, ⟨nd, rfl⟩⟩
  refine ⟨_, rfl, ?_⟩
  refine hK.out _ _ ⟨(blk_cell BK108.out 0).trans rfl, (blk_cell BK108.out 1).trans rfl, (blk_cell BK108.out 2).trans rfl, (blk_cell BK108.out 3).trans rfl, (blk_cell BK108.out 4).trans rfl, (blk_cell BK108.out 5).trans rfl⟩ (fun hHeld => ?_)
  clear hK K
  refine norm_ (a' := ?_) ?_ ?_
  rotate_left
  ·show Act.put _ (some 18) _ = _
   simp only [Act.put, List.setIfInBounds_toArray, List.set_cons_zero, List.set_cons_succ, i64_w, i32_w]
   rfl
  refine one_ (i := 8) (N := some 20) #[true, true, true, true, true, true, true, true, true, true, true, true, false, false] rfl rfl (one_of HT_.out (by kernel_rfl)) (by decide) (fun K hK => ?_)
  refine goes_ Tryd.func90 (by kernel_rfl) rfl #[.int .u64 t113, .slice A2 l2.length c2] (by rfl) rfl rfl aV ?_
  with_reducible refine (impl_mixed.calls k t113 _ _ l2 t114 _ ?side1 ?side2 A7.out).mono ?_
  (case side1 => repeat (first | exact (Kd.C_below HR2.out bB) | (with_reducible refine Kd.C_alloc ?_ _) | (with_reducible refine Kd.C_drewN ?_ _) | (with_reducible refine Kd.C_drew ?_)))
  (case side2 => exact HC2.out)
  rintro e w' ⟨rfl, ⟨nd, rfl⟩⟩
  refine ⟨_, rfl, ?_⟩
  refine hK.out _ _ ⟨(blk_cell BK108.out 0).trans rfl, (blk_cell BK108.out 1).trans rfl, (blk_cell BK108.out 2).trans rfl, (blk_cell BK108.out 3).trans rfl, (blk_cell BK108.out 4).trans rfl, (blk_cell BK108.out 5).trans rfl⟩ (fun hHeld => ?_)
  clear hK K
  refine norm_ (a' := ?_) ?_ ?_
  rotate_left
  ·show Act.put _ (some 20) _ = _
   simp only [Act.put, List.setIfInBounds_toArray, List.set_cons_zero, List.set_cons_succ, i64_w, i32_w]
   rfl
  refine one_ (i := 12) (N := some 24) #[true, true, true, true, true, true, true, true, true, true, true, true, true, false] rfl rfl (one_of HT_.out (by kernel_rfl)) (by decide) (fun K hK => ?_)
  refine goes_ Tryd.func89 (by kernel_rfl) rfl #[.int .u64 t114, .int .i64 a0_2] (by rfl) rfl rfl aV ?_
  with_reducible refine (impl_word.calls k t114 a0_2 t115 _ A8.out).mono ?_
  rintro e w16 ⟨v116, rfl, ho0, hb⟩
  refine ⟨_, rfl, ?_⟩
  have n0_ := Aside0.mk (Kd.R_elder' (kR HO112.out) (Kd.R_base ho0) hb)
  have n1_ := Aside0.mk (Kd.R_lower (Kd.R_new' ho0 (Kd.R_lt (kR HO112.out))) (below_size bB))
  have n2_ := Aside0.mk (blk_below (g := gb108) (o := .cells #[.int .i64 a0_0, .int .i64 a0_1, .int .i64 a0_2, .int .u64 a0_3, .int .u64 a0_4, .int .u64 a0_5] 85 (0, 0)) (kB BK108.out) hb)
  have n3_ := Aside0.mk (below_step bB hb)
  clear HO112
  clear BK108
  clear HB
  have HO112 := n0_
  have HO117 := n1_
  have BK108 := n2_
  have HB := n3_
  clear n0_ n1_ n2_ n3_
  (try clear hb)
  (try clear hb2)
  (try clear hk)
  (try clear hi)
  (try clear ho0)
  refine hK.out _ _ ⟨(blk_cell BK108.out 0).trans rfl, (blk_cell BK108.out 1).trans rfl, (blk_cell BK108.out 2).trans rfl, (blk_cell BK108.out 3).trans rfl, (blk_cell BK108.out 4).trans rfl, (blk_cell BK108.out 5).trans rfl⟩ (fun hHeld => ?_)
  clear hK K
  refine norm_ (a' := ?_) ?_ ?_
  rotate_left
  ·show Act.put _ (some 24) _ = _
   simp only [Act.put, List.setIfInBounds_toArray, List.set_cons_zero, List.set_cons_succ, i64_w, i32_w]
   rfl
  refine pure_ (i := 13) (N := some 6) (v := ?_) (a' := ?_) #[true, true, true, true, true, true, true, true, true, true, true, true, true, true] rfl rfl (any_of HT_.out (by kernel_rfl)) (fun _ _ _ h => h) (Or.inl ⟨by rfl, ?_⟩) ?_ ?_
  rotate_left
  ·intro w'
   go_simp
   with_reducible rfl
  rotate_left
  ·simp only [Act.put, List.setIfInBounds_toArray, List.set_cons_zero, List.set_cons_succ, i64_w, i32_w]
   rfl
  refine done_ (done_of HT_.out (by kernel_rfl)) ?_
  try go_wp2
  go_ret
  exact ⟨_, by first | rfl | (simp [errW_none, errW_some] <;> rfl) | (simp [*, errW_none, errW_some] <;> rfl), by (with_reducible repeat (first | apply Kd.R_alloc | apply Kd.R_drewN | apply Kd.R_drew)); exact Kd.R_mono HO117.out (fun _ hk => trivial), bB⟩
 ·rw [if_neg c4] at H
  have c4b0 : (a0_0 == 1) = false := beq_eq_false_iff_ne.mpr c4
  have c4b1 : (a0_0 != 1) = true := bne_iff_ne.mpr c4
  obtain ⟨y118, hy118⟩ : ∃ y_ : List Int, y_ = (([1] : List Int)) := ⟨_, rfl⟩
  replace H : ((impl_word.f k (IntKind.u64.wrap ((l1.length : Int))) 8).bind fun t121 => (if y118.length + t121.length < 140737488355328 then ((some (y118 ++ t121 : List Int)).bind fun y124 => (if y124.length + l1.length < 140737488355328 then ((some (y124 ++ l1 : List Int)).bind fun y127 => (if y127.length + l2.length < 140737488355328 then (some (y127 ++ l2)) else (none))) else (none))) else (none))) = some r := by first | (rw [hy118]; with_reducible exact H) | (have H2_ := (Option.bind_some _ _).symm.trans H; rw [hy118]; with_reducible exact H2_) | (have H2_ := (Option.bind_some _ _).symm.trans H; with_reducible exact H2_) | with_reducible exact H | (rw [hy118]; exact H) | exact H
  have Ny118 := Aside0.mk hy118
  clear hy118
  replace H := Option.bind_eq_some_iff.mp H
  obtain ⟨t121, A170, H⟩ := H
  replace H : (if y118.length + t121.length < 140737488355328 then ((some (y118 ++ t121 : List Int)).bind fun y124 => (if y124.length + l1.length < 140737488355328 then ((some (y124 ++ l1 : List Int)).bind fun y127 => (if y127.length + l2.length < 140737488355328 then (some (y127 ++ l2)) else (none))) else (none))) else (none)) = some r := H
  have A17 := Aside0.mk A170
  clear A170
  by_cases c18 : y118.length + t121.length < 140737488355328
  ·rw [if_pos c18] at H
   have LMc18 := Aside0.mk c18
   clear c18
   obtain ⟨y124, hy124⟩ : ∃ y_ : List Int, y_ = (y118 ++ t121) := ⟨_, rfl⟩
   replace H : (if y124.length + l1.length < 140737488355328 then ((some (y124 ++ l1 : List Int)).bind fun y127 => (if y127.length + l2.length < 140737488355328 then (some (y127 ++ l2)) else (none))) else (none)) = some r := by first | (rw [hy124]; with_reducible exact H) | (have H2_ := (Option.bind_some _ _).symm.trans H; rw [hy124]; with_reducible exact H2_) | (have H2_ := (Option.bind_some _ _).symm.trans H; with_reducible exact H2_) | with_reducible exact H | (rw [hy124]; exact H) | exact H
   have Ny124 := Aside0.mk hy124
   clear hy124
   by_cases c19 : y124.length + l1.length < 140737488355328
   ·rw [if_pos c19] at H
    have LMc19 := Aside0.mk c19
    clear c19
    obtain ⟨y127, hy127⟩ : ∃ y_ : List Int, y_ = (y124 ++ l1) := ⟨_, rfl⟩
    replace H : (if y127.length + l2.length < 140737488355328 then (some (y127 ++ l2)) else (none)) = some r := by first | (rw [hy127]; with_reducible exact H) | (have H2_ := (Option.bind_some _ _).symm.trans H; rw [hy127]; with_reducible exact H2_) | (have H2_ := (Option.bind_some _ _).symm.trans H; with_reducible exact H2_) | with_reducible exact H | (rw [hy127]; exact H) | exact H
    have Ny127 := Aside0.mk hy127
    clear hy127
    by_cases c20 : y127.length + l2.length < 140737488355328
    ·rw [if_pos c20] at H
     have LMc20 := Aside0.mk c20
     clear c20
     obtain ⟨y130, hy130⟩ : ∃ y_ : List Int, y_ = (y127 ++ l2) := ⟨_, rfl⟩
     replace H : (some y130) = some r := by first | (rw [hy130]; with_reducible exact H) | (have H2_ := (Option.bind_some _ _).symm.trans H; rw [hy130]; with_reducible exact H2_) | (have H2_ := (Option.bind_some _ _).symm.trans H; with_reducible exact H2_) | with_reducible exact H | (rw [hy130]; exact H) | exact H
     have Ny130 := Aside0.mk hy130
     clear hy130
     obtain rfl := Option.some.inj H
     go_enter Tryd.func52, Tryd.ntmps52
     go_wp2_with (first | ((with_reducible refine gate_dst (N := 3) rfl ?_); refine box_event ?hg (N := 3) ?hd (cs := #[.int .i64 a0_0, .int .i64 a0_1, .int .i64 a0_2, .int .u64 a0_3, .int .u64 a0_4, .int .u64 a0_5]) (t := 85) ?hr ?_; (case hd => rfl); (case hg => rfl); (case hr => first | (go_simp; done) | (go_simp; rfl)); intro gb108 hg w21 hbox hb; have n0_ := Aside0.mk (below_step bB hb); have n1_ := Aside0.mk (hbox); have n2_ := Aside0.mk ((by rw [hg]; exact (below_size bB) : w.heap.size ≤ gb108)); have n3_ := Aside0.mk ((by rw [hg]; exact (below_size bB) : w.heap.size ≤ gb108)); clear HB; have HB := n0_; have BK108 := n1_; have GW108 := n2_; have GE108 := n3_; clear n0_ n1_ n2_ n3_; clear hb hbox hg; have hcz22_0 : w21.cell? ⟨gb108, 0, none⟩ = some (.int .i64 a0_0) := (blk_cell BK108.out 0).trans rfl; have hcz22_1 : w21.cell? ⟨gb108, 1, none⟩ = some (.int .i64 a0_1) := (blk_cell BK108.out 1).trans rfl; have hcz22_2 : w21.cell? ⟨gb108, 2, none⟩ = some (.int .i64 a0_2) := (blk_cell BK108.out 2).trans rfl; have hcz22_3 : w21.cell? ⟨gb108, 3, none⟩ = some (.int .u64 a0_3) := (blk_cell BK108.out 3).trans rfl; have hcz22_4 : w21.cell? ⟨gb108, 4, none⟩ = some (.int .u64 a0_4) := (blk_cell BK108.out 4).trans rfl; have hcz22_5 : w21.cell? ⟨gb108, 5, none⟩ = some (.int .u64 a0_5) := (blk_cell BK108.out 5).trans rfl; have hfz22_0 := blk_frozen BK108.out 0; have hfz22_1 := blk_frozen BK108.out 1; have hfz22_2 := blk_frozen BK108.out 2; have hfz22_3 := blk_frozen BK108.out 3; have hfz22_4 := blk_frozen BK108.out 4; have hfz22_5 := blk_frozen BK108.out 5) | ((with_reducible refine gate_dst (N := 25) rfl ?_); refine Kd.R_lit (Kd.int .u8) _ 5 ?hg (N := 25) ?hd (xs := ([1] : List Int)) (inner := [.int .u8 1]) (ok := fun _ => True) (okp := fun _ => True) ?hr ?hp (fun _ hk => hk) trivial (Below.refl _ _) (Nat.le_refl _) (by simp) ?_; (case hd => rfl); (case hg => rfl); (case hr => first | (go_simp; done) | (go_simp; rfl)); (case hp => exact (Reps.one (show Kd.M (Kd.int .u8) _ _ _ 1 [.int .u8 1] from rfl) (Reps.none _ _))); intro v119 w23 ho24 hb hg_ hnew_; clear hg_ hnew_; (first | rw [← Ny118.out] at ho24 | (simp only [Int.reduceToNat] at ho24; rw [← Ny118.out] at ho24)); have n0_ := Aside0.mk (Kd.R_lower ho24 (below_size bB)); have n1_ := Aside0.mk (blk_below (g := gb108) (o := .cells #[.int .i64 a0_0, .int .i64 a0_1, .int .i64 a0_2, .int .u64 a0_3, .int .u64 a0_4, .int .u64 a0_5] 85 (0, 0)) (kB BK108.out) hb); have n2_ := Aside0.mk (below_step bB hb); clear BK108; clear HB; have HO120 := n0_; have BK108 := n1_; have HB := n2_; clear n0_ n1_ n2_; clear hb ho24) | ((with_reducible refine gate_callee (f := 89) rfl ?_); refine goesL_ (some 29) rfl rfl Tryd.func89 (by kernel_rfl) rfl #[.int .u64 (IntKind.u64.wrap ((l1.length : Int))), .int .i64 8] rfl aV ?_; (with_reducible refine (impl_word.calls k (IntKind.u64.wrap ((l1.length : Int))) 8 t121 _ A17.out).mono ?_); rintro e w25 ⟨v122, rfl, ho0, hb⟩; refine ⟨_, rfl, ?_⟩; have n0_ := Aside0.mk (Kd.R_elder' (kR HO120.out) (Kd.R_base ho0) hb); have n1_ := Aside0.mk (Kd.R_lower (Kd.R_new' ho0 (Kd.R_lt (kR HO120.out))) (below_size bB)); have n2_ := Aside0.mk (blk_below (g := gb108) (o := .cells #[.int .i64 a0_0, .int .i64 a0_1, .int .i64 a0_2, .int .u64 a0_3, .int .u64 a0_4, .int .u64 a0_5] 85 (0, 0)) (kB BK108.out) hb); have n3_ := Aside0.mk (below_step bB hb); clear HO120; clear BK108; clear HB; have HO120 := n0_; have HO123 := n1_; have BK108 := n2_; have HB := n3_; clear n0_ n1_ n2_ n3_; (try clear hb); (try clear hb2); (try clear hk); (try clear hi); (try clear ho0); obtain ⟨Ao27, co27, eo27⟩ := Kd.R_slice HO123.out; subst eo27) | ((with_reducible refine gate_builtin (b := .append) (xs := #[.tmp 25, .tmp 29]) rfl ?_); at_builtin; refine Kd.R_append_rows (Kd.int .u8) (w0 := w) w.heap.size rfl (.tmp 25) (.tmp 29) 27 5 (.int .u8 0) 1 rfl Tryd.underlying27 info5 rfl (by decide) (by omega) v119 y118 t121 _ _ _ (fun k_ => some k_ ≠ (.slice Ao27 t121.length co27 : Value).ownBlock) (fun _ => False) rfl rfl ?aO ?aR (fun _ _ h => h) (fun _ h => h.elim) ?aF ?aB ?aS ?aL ?_; (case aR => repeat (first | exact (Kd.R_reads' HO123.out).2.2 | (with_reducible refine Kd.C_alloc ?_ _) | (with_reducible refine Kd.C_drewN ?_ _) | (with_reducible refine Kd.C_drew ?_))); (case aB => exact bB); (case aF => exact (fun k_ hk => Kd.fresh' (Kd.R_lt (kR HO123.out)) k_ hk)); (case aO => exact (by (with_reducible repeat (first | apply Kd.R_alloc | apply Kd.R_drewN | apply Kd.R_drew)); exact Kd.R_mono HO120.out (fun _ hk => hk.2))); (case aS => exact (below_size bB)); (case aL => have := LMc18.out; omega); intro v125 w26 ho hb hg hat; rw [← Ny124.out] at ho; have n0_ := Aside0.mk (blk_grown (g := gb108) (o := .cells #[.int .i64 a0_0, .int .i64 a0_1, .int .i64 a0_2, .int .u64 a0_3, .int .u64 a0_4, .int .u64 a0_5] 85 (0, 0)) (kB BK108.out) hg (Kd.R_ne HO120.out BK108.out (by decide))); have n1_ := Aside0.mk (Kd.R_after (ok := (fun _ => True)) (kR HO123.out) hg hat); have n2_ := Aside0.mk (hb); have n3_ := Aside0.mk (ho); clear BK108; clear HO123; clear HB; clear HO120; have BK108 := n0_; have HO123 := n1_; have HB := n2_; have HO126 := n3_; clear n0_ n1_ n2_ n3_; clear ho hb hg hat) | ((with_reducible refine gate_builtin (b := .append) (xs := #[.tmp 31, .tmp 32]) rfl ?_); at_builtin; refine Kd.R_append_rows (Kd.int .u8) (w0 := w) w.heap.size rfl (.tmp 31) (.tmp 32) 27 5 (.int .u8 0) 1 rfl Tryd.underlying27 info5 rfl (by decide) (by omega) v125 y124 l1 _ _ _ (fun k_ => some k_ ≠ (.slice Ao27 t121.length co27 : Value).ownBlock) (fun _ => False) rfl rfl ?aO ?aR (fun _ _ h => h) (fun _ h => h.elim) ?aF ?aB ?aS ?aL ?_; (case aR => repeat (first | exact (Kd.C_below HR1.out HB.out) | (with_reducible refine Kd.C_alloc ?_ _) | (with_reducible refine Kd.C_drewN ?_ _) | (with_reducible refine Kd.C_drew ?_))); (case aB => exact bB); (case aF => exact (fun k_ hk => Kd.fresh' (Kd.R_lt (kR HO123.out)) k_ hk)); (case aO => exact (kR HO126.out)); (case aS => exact (below_size bB)); (case aL => have := LMc19.out; omega); intro v128 w28 ho hb hg hat; rw [← Ny127.out] at ho; have n0_ := Aside0.mk (blk_grown (g := gb108) (o := .cells #[.int .i64 a0_0, .int .i64 a0_1, .int .i64 a0_2, .int .u64 a0_3, .int .u64 a0_4, .int .u64 a0_5] 85 (0, 0)) (kB BK108.out) hg (Kd.R_ne HO126.out BK108.out (by decide))); have n1_ := Aside0.mk (Kd.R_after (ok := (fun _ => True)) (kR HO123.out) hg hat); have n2_ := Aside0.mk (hb); have n3_ := Aside0.mk (ho); clear BK108; clear HO123; clear HB; clear HO126; have BK108 := n0_; have HO123 := n1_; have HB := n2_; have HO129 := n3_; clear n0_ n1_ n2_ n3_; clear ho hb hg hat) | ((with_reducible refine gate_builtin (b := .append) (xs := #[.tmp 33, .tmp 34]) rfl ?_); at_builtin; refine Kd.R_append_rows (Kd.int .u8) (w0 := w) w.heap.size rfl (.tmp 33) (.tmp 34) 27 5 (.int .u8 0) 1 rfl Tryd.underlying27 info5 rfl (by decide) (by omega) v128 y127 l2 _ _ _ (fun k_ => some k_ ≠ (.slice Ao27 t121.length co27 : Value).ownBlock) (fun _ => False) rfl rfl ?aO ?aR (fun _ _ h => h) (fun _ h => h.elim) ?aF ?aB ?aS ?aL ?_; (case aR => repeat (first | exact (Kd.C_below HR2.out HB.out) | (with_reducible refine Kd.C_alloc ?_ _) | (with_reducible refine Kd.C_drewN ?_ _) | (with_reducible refine Kd.C_drew ?_))); (case aB => exact bB); (case aF => exact (fun k_ hk => Kd.fresh' (Kd.R_lt (kR HO123.out)) k_ hk)); (case aO => exact (kR HO129.out)); (case aS => exact (below_size bB)); (case aL => have := LMc20.out; omega); intro v131 w29 ho hb hg hat; rw [← Ny130.out] at ho; have n0_ := Aside0.mk (blk_grown (g := gb108) (o := .cells #[.int .i64 a0_0, .int .i64 a0_1, .int .i64 a0_2, .int .u64 a0_3, .int .u64 a0_4, .int .u64 a0_5] 85 (0, 0)) (kB BK108.out) hg (Kd.R_ne HO129.out BK108.out (by decide))); have n1_ := Aside0.mk (Kd.R_after (ok := (fun _ => True)) (kR HO123.out) hg hat); have n2_ := Aside0.mk (hb); have n3_ := Aside0.mk (ho); clear BK108; clear HO123; clear HB; clear HO129; have BK108 := n0_; have HO123 := n1_; have HB := n2_; have HO132 := n3_; clear n0_ n1_ n2_ n3_; clear ho hb hg hat))
     go_ret
     exact ⟨_, by first | rfl | (simp [errW_none, errW_some] <;> rfl) | (simp [*, errW_none, errW_some] <;> rfl), by (with_reducible repeat (first | apply Kd.R_alloc | apply Kd.R_drewN | apply Kd.R_drew)); exact Kd.R_mono HO132.out (fun _ hk => trivial), bB⟩
    ·rw [if_neg c20] at H
     exact absurd H (by simp)
   ·rw [if_neg c19] at H
    exact absurd H (by simp)
  ·rw [if_neg c18] at H
   exact absurd H (by simp)


/-! ### proof_chainBorderRight: function 85 -/
def proof_chainBorderRight.l0 : Nat → List Int → List (List Int) → Int → Int → Int → Int → Int → Int → Int → Int → Option (List Int)
 | 0, _, _, _, _, _, _, _, _, _, _ => none
 | k + 1, x1, x9, x10, x11, x9001000, x9001001, x9001002, x9001003, x9001004, x9001005 => if x11 < x10 then (if 0 ≤ x11 then (if x11 < (x9.length : Int) then ((impl_toy_HashChildren.f k x9001000 x9001001 x9001002 x9001003 x9001004 x9001005 (rd_L1 x9 x11) x1).bind fun t188 => (proof_chainBorderRight.l0 k t188 x9 x10 (wrap64 (x11 + 1)) x9001000 x9001001 x9001002 x9001003 x9001004 x9001005)) else (none)) else (none)) else (some x1)
def proof_chainBorderRight.f (k : Nat) (a0_0 : Int) (a0_1 : Int) (a0_2 : Int) (a0_3 : Int) (a0_4 : Int) (a0_5 : Int) (l1 : List Int) (l2 : List (List Int)) : Option (List Int) := proof_chainBorderRight.l0 k l1 l2 (l2.length : Int) 0 a0_0 a0_1 a0_2 a0_3 a0_4 a0_5
theorem proof_chainBorderRight.mono_l : ∀ k, (∀ y0 y1 y2 y3 y4 y5 y6 y7 y8 y9, LeO (proof_chainBorderRight.l0 k y0 y1 y2 y3 y4 y5 y6 y7 y8 y9) (proof_chainBorderRight.l0 (k + 1) y0 y1 y2 y3 y4 y5 y6 y7 y8 y9))
 | 0 => fun _ _ _ _ _ _ _ _ _ _ r h => by simp [proof_chainBorderRight.l0] at h
 | k + 1 => by
  have ih0 := proof_chainBorderRight.mono_l k
  ·intro y0 y1 y2 y3 y4 y5 y6 y7 y8 y9
   unfold proof_chainBorderRight.l0
   repeat' first
   | (with_reducible exact ih0 _ _ _ _ _ _ _ _ _ _)
   | (with_reducible exact impl_toy_HashChildren.mono _ _ _ _ _ _ _ _ _)
   | (with_reducible exact LeO.refl _)
   | (with_reducible exact LeO.none _)
   | (with_reducible refine LeO.ite ?_ ?_)
   | (with_reducible refine LeO.bind ?_ (fun _ => ?_))
   | exact ih0 _ _ _ _ _ _ _ _ _ _
   | exact impl_toy_HashChildren.mono _ _ _ _ _ _ _ _ _
   | exact LeO.none _
   | refine LeO.ite ?_ ?_
   | refine LeO.bind ?_ (fun _ => ?_)
theorem proof_chainBorderRight.mono : ∀ a0 a1 a2 a3 a4 a5 a6 a7 k, LeO (proof_chainBorderRight.f k a0 a1 a2 a3 a4 a5 a6 a7) (proof_chainBorderRight.f (k + 1) a0 a1 a2 a3 a4 a5 a6 a7) := by
 intro a0 a1 a2 a3 a4 a5 a6 a7 k
 have ih0 := proof_chainBorderRight.mono_l k
 unfold proof_chainBorderRight.f
 repeat' first
   | (with_reducible exact ih0 _ _ _ _ _ _ _ _ _ _)
   | (with_reducible exact impl_toy_HashChildren.mono _ _ _ _ _ _ _ _ _)
   | (with_reducible exact LeO.refl _)
   | (with_reducible exact LeO.none _)
   | (with_reducible refine LeO.ite ?_ ?_)
   | (with_reducible refine LeO.bind ?_ (fun _ => ?_))
   | exact ih0 _ _ _ _ _ _ _ _ _ _
   | exact impl_toy_HashChildren.mono _ _ _ _ _ _ _ _ _
   | exact LeO.none _
   | refine LeO.ite ?_ ?_
   | refine LeO.bind ?_ (fun _ => ?_)
set_option maxHeartbeats 8000000 in
set_option maxRecDepth 100000 in
theorem proof_chainBorderRight.calls (k : Nat) (a0_0 : Int) (a0_1 : Int) (a0_2 : Int) (a0_3 : Int) (a0_4 : Int) (a0_5 : Int) (P1_ : Nat → Prop) (A1 : Option Addr) (c1 : Nat) (l1 : List Int) (A2 : Option Addr) (c2 : Nat) (l2 : List (List Int)) (r : List Int) (w : World) (hs1 : Kd.V (Kd.int .u8) 5 w w.heap.size (fun k_ => P1_ k_) (.slice A1 l1.length c1) l1) (hr2 : Kd.C (Kd.slice 5 (Kd.int .u8)) w A2 l2.length l2) (hc2 : l2.length ≤ c2) (h : proof_chainBorderRight.f k a0_0 a0_1 a0_2 a0_3 a0_4 a0_5 l1 l2 = some r) :
  Calls Tryd.prog 85 #[.iface 85 (.agg #[.int .i64 a0_0, .int .i64 a0_1, .int .i64 a0_2, .int .u64 a0_3, .int .u64 a0_4, .int .u64 a0_5]), .slice A1 l1.length c1, .slice A2 l2.length c2] w fun e w' => ∃ v0_ : Value, e = .returned (v0_) ∧ Kd.V (Kd.int .u8) 5 w' w.heap.size (fun k_ => (P1_ k_ ∨ w.heap.size ≤ k_)) v0_ r ∧ Below w.heap.size w w' := by
 have HO1 := Aside0.mk (show Kd.V (Kd.int .u8) 5 w w.heap.size (fun k_ => (P1_ k_ ∨ w.heap.size ≤ k_)) (.slice A1 l1.length c1) l1 from Kd.V_mono hs1 (fun k_ hk => .inl hk))
 have HR2 := Aside0.mk hr2
 have HC2 := Aside0.mk hc2
 clear hr2 hc2
 have HB := Aside0.mk (Below.refl w.heap.size w)
 have H : (proof_chainBorderRight.l0 k l1 l2 (l2.length : Int) 0 a0_0 a0_1 a0_2 a0_3 a0_4 a0_5) = some r := h
 clear h
 have H' := Aside0.mk H
 clear H
 go_enter Tryd.func85, Tryd.ntmps85
 go_wp2
 go_loopg [1, 11] k (fun kq v1 v11 w' => ∃ (x1_1 : List Int) (x11_1 : Int), v11 = .int .i64 x11_1 ∧ Aside0 (proof_chainBorderRight.l0 kq x1_1 l2 (l2.length : Int) x11_1 a0_0 a0_1 a0_2 a0_3 a0_4 a0_5 = some r) ∧ Aside0 (kq ≤ k) ∧ Aside0 (Kd.V (Kd.int .u8) 5 w' w.heap.size (fun k_ => (P1_ k_ ∨ w.heap.size ≤ k_)) v1 x1_1) ∧ Aside0 (Below w.heap.size w w'))
 case atStart => exact ⟨(l1), (0), (by first | rfl | (simp; done) | (simp [*]; done)), H', ⟨Nat.le_refl _⟩, ⟨kV HO1.out⟩, ⟨bB⟩⟩
 case round =>
  clear H'
  try clear c1
  try clear c2
  try clear p2
  obtain ⟨x1_1, x11_1, rfl, HA, HK1, HO_1, HB⟩ := hrel
  cases gk with
  | zero => exact absurd HA.out (by simp [proof_chainBorderRight.l0])
  | succ k1 =>
   have H := HA.out
   clear HA
   simp only [proof_chainBorderRight.l0] at H
   by_cases c4 : x11_1 < (l2.length : Int)
   ·rw [if_pos c4] at H
    have c4b0 : decide (x11_1 < (l2.length : Int)) = true := decide_eq_true c4
    clear c4
    by_cases c5 : 0 ≤ x11_1
    ·rw [if_pos c5] at H
     have c5b0 : decide (0 ≤ x11_1) = true := decide_eq_true c5
     clear c5
     by_cases c6 : x11_1 < (l2.length : Int)
     ·rw [if_pos c6] at H
      have c6b0 : decide (x11_1 < (l2.length : Int)) = true := decide_eq_true c6
      clear c6
      replace H := Option.bind_eq_some_iff.mp H
      obtain ⟨t188, A70, H⟩ := H
      replace H : (proof_chainBorderRight.l0 k1 t188 l2 (l2.length : Int) (wrap64 (x11_1 + 1)) a0_0 a0_1 a0_2 a0_3 a0_4 a0_5) = some r := H
      have A7 := Aside0.mk A70
      clear A70
      have H' := Aside0.mk H
      clear H
      have p187 : 0 ≤ (x11_1 : Int) := dA
      have q187 : x11_1 < (l2.length : Int) := dA
      obtain ⟨ad187, A187_0, c187_0, e187, hx187_0, hl187_0, hi187_0⟩ := at_L1 HR2.out x11_1 p187 q187
      cases e187
      replace hx187_0 := (HB.out.cell (World.block_lt_of_cell? w _ hx187_0)).trans hx187_0
      have HR187_0 := Aside0.mk hi187_0
      have HC187_0 := Aside0.mk hl187_0
      clear hi187_0 hl187_0
      replace p187 := eq_true p187
      replace q187 := eq_true q187
      obtain ⟨Ao8, co8, eo8⟩ := Kd.V_slice HO_1.out
      subst eo8
      go_wp2_with (first | ((with_reducible refine gate_invoke (m := "HashChildren") rfl ?_); refine invokesL_ (some 18) rfl rfl Tryd.func52 (by kernel_rfl) rfl 85 (.agg #[.int .i64 a0_0, .int .i64 a0_1, .int .i64 a0_2, .int .u64 a0_3, .int .u64 a0_4, .int .u64 a0_5]) #[.slice A187_0 (rd_L1 l2 x11_1).length c187_0, .slice Ao8 x1_1.length co8] #[.agg #[.int .i64 a0_0, .int .i64 a0_1, .int .i64 a0_2, .int .u64 a0_3, .int .u64 a0_4, .int .u64 a0_5], .slice A187_0 (rd_L1 l2 x11_1).length c187_0, .slice Ao8 x1_1.length co8] rfl rfl (by first | rfl | (simp only [Act.eval]; rfl)) aV (fun _ => by kernel_rfl) ?_; (with_reducible refine (impl_toy_HashChildren.calls k1 a0_0 a0_1 a0_2 a0_3 a0_4 a0_5 _ _ (rd_L1 l2 x11_1) _ _ x1_1 t188 _ ?side1 ?side2 ?side3 ?side4 A7.out).mono ?_); (case side1 => repeat (first | exact (Kd.C_below HR187_0.out HB.out) | (with_reducible refine Kd.C_alloc ?_ _) | (with_reducible refine Kd.C_drewN ?_ _) | (with_reducible refine Kd.C_drew ?_))); (case side2 => exact HC187_0.out); (case side3 => repeat (first | exact (Kd.V_reads' HO_1.out).2.2 | (with_reducible refine Kd.C_alloc ?_ _) | (with_reducible refine Kd.C_drewN ?_ _) | (with_reducible refine Kd.C_drew ?_))); (case side4 => exact (Kd.V_reads' HO_1.out).2.1); rintro e w9 ⟨v189, rfl, ho0, hb⟩; refine ⟨_, rfl, ?_⟩; have n0_ := Aside0.mk (Kd.V_elder' (kV HO_1.out) (Kd.R_base ho0) hb); have n1_ := Aside0.mk (Kd.R_lower (Kd.R_newM (M := fun k_ => (w.heap.size ≤ k_)) ho0 (below_size bB) (fun k_ h_ => h_)) (below_size bB)); have n2_ := Aside0.mk (below_step bB hb); clear HO_1; clear HB; have HO_1 := n0_; have HO190 := n1_; have HB := n2_; clear n0_ n1_ n2_; (try clear hb); (try clear hb2); (try clear hk); (try clear hi); (try clear ho0)))
      go_roundg k1
      case measure => have := HK1.out; omega
      case rel => exact ⟨(t188), (wrap64 (x11_1 + 1)), (by first | rfl | (simp; done) | (simp [*]; done)), H', ⟨by have := HK1.out; omega⟩, ⟨Kd.V_mono (Kd.R_V (by (with_reducible repeat (first | apply Kd.R_alloc | apply Kd.R_drewN | apply Kd.R_drew)); exact Kd.R_mono HO190.out (fun _ hk => hk.1))) (fun k_ hk => by first | exact ⟨(.inr (hk.1)), hk.2⟩ | exact (.inr (hk)))⟩, ⟨bB⟩⟩
     ·rw [if_neg c6] at H
      exact absurd H (by simp)
    ·rw [if_neg c5] at H
     exact absurd H (by simp)
   ·rw [if_neg c4] at H
    have c4b0 : decide (x11_1 < (l2.length : Int)) = false := decide_eq_false c4
    clear c4
    obtain rfl := Option.some.inj H
    go_wp2
    go_ret
    exact ⟨_, by first | rfl | (simp [errW_none, errW_some] <;> rfl) | (simp [*, errW_none, errW_some] <;> rfl), by (with_reducible repeat (first | apply Kd.V_alloc | apply Kd.V_drewN | apply Kd.V_drew)); exact HO_1.out, bB⟩


/-! ### proof_chainInner: function 86 -/
def proof_chainInner.l0 : Nat → List Int → Int → List (List Int) → Int → Int → Int → Int → Int → Int → Int → Int → Option (List Int)
 | 0, _, _, _, _, _, _, _, _, _, _, _ => none
 | k + 1, x1, x3, x11, x12, x13, x9001000, x9001001, x9001002, x9001003, x9001004, x9001005 => if x13 < x12 then (if 0 ≤ x13 then (if x13 < (x11.length : Int) then (if 0 ≤ (IntKind.u64.wrap (x13)) then (if (Go.bits .and .u64 (shr .u64 x3 (IntKind.u64.wrap (x13))) 1) = 0 then ((impl_toy_HashChildren.f k x9001000 x9001001 x9001002 x9001003 x9001004 x9001005 x1 (rd_L1 x11 x13)).bind fun t192 => (proof_chainInner.l0 k t192 x3 x11 x12 (wrap64 (x13 + 1)) x9001000 x9001001 x9001002 x9001003 x9001004 x9001005)) else ((impl_toy_HashChildren.f k x9001000 x9001001 x9001002 x9001003 x9001004 x9001005 (rd_L1 x11 x13) x1).bind fun t195 => (proof_chainInner.l0 k t195 x3 x11 x12 (wrap64 (x13 + 1)) x9001000 x9001001 x9001002 x9001003 x9001004 x9001005))) else (none)) else (none)) else (none)) else (some x1)
def proof_chainInner.f (k : Nat) (a0_0 : Int) (a0_1 : Int) (a0_2 : Int) (a0_3 : Int) (a0_4 : Int) (a0_5 : Int) (l1 : List Int) (l2 : List (List Int)) (a3 : Int) : Option (List Int) := proof_chainInner.l0 k l1 a3 l2 (l2.length : Int) 0 a0_0 a0_1 a0_2 a0_3 a0_4 a0_5
theorem proof_chainInner.mono_l : ∀ k, (∀ y0 y1 y2 y3 y4 y5 y6 y7 y8 y9 y10, LeO (proof_chainInner.l0 k y0 y1 y2 y3 y4 y5 y6 y7 y8 y9 y10) (proof_chainInner.l0 (k + 1) y0 y1 y2 y3 y4 y5 y6 y7 y8 y9 y10))
 | 0 => fun _ _ _ _ _ _ _ _ _ _ _ r h => by simp [proof_chainInner.l0] at h
 | k + 1 => by
  have ih0 := proof_chainInner.mono_l k
  ·intro y0 y1 y2 y3 y4 y5 y6 y7 y8 y9 y10
   unfold proof_chainInner.l0
   repeat' first
   | (with_reducible exact ih0 _ _ _ _ _ _ _ _ _ _ _)
   | (with_reducible exact impl_toy_HashChildren.mono _ _ _ _ _ _ _ _ _)
   | (with_reducible exact LeO.refl _)
   | (with_reducible exact LeO.none _)
   | (with_reducible refine LeO.ite ?_ ?_)
   | (with_reducible refine LeO.bind ?_ (fun _ => ?_))
   | exact ih0 _ _ _ _ _ _ _ _ _ _ _
   | exact impl_toy_HashChildren.mono _ _ _ _ _ _ _ _ _
   | exact LeO.none _
   | refine LeO.ite ?_ ?_
   | refine LeO.bind ?_ (fun _ => ?_)
theorem proof_chainInner.mono : ∀ a0 a1 a2 a3 a4 a5 a6 a7 a8 k, LeO (proof_chainInner.f k a0 a1 a2 a3 a4 a5 a6 a7 a8) (proof_chainInner.f (k + 1) a0 a1 a2 a3 a4 a5 a6 a7 a8) := by
 intro a0 a1 a2 a3 a4 a5 a6 a7 a8 k
 have ih0 := proof_chainInner.mono_l k
 unfold proof_chainInner.f
 repeat' first
   | (with_reducible exact ih0 _ _ _ _ _ _ _ _ _ _ _)
   | (with_reducible exact impl_toy_HashChildren.mono _ _ _ _ _ _ _ _ _)
   | (with_reducible exact LeO.refl _)
   | (with_reducible exact LeO.none _)
   | (with_reducible refine LeO.ite ?_ ?_)
   | (with_reducible refine LeO.bind ?_ (fun _ => ?_))
   | exact ih0 _ _ _ _ _ _ _ _ _ _ _
   | exact impl_toy_HashChildren.mono _ _ _ _ _ _ _ _ _
   | exact LeO.none _
   | refine LeO.ite ?_ ?_
   | refine LeO.bind ?_ (fun _ => ?_)
set_option maxHeartbeats 8000000 in
set_option maxRecDepth 100000 in
theorem proof_chainInner.calls (k : Nat) (a0_0 : Int) (a0_1 : Int) (a0_2 : Int) (a0_3 : Int) (a0_4 : Int) (a0_5 : Int) (P1_ : Nat → Prop) (A1 : Option Addr) (c1 : Nat) (l1 : List Int) (A2 : Option Addr) (c2 : Nat) (l2 : List (List Int)) (a3 : Int) (r : List Int) (w : World) (hs1 : Kd.V (Kd.int .u8) 5 w w.heap.size (fun k_ => P1_ k_) (.slice A1 l1.length c1) l1) (hr2 : Kd.C (Kd.slice 5 (Kd.int .u8)) w A2 l2.length l2) (hc2 : l2.length ≤ c2) (h : proof_chainInner.f k a0_0 a0_1 a0_2 a0_3 a0_4 a0_5 l1 l2 a3 = some r) :
  Calls Tryd.prog 86 #[.iface 85 (.agg #[.int .i64 a0_0, .int .i64 a0_1, .int .i64 a0_2, .int .u64 a0_3, .int .u64 a0_4, .int .u64 a0_5]), .slice A1 l1.length c1, .slice A2 l2.length c2, .int .u64 a3] w fun e w' => ∃ v0_ : Value, e = .returned (v0_) ∧ Kd.V (Kd.int .u8) 5 w' w.heap.size (fun k_ => (P1_ k_ ∨ w.heap.size ≤ k_)) v0_ r ∧ Below w.heap.size w w' := by
 have HO1 := Aside0.mk (show Kd.V (Kd.int .u8) 5 w w.heap.size (fun k_ => (P1_ k_ ∨ w.heap.size ≤ k_)) (.slice A1 l1.length c1) l1 from Kd.V_mono hs1 (fun k_ hk => .inl hk))
 have HR2 := Aside0.mk hr2
 have HC2 := Aside0.mk hc2
 clear hr2 hc2
 have HB := Aside0.mk (Below.refl w.heap.size w)
 have H : (proof_chainInner.l0 k l1 a3 l2 (l2.length : Int) 0 a0_0 a0_1 a0_2 a0_3 a0_4 a0_5) = some r := h
 clear h
 have H' := Aside0.mk H
 clear H
 go_enter Tryd.func86, Tryd.ntmps86
 go_wp2
 go_loopg [1, 13] k (fun kq v1 v13 w' => ∃ (x1_1 : List Int) (x13_1 : Int), v13 = .int .i64 x13_1 ∧ Aside0 (proof_chainInner.l0 kq x1_1 a3 l2 (l2.length : Int) x13_1 a0_0 a0_1 a0_2 a0_3 a0_4 a0_5 = some r) ∧ Aside0 (kq ≤ k) ∧ Aside0 (Kd.V (Kd.int .u8) 5 w' w.heap.size (fun k_ => (P1_ k_ ∨ w.heap.size ≤ k_)) v1 x1_1) ∧ Aside0 (Below w.heap.size w w'))
 case atStart => exact ⟨(l1), (0), (by first | rfl | (simp; done) | (simp [*]; done)), H', ⟨Nat.le_refl _⟩, ⟨kV HO1.out⟩, ⟨bB⟩⟩
 case round =>
  clear H'
  try clear c1
  try clear c2
  try clear p2
  obtain ⟨x1_1, x13_1, rfl, HA, HK1, HO_1, HB⟩ := hrel
  cases gk with
  | zero => exact absurd HA.out (by simp [proof_chainInner.l0])
  | succ k1 =>
   have H := HA.out
   clear HA
   simp only [proof_chainInner.l0] at H
   by_cases c5 : x13_1 < (l2.length : Int)
   ·rw [if_pos c5] at H
    have c5b0 : decide (x13_1 < (l2.length : Int)) = true := decide_eq_true c5
    clear c5
    by_cases c6 : 0 ≤ x13_1
    ·rw [if_pos c6] at H
     have c6b0 : decide (0 ≤ x13_1) = true := decide_eq_true c6
     clear c6
     by_cases c7 : x13_1 < (l2.length : Int)
     ·rw [if_pos c7] at H
      have c7b0 : decide (x13_1 < (l2.length : Int)) = true := decide_eq_true c7
      clear c7
      obtain ⟨ji8, hji8⟩ : ∃ j_ : Int, (IntKind.u64.wrap (x13_1)) = j_ := ⟨_, rfl⟩
      replace H : (if 0 ≤ (ji8) then (if (Go.bits .and .u64 (shr .u64 a3 (ji8)) 1) = 0 then ((impl_toy_HashChildren.f k1 a0_0 a0_1 a0_2 a0_3 a0_4 a0_5 x1_1 (rd_L1 l2 x13_1)).bind fun t192 => (proof_chainInner.l0 k1 t192 a3 l2 (l2.length : Int) (wrap64 (x13_1 + 1)) a0_0 a0_1 a0_2 a0_3 a0_4 a0_5)) else ((impl_toy_HashChildren.f k1 a0_0 a0_1 a0_2 a0_3 a0_4 a0_5 (rd_L1 l2 x13_1) x1_1).bind fun t195 => (proof_chainInner.l0 k1 t195 a3 l2 (l2.length : Int) (wrap64 (x13_1 + 1)) a0_0 a0_1 a0_2 a0_3 a0_4 a0_5))) else (none)) = some r := by first | (rw [hji8] at H; exact H) | (simp only [hji8] at H ⊢; exact H)
      by_cases c9 : 0 ≤ (ji8)
      ·rw [if_pos c9] at H
       have c9b0 := eq_true c9
       have c9b1 : decide (0 ≤ (ji8)) = true := decide_eq_true c9
       clear c9
       obtain ⟨ji10, hji10⟩ : ∃ j_ : Int, (shr .u64 a3 (ji8)) = j_ := ⟨_, rfl⟩
       replace H : (if (Go.bits .and .u64 (ji10) 1) = 0 then ((impl_toy_HashChildren.f k1 a0_0 a0_1 a0_2 a0_3 a0_4 a0_5 x1_1 (rd_L1 l2 x13_1)).bind fun t192 => (proof_chainInner.l0 k1 t192 a3 l2 (l2.length : Int) (wrap64 (x13_1 + 1)) a0_0 a0_1 a0_2 a0_3 a0_4 a0_5)) else ((impl_toy_HashChildren.f k1 a0_0 a0_1 a0_2 a0_3 a0_4 a0_5 (rd_L1 l2 x13_1) x1_1).bind fun t195 => (proof_chainInner.l0 k1 t195 a3 l2 (l2.length : Int) (wrap64 (x13_1 + 1)) a0_0 a0_1 a0_2 a0_3 a0_4 a0_5))) = some r := by first | (rw [hji10] at H; exact H) | (simp only [hji10] at H ⊢; exact H)
       have hji10_ : (a3 / 2 ^ min (ji8).toNat 64) = ji10 := hji10
       have hji10z : (ji8) ≤ 64 → (a3 / 2 ^ (ji8).toNat) = ji10 := shr_small hji10
       by_cases c11 : (Go.bits .and .u64 (ji10) 1) = 0
       ·rw [if_pos c11] at H
        have c11b0 : ((Go.bits .and .u64 (ji10) 1) == 0) = true := beq_iff_eq.mpr c11
        have c11b1 : ((Go.bits .and .u64 (ji10) 1) != 0) = false := bne_eq_false_iff_eq.mpr c11
        clear c11
        replace H := Option.bind_eq_some_iff.mp H
        obtain ⟨t192, A120, H⟩ := H
        replace H : (proof_chainInner.l0 k1 t192 a3 l2 (l2.length : Int) (wrap64 (x13_1 + 1)) a0_0 a0_1 a0_2 a0_3 a0_4 a0_5) = some r := H
        have A12 := Aside0.mk A120
        clear A120
        have H' := Aside0.mk H
        clear H
        have p191 : 0 ≤ (x13_1 : Int) := dA
        have q191 : x13_1 < (l2.length : Int) := dA
        obtain ⟨ad191, A191_0, c191_0, e191, hx191_0, hl191_0, hi191_0⟩ := at_L1 HR2.out x13_1 p191 q191
        cases e191
        replace hx191_0 := (HB.out.cell (World.block_lt_of_cell? w _ hx191_0)).trans hx191_0
        have HR191_0 := Aside0.mk hi191_0
        have HC191_0 := Aside0.mk hl191_0
        clear hi191_0 hl191_0
        replace p191 := eq_true p191
        replace q191 := eq_true q191
        obtain ⟨Ao13, co13, eo13⟩ := Kd.V_slice HO_1.out
        subst eo13
        go_wp2_with (first | ((with_reducible refine gate_invoke (m := "HashChildren") rfl ?_); refine invokesL_ (some 27) rfl rfl Tryd.func52 (by kernel_rfl) rfl 85 (.agg #[.int .i64 a0_0, .int .i64 a0_1, .int .i64 a0_2, .int .u64 a0_3, .int .u64 a0_4, .int .u64 a0_5]) #[.slice Ao13 x1_1.length co13, .slice A191_0 (rd_L1 l2 x13_1).length c191_0] #[.agg #[.int .i64 a0_0, .int .i64 a0_1, .int .i64 a0_2, .int .u64 a0_3, .int .u64 a0_4, .int .u64 a0_5], .slice Ao13 x1_1.length co13, .slice A191_0 (rd_L1 l2 x13_1).length c191_0] rfl rfl (by first | rfl | (simp only [Act.eval]; rfl)) aV (fun _ => by kernel_rfl) ?_; (with_reducible refine (impl_toy_HashChildren.calls k1 a0_0 a0_1 a0_2 a0_3 a0_4 a0_5 _ _ x1_1 _ _ (rd_L1 l2 x13_1) t192 _ ?side1 ?side2 ?side3 ?side4 A12.out).mono ?_); (case side1 => repeat (first | exact (Kd.V_reads' HO_1.out).2.2 | (with_reducible refine Kd.C_alloc ?_ _) | (with_reducible refine Kd.C_drewN ?_ _) | (with_reducible refine Kd.C_drew ?_))); (case side2 => exact (Kd.V_reads' HO_1.out).2.1); (case side3 => repeat (first | exact (Kd.C_below HR191_0.out HB.out) | (with_reducible refine Kd.C_alloc ?_ _) | (with_reducible refine Kd.C_drewN ?_ _) | (with_reducible refine Kd.C_drew ?_))); (case side4 => exact HC191_0.out); rintro e w14 ⟨v193, rfl, ho0, hb⟩; refine ⟨_, rfl, ?_⟩; have n0_ := Aside0.mk (Kd.V_elder' (kV HO_1.out) (Kd.R_base ho0) hb); have n1_ := Aside0.mk (Kd.R_lower (Kd.R_newM (M := fun k_ => (w.heap.size ≤ k_)) ho0 (below_size bB) (fun k_ h_ => h_)) (below_size bB)); have n2_ := Aside0.mk (below_step bB hb); clear HO_1; clear HB; have HO_1 := n0_; have HO194 := n1_; have HB := n2_; clear n0_ n1_ n2_; (try clear hb); (try clear hb2); (try clear hk); (try clear hi); (try clear ho0)))
        go_roundg k1
        case measure => have := HK1.out; omega
        case rel => exact ⟨(t192), (wrap64 (x13_1 + 1)), (by first | rfl | (simp; done) | (simp [*]; done)), H', ⟨by have := HK1.out; omega⟩, ⟨Kd.V_mono (Kd.R_V (by (with_reducible repeat (first | apply Kd.R_alloc | apply Kd.R_drewN | apply Kd.R_drew)); exact Kd.R_mono HO194.out (fun _ hk => hk.1))) (fun k_ hk => by first | exact ⟨(.inr (hk.1)), hk.2⟩ | exact (.inr (hk)))⟩, ⟨bB⟩⟩
       ·rw [if_neg c11] at H
        have c11b0 : ((Go.bits .and .u64 (ji10) 1) == 0) = false := beq_eq_false_iff_ne.mpr c11
        have c11b1 : ((Go.bits .and .u64 (ji10) 1) != 0) = true := bne_iff_ne.mpr c11
        replace H := Option.bind_eq_some_iff.mp H
        obtain ⟨t195, A150, H⟩ := H
        replace H : (proof_chainInner.l0 k1 t195 a3 l2 (l2.length : Int) (wrap64 (x13_1 + 1)) a0_0 a0_1 a0_2 a0_3 a0_4 a0_5) = some r := H
        have A15 := Aside0.mk A150
        clear A150
        have H' := Aside0.mk H
        clear H
        have p191 : 0 ≤ (x13_1 : Int) := dA
        have q191 : x13_1 < (l2.length : Int) := dA
        obtain ⟨ad191, A191_0, c191_0, e191, hx191_0, hl191_0, hi191_0⟩ := at_L1 HR2.out x13_1 p191 q191
        cases e191
        replace hx191_0 := (HB.out.cell (World.block_lt_of_cell? w _ hx191_0)).trans hx191_0
        have HR191_0 := Aside0.mk hi191_0
        have HC191_0 := Aside0.mk hl191_0
        clear hi191_0 hl191_0
        replace p191 := eq_true p191
        replace q191 := eq_true q191
        obtain ⟨Ao16, co16, eo16⟩ := Kd.V_slice HO_1.out
        subst eo16
        go_wp2_with (first | ((with_reducible refine gate_invoke (m := "HashChildren") rfl ?_); refine invokesL_ (some 31) rfl rfl Tryd.func52 (by kernel_rfl) rfl 85 (.agg #[.int .i64 a0_0, .int .i64 a0_1, .int .i64 a0_2, .int .u64 a0_3, .int .u64 a0_4, .int .u64 a0_5]) #[.slice A191_0 (rd_L1 l2 x13_1).length c191_0, .slice Ao16 x1_1.length co16] #[.agg #[.int .i64 a0_0, .int .i64 a0_1, .int .i64 a0_2, .int .u64 a0_3, .int .u64 a0_4, .int .u64 a0_5], .slice A191_0 (rd_L1 l2 x13_1).length c191_0, .slice Ao16 x1_1.length co16] rfl rfl (by first | rfl | (simp only [Act.eval]; rfl)) aV (fun _ => by kernel_rfl) ?_; (with_reducible refine (impl_toy_HashChildren.calls k1 a0_0 a0_1 a0_2 a0_3 a0_4 a0_5 _ _ (rd_L1 l2 x13_1) _ _ x1_1 t195 _ ?side1 ?side2 ?side3 ?side4 A15.out).mono ?_); (case side1 => repeat (first | exact (Kd.C_below HR191_0.out HB.out) | (with_reducible refine Kd.C_alloc ?_ _) | (with_reducible refine Kd.C_drewN ?_ _) | (with_reducible refine Kd.C_drew ?_))); (case side2 => exact HC191_0.out); (case side3 => repeat (first | exact (Kd.V_reads' HO_1.out).2.2 | (with_reducible refine Kd.C_alloc ?_ _) | (with_reducible refine Kd.C_drewN ?_ _) | (with_reducible refine Kd.C_drew ?_))); (case side4 => exact (Kd.V_reads' HO_1.out).2.1); rintro e w17 ⟨v196, rfl, ho0, hb⟩; refine ⟨_, rfl, ?_⟩; have n0_ := Aside0.mk (Kd.V_elder' (kV HO_1.out) (Kd.R_base ho0) hb); have n1_ := Aside0.mk (Kd.R_lower (Kd.R_newM (M := fun k_ => (w.heap.size ≤ k_)) ho0 (below_size bB) (fun k_ h_ => h_)) (below_size bB)); have n2_ := Aside0.mk (below_step bB hb); clear HO_1; clear HB; have HO_1 := n0_; have HO197 := n1_; have HB := n2_; clear n0_ n1_ n2_; (try clear hb); (try clear hb2); (try clear hk); (try clear hi); (try clear ho0)))
        go_roundg k1
        case measure => have := HK1.out; omega
        case rel => exact ⟨(t195), (wrap64 (x13_1 + 1)), (by first | rfl | (simp; done) | (simp [*]; done)), H', ⟨by have := HK1.out; omega⟩, ⟨Kd.V_mono (Kd.R_V (by (with_reducible repeat (first | apply Kd.R_alloc | apply Kd.R_drewN | apply Kd.R_drew)); exact Kd.R_mono HO197.out (fun _ hk => hk.1))) (fun k_ hk => by first | exact ⟨(.inr (hk.1)), hk.2⟩ | exact (.inr (hk)))⟩, ⟨bB⟩⟩
      ·rw [if_neg c9] at H
       exact absurd H (by simp)
     ·rw [if_neg c7] at H
      exact absurd H (by simp)
    ·rw [if_neg c6] at H
     exact absurd H (by simp)
   ·rw [if_neg c5] at H
    have c5b0 : decide (x13_1 < (l2.length : Int)) = false := decide_eq_false c5
    clear c5
    obtain rfl := Option.some.inj H
    go_wp2
    go_ret
    exact ⟨_, by first | rfl | (simp [errW_none, errW_some] <;> rfl) | (simp [*, errW_none, errW_some] <;> rfl), by (with_reducible repeat (first | apply Kd.V_alloc | apply Kd.V_drewN | apply Kd.V_drew)); exact HO_1.out, bB⟩


/-! ### impl_toy_Size: function 138 -/
def impl_toy_Size.f (a0_0 : Int) (a0_1 : Int) (a0_2 : Int) (a0_3 : Int) (a0_4 : Int) (a0_5 : Int) : Option (Int) := some a0_1
set_option maxHeartbeats 8000000 in
set_option maxRecDepth 100000 in
theorem impl_toy_Size.calls (a0_0 : Int) (a0_1 : Int) (a0_2 : Int) (a0_3 : Int) (a0_4 : Int) (a0_5 : Int) (r : Int) (w : World) (h : impl_toy_Size.f a0_0 a0_1 a0_2 a0_3 a0_4 a0_5 = some r) :
  Calls Tryd.prog 138 #[.agg #[.int .i64 a0_0, .int .i64 a0_1, .int .i64 a0_2, .int .u64 a0_3, .int .u64 a0_4, .int .u64 a0_5]] w fun e w' => e = .returned (.int .i64 r) ∧ Below w.heap.size w w' := by
 have hu85 := Tryd.underlying85
 have HB := Aside0.mk (Below.refl w.heap.size w)
 have H : (some a0_1) = some r := h
 clear h
 obtain rfl := Option.some.inj H
 go_enter Tryd.func138, Tryd.ntmps138
 go_wp2_with (first | ((with_reducible refine gate_dst (N := 1) rfl ?_); refine box_event ?hg (N := 1) ?hd (cs := #[.int .i64 a0_0, .int .i64 a0_1, .int .i64 a0_2, .int .u64 a0_3, .int .u64 a0_4, .int .u64 a0_5]) (t := 85) ?hr ?_; (case hd => rfl); (case hg => rfl); (case hr => first | (go_simp; done) | (go_simp; rfl)); intro gb198 hg w2 hbox hb; have n0_ := Aside0.mk (below_step bB hb); have n1_ := Aside0.mk (hbox); have n2_ := Aside0.mk ((by rw [hg]; exact (below_size bB) : w.heap.size ≤ gb198)); have n3_ := Aside0.mk ((by rw [hg]; exact (below_size bB) : w.heap.size ≤ gb198)); clear HB; have HB := n0_; have BK198 := n1_; have GW198 := n2_; have GE198 := n3_; clear n0_ n1_ n2_ n3_; clear hb hbox hg; have hcz3_0 : w2.cell? ⟨gb198, 0, none⟩ = some (.int .i64 a0_0) := (blk_cell BK198.out 0).trans rfl; have hcz3_1 : w2.cell? ⟨gb198, 1, none⟩ = some (.int .i64 a0_1) := (blk_cell BK198.out 1).trans rfl; have hcz3_2 : w2.cell? ⟨gb198, 2, none⟩ = some (.int .i64 a0_2) := (blk_cell BK198.out 2).trans rfl; have hcz3_3 : w2.cell? ⟨gb198, 3, none⟩ = some (.int .u64 a0_3) := (blk_cell BK198.out 3).trans rfl; have hcz3_4 : w2.cell? ⟨gb198, 4, none⟩ = some (.int .u64 a0_4) := (blk_cell BK198.out 4).trans rfl; have hcz3_5 : w2.cell? ⟨gb198, 5, none⟩ = some (.int .u64 a0_5) := (blk_cell BK198.out 5).trans rfl; have hfz3_0 := blk_frozen BK198.out 0; have hfz3_1 := blk_frozen BK198.out 1; have hfz3_2 := blk_frozen BK198.out 2; have hfz3_3 := blk_frozen BK198.out 3; have hfz3_4 := blk_frozen BK198.out 4; have hfz3_5 := blk_frozen BK198.out 5))
 go_ret
 exact ⟨by first | rfl | (simp [errW_none, errW_some] <;> rfl) | (simp [*, errW_none, errW_some] <;> rfl), bB⟩

end Go.Proofs.YtkmdkmlgahfcpaaDoor.M

