-- Written by a program of ours (wip/xp) out of the translation; Lean checks it.
import Derived.Test.YtkmdkmlgahfcpaaDoorSq
import Derived.Test.YtkmdkmlgahfcpaaDoorMm1
import Derived.Test.YtkmdkmlgahfcpaaDoorMm3
namespace Go.Proofs.YtkmdkmlgahfcpaaDoor.M
open Go.RowKit Go.Proofs.YtkmdkmlgahfcpaaDoorW.PrintWords Go.Proofs.YtkmdkmlgahfcpaaDoorW.PrintLast Go.Proofs.YtkmdkmlgahfcpaaDoorW.PrintMore
attribute [local go_sem] max2_int min2_int max_two min_two max_three min_three max_four min_four   -- for this text's walks alone
set_option linter.unusedVariables false
set_option linter.unusedSimpArgs false

/-! ### spec_pathIn: function 101 -/
def spec_pathIn.f : Nat → Int → Int → Int → Option ((List (S57)))
 | 0, _, _, _ => none
 | k + 1, a0, a1_0, a1_1 => if (IntKind.u64.wrap (a1_1 - a1_0)) = 1 then (some ([] : List (S57))) else ((spec_split.f k (IntKind.u64.wrap (a1_1 - a1_0))).bind fun t190 => (if a0 < (IntKind.u64.wrap (a1_0 + t190)) then ((spec_pathIn.f k a0 a1_0 (IntKind.u64.wrap (a1_0 + t190))).bind fun t191 => ((some (([(⟨IntKind.u64.wrap (a1_0 + t190), a1_1⟩ : S57)] : List (S57)) : List (S57))).bind fun y194 => (if t191.length + y194.length < 8796093022208 then (some (t191 ++ y194)) else (none)))) else ((spec_pathIn.f k a0 (IntKind.u64.wrap (a1_0 + t190)) a1_1).bind fun t200 => ((some (([(⟨a1_0, IntKind.u64.wrap (a1_0 + t190)⟩ : S57)] : List (S57)) : List (S57))).bind fun y203 => (if t200.length + y203.length < 8796093022208 then (some (t200 ++ y203)) else (none))))))
theorem spec_pathIn.mono_l : ∀ k, (∀ y0 y1 y2, LeO (spec_pathIn.f k y0 y1 y2) (spec_pathIn.f (k + 1) y0 y1 y2))
 | 0 => fun _ _ _ r h => by simp [spec_pathIn.f] at h
 | k + 1 => by
  have ih0 := spec_pathIn.mono_l k
  ·intro y0 y1 y2
   unfold spec_pathIn.f
   repeat' first
   | (with_reducible exact ih0 _ _ _)
   | (with_reducible exact spec_split.mono _ _)
   | (with_reducible exact LeO.refl _)
   | (with_reducible exact LeO.none _)
   | (with_reducible refine LeO.ite ?_ ?_)
   | (with_reducible refine LeO.bind ?_ (fun _ => ?_))
   | exact ih0 _ _ _
   | exact spec_split.mono _ _
   | exact LeO.none _
   | refine LeO.ite ?_ ?_
   | refine LeO.bind ?_ (fun _ => ?_)
theorem spec_pathIn.mono : ∀ a0 a1 a2 k, LeO (spec_pathIn.f k a0 a1 a2) (spec_pathIn.f (k + 1) a0 a1 a2) := by
 intro a0 a1 a2 k
 have ih0 := spec_pathIn.mono_l k
 exact ih0 a0 a1 a2
def spec_pathIn.T3 : Bool × List (List Nat × List Nat) := (true, [([], []), ([0], [0]), ([], []), ([2], [2]), ([], []), ([4], [4]), ([3, 5], [3, 5]), ([6], [6]), ([1, 7], [1, 7]), ([8, 7, 0, 1, 2, 3, 4, 5, 6, 7, 8], [8])])
def spec_pathIn.B3 : List Nat := [0, 1, 0, 4, 0, 16, 60, 124, 255, 511]
theorem spec_pathIn.tab3 : rtab .any (opsOf Tryd.f101 3) = spec_pathIn.T3 := by kernel_rfl
theorem spec_pathIn.bits3 : waitsOk spec_pathIn.T3.2 spec_pathIn.B3 = true := by kernel_rfl
def spec_pathIn.T5 : Bool × List (List Nat × List Nat) := (true, [([], []), ([], []), ([1], [1]), ([], []), ([2, 3], [2, 3]), ([0, 4], [0, 4]), ([], []), ([], []), ([7], [7]), ([6, 8], [6, 8]), ([9], [9]), ([5, 10, 5], [5, 10]), ([11, 11, 0, 1, 2, 3, 4, 5, 6, 7, 8, 9, 10, 11], [11])])
def spec_pathIn.B5 : List Nat := [0, 0, 2, 0, 14, 31, 0, 0, 128, 448, 960, 2047, 4095]
theorem spec_pathIn.tab5 : rtab .any (opsOf Tryd.f101 5) = spec_pathIn.T5 := by kernel_rfl
theorem spec_pathIn.bits5 : waitsOk spec_pathIn.T5.2 spec_pathIn.B5 = true := by kernel_rfl
def spec_pathIn.T6 : Bool × List (List Nat × List Nat) := (true, [([], []), ([], []), ([], []), ([2], [2]), ([1, 3], [1, 3]), ([0, 4], [0, 4]), ([], []), ([6], [6]), ([], []), ([7, 8], [7, 8]), ([9], [9]), ([5, 10, 5], [5, 10]), ([11, 11, 0, 1, 2, 3, 4, 5, 6, 7, 8, 9, 10, 11], [11])])
def spec_pathIn.B6 : List Nat := [0, 0, 0, 4, 14, 31, 0, 64, 0, 448, 960, 2047, 4095]
theorem spec_pathIn.tab6 : rtab .any (opsOf Tryd.f101 6) = spec_pathIn.T6 := by kernel_rfl
theorem spec_pathIn.bits6 : waitsOk spec_pathIn.T6.2 spec_pathIn.B6 = true := by kernel_rfl
set_option maxHeartbeats 8000000 in
set_option maxRecDepth 100000 in
theorem spec_pathIn.calls (k : Nat) : ∀ (a0 : Int) (a1_0 : Int) (a1_1 : Int) (r : List (S57)) (w : World) (h : spec_pathIn.f k a0 a1_0 a1_1 = some r),
  Calls Tryd.prog 101 #[.int .u64 a0, .agg #[.int .u64 a1_0, .int .u64 a1_1]] w fun e w' => ∃ v0_ : Value, e = .returned (v0_) ∧ Kd.R k57 57 w' w.heap.size (fun _ => True) v0_ r ∧ Below w.heap.size w w' := by
 induction k using Nat.strongRecOn with
 | _ k ih =>
 intro a0 a1_0 a1_1 r w h
 cases k with
 | zero => exact absurd h (by simp [spec_pathIn.f])
 | succ k =>
 simp only [spec_pathIn.f] at h
 have hu57 := Tryd.underlying57
 have HB := Aside0.mk (Below.refl w.heap.size w)
 have H : (if (IntKind.u64.wrap (a1_1 - a1_0)) = 1 then (some ([] : List (S57))) else ((spec_split.f k (IntKind.u64.wrap (a1_1 - a1_0))).bind fun t190 => (if a0 < (IntKind.u64.wrap (a1_0 + t190)) then ((spec_pathIn.f k a0 a1_0 (IntKind.u64.wrap (a1_0 + t190))).bind fun t191 => ((some (([(⟨IntKind.u64.wrap (a1_0 + t190), a1_1⟩ : S57)] : List (S57)) : List (S57))).bind fun y194 => (if t191.length + y194.length < 8796093022208 then (some (t191 ++ y194)) else (none)))) else ((spec_pathIn.f k a0 (IntKind.u64.wrap (a1_0 + t190)) a1_1).bind fun t200 => ((some (([(⟨a1_0, IntKind.u64.wrap (a1_0 + t190)⟩ : S57)] : List (S57)) : List (S57))).bind fun y203 => (if t200.length + y203.length < 8796093022208 then (some (t200 ++ y203)) else (none))))))) = some r := h
 clear h
 by_cases c3 : (IntKind.u64.wrap (a1_1 - a1_0)) = 1
 ·rw [if_pos c3] at H
  have c3b0 : ((IntKind.u64.wrap (a1_1 - a1_0)) == 1) = true := beq_iff_eq.mpr c3
  have c3b1 : ((IntKind.u64.wrap (a1_1 - a1_0)) != 1) = false := bne_eq_false_iff_eq.mpr c3
  clear c3
  obtain rfl := Option.some.inj H
  go_enter Tryd.func101, Tryd.ntmps101
  go_wp2_with (first | ((with_reducible refine gate_dst (N := 3) rfl ?_); refine box_event ?hg (N := 3) ?hd (cs := #[.int .u64 a1_0, .int .u64 a1_1]) (t := 57) ?hr ?_; (case hd => rfl); (case hg => rfl); (case hr => first | (go_simp; done) | (go_simp; rfl)); intro gb189 hg w4 hbox hb; have n0_ := Aside0.mk (below_step bB hb); have n1_ := Aside0.mk (hbox); have n2_ := Aside0.mk ((by rw [hg]; exact (below_size bB) : w.heap.size ≤ gb189)); have n3_ := Aside0.mk ((by rw [hg]; exact (below_size bB) : w.heap.size ≤ gb189)); clear HB; have HB := n0_; have BK189 := n1_; have GW189 := n2_; have GE189 := n3_; clear n0_ n1_ n2_ n3_; clear hb hbox hg; have hcz5_0 : w4.cell? ⟨gb189, 0, none⟩ = some (.int .u64 a1_0) := (blk_cell BK189.out 0).trans rfl; have hcz5_1 : w4.cell? ⟨gb189, 1, none⟩ = some (.int .u64 a1_1) := (blk_cell BK189.out 1).trans rfl; have hfz5_0 := blk_frozen BK189.out 0; have hfz5_1 := blk_frozen BK189.out 1))
  go_ret
  exact ⟨(.slice none 0 0), by first | rfl | (simp [errW_none, errW_some] <;> rfl) | (simp [*, errW_none, errW_some] <;> rfl), by first | exact Kd.V_nil _ _ _ _ _ | exact Kd.R_nil _ _ _ _ _ | exact Kd.S_nil _ _ _ _ _ | exact Kd.N_nil _ _ _ _ _ | exact Kd.Q_nil _ _ _ _ _, bB⟩
 ·rw [if_neg c3] at H
  have c3b0 : ((IntKind.u64.wrap (a1_1 - a1_0)) == 1) = false := beq_eq_false_iff_ne.mpr c3
  have c3b1 : ((IntKind.u64.wrap (a1_1 - a1_0)) != 1) = true := bne_iff_ne.mpr c3
  replace H := Option.bind_eq_some_iff.mp H
  obtain ⟨t190, A60, H⟩ := H
  replace H : (if a0 < (IntKind.u64.wrap (a1_0 + t190)) then ((spec_pathIn.f k a0 a1_0 (IntKind.u64.wrap (a1_0 + t190))).bind fun t191 => ((some (([(⟨IntKind.u64.wrap (a1_0 + t190), a1_1⟩ : S57)] : List (S57)) : List (S57))).bind fun y194 => (if t191.length + y194.length < 8796093022208 then (some (t191 ++ y194)) else (none)))) else ((spec_pathIn.f k a0 (IntKind.u64.wrap (a1_0 + t190)) a1_1).bind fun t200 => ((some (([(⟨a1_0, IntKind.u64.wrap (a1_0 + t190)⟩ : S57)] : List (S57)) : List (S57))).bind fun y203 => (if t200.length + y203.length < 8796093022208 then (some (t200 ++ y203)) else (none))))) = some r := H
  have A6 := Aside0.mk A60
  clear A60
  by_cases c7 : a0 < (IntKind.u64.wrap (a1_0 + t190))
  ·rw [if_pos c7] at H
   have c7b0 : decide (a0 < (IntKind.u64.wrap (a1_0 + t190))) = true := decide_eq_true c7
   clear c7
   replace H := Option.bind_eq_some_iff.mp H
   obtain ⟨t191, A80, H⟩ := H
   replace H : ((some (([(⟨IntKind.u64.wrap (a1_0 + t190), a1_1⟩ : S57)] : List (S57)) : List (S57))).bind fun y194 => (if t191.length + y194.length < 8796093022208 then (some (t191 ++ y194)) else (none))) = some r := H
   have A8 := Aside0.mk A80
   clear A80
   obtain ⟨y194, hy194⟩ : ∃ y_ : List (S57), y_ = (([(⟨IntKind.u64.wrap (a1_0 + t190), a1_1⟩ : S57)] : List (S57))) := ⟨_, rfl⟩
   replace H : (if t191.length + y194.length < 8796093022208 then (some (t191 ++ y194)) else (none)) = some r := by first | (rw [hy194]; with_reducible exact H) | (have H2_ := (Option.bind_some _ _).symm.trans H; rw [hy194]; with_reducible exact H2_) | (have H2_ := (Option.bind_some _ _).symm.trans H; with_reducible exact H2_) | with_reducible exact H | (rw [hy194]; exact H) | exact H
   have Ny194 := Aside0.mk hy194
   clear hy194
   by_cases c9 : t191.length + y194.length < 8796093022208
   ·rw [if_pos c9] at H
    have LMc9 := Aside0.mk c9
    clear c9
    obtain ⟨y197, hy197⟩ : ∃ y_ : List (S57), y_ = (t191 ++ y194) := ⟨_, rfl⟩
    replace H : (some y197) = some r := by first | (rw [hy197]; with_reducible exact H) | (have H2_ := (Option.bind_some _ _).symm.trans H; rw [hy197]; with_reducible exact H2_) | (have H2_ := (Option.bind_some _ _).symm.trans H; with_reducible exact H2_) | with_reducible exact H | (rw [hy197]; exact H) | exact H
    have Ny197 := Aside0.mk hy197
    clear hy197
    obtain rfl := Option.some.inj H
    go_enter Tryd.func101, Tryd.ntmps101
    try go_wp2_with (first | ((with_reducible refine gate_dst (N := 3) rfl ?_); refine box_event ?hg (N := 3) ?hd (cs := #[.int .u64 a1_0, .int .u64 a1_1]) (t := 57) ?hr ?_; (case hd => rfl); (case hg => rfl); (case hr => first | (go_simp; done) | (go_simp; rfl)); intro gb189 hg w10 hbox hb; have n0_ := Aside0.mk (below_step bB hb); have n1_ := Aside0.mk (hbox); have n2_ := Aside0.mk ((by rw [hg]; exact (below_size bB) : w.heap.size ≤ gb189)); have n3_ := Aside0.mk ((by rw [hg]; exact (below_size bB) : w.heap.size ≤ gb189)); clear HB; have HB := n0_; have BK189 := n1_; have GW189 := n2_; have GE189 := n3_; clear n0_ n1_ n2_ n3_; clear hb hbox hg; have hcz11_0 : w10.cell? ⟨gb189, 0, none⟩ = some (.int .u64 a1_0) := (blk_cell BK189.out 0).trans rfl; have hcz11_1 : w10.cell? ⟨gb189, 1, none⟩ = some (.int .u64 a1_1) := (blk_cell BK189.out 1).trans rfl; have hfz11_0 := blk_frozen BK189.out 0; have hfz11_1 := blk_frozen BK189.out 1))
    have n0_ := Aside0.mk (blk_drew BK189.out)
    have n1_ := Aside0.mk (below_drew1 HB.out)
    clear BK189
    clear HB
    have BK189 := n0_
    have HB := n1_
    clear n0_ n1_
    refine start_ (n := 10) (S := fun w' => w'.cell? ⟨gb189, 0, none⟩ = some (.int .u64 a1_0) ∧ w'.cell? ⟨gb189, 1, none⟩ = some (.int .u64 a1_1)) (ds := []) #[false, false, false, false, false, false, false, false, false, false] (by kernel_rfl) rfl rfl ⟨(blk_cell BK189.out 0).trans rfl, (blk_cell BK189.out 1).trans rfl⟩ (fun hHeld => ?_); refine with_tabW spec_pathIn.tab3 spec_pathIn.bits3 (fun HT_ HW_ => ?_)
    generalize w10.drew = w12 at BK189 HB hHeld ⊢
    refine pure_ (i := 0) (N := some 12) (v := ?_) (a' := ?_) #[true, false, false, false, false, false, false, false, false, false] rfl rfl (any_of HT_.out (by kernel_rfl)) (fun _ _ _ h => h) (Or.inl ⟨by rfl, ?_⟩) ?_ ?_
    rotate_left
    ·intro w'
     go_simp
     with_reducible rfl
    rotate_left
    ·simp only [Act.put, List.setIfInBounds_toArray, List.set_cons_zero, List.set_cons_succ, i64_w, i32_w]
     rfl
    refine pure_ (i := 2) (N := some 14) (v := ?_) (a' := ?_) #[true, false, true, false, false, false, false, false, false, false] rfl rfl (any_of HT_.out (by kernel_rfl)) (fun _ _ _ h => h) (Or.inl ⟨by rfl, ?_⟩) ?_ ?_
    rotate_left
    ·intro w'
     go_simp
     with_reducible rfl
    rotate_left
    ·simp only [Act.put, List.setIfInBounds_toArray, List.set_cons_zero, List.set_cons_succ, i64_w, i32_w]
     rfl
    refine pure_ (i := 4) (N := some 16) (v := ?_) (a' := ?_) #[true, false, true, false, true, false, false, false, false, false] rfl rfl (any_of HT_.out (by kernel_rfl)) (fun _ _ _ h => h) (Or.inl ⟨by rfl, ?_⟩) ?_ ?_
    rotate_left
    ·intro w'
     go_simp
     with_reducible rfl
    rotate_left
    ·simp only [Act.put, List.setIfInBounds_toArray, List.set_cons_zero, List.set_cons_succ, i64_w, i32_w]
     rfl
    refine take_ (i := 1) (N := some 13) (v := ?_) (a' := ?_) #[true, true, true, false, true, false, false, false, false, false] rfl rfl (take_ofW HT_.out HW_.out (by kernel_rfl)) (fun _ _ _ h => h) (Or.inl ⟨by rfl, ?_⟩) hHeld ?_ ?_
    rotate_left
    ·rintro w' ⟨s0, s1⟩
     go_simp
     with_reducible rfl
    rotate_left
    ·simp only [Act.put, List.setIfInBounds_toArray, List.set_cons_zero, List.set_cons_succ, i64_w, i32_w]
     rfl
    refine take_ (i := 3) (N := some 15) (v := ?_) (a' := ?_) #[true, true, true, true, true, false, false, false, false, false] rfl rfl (take_ofW HT_.out HW_.out (by kernel_rfl)) (fun _ _ _ h => h) (Or.inl ⟨by rfl, ?_⟩) hHeld ?_ ?_
    rotate_left
    ·rintro w' ⟨s0, s1⟩
     go_simp
     with_reducible rfl
    rotate_left
    ·simp only [Act.put, List.setIfInBounds_toArray, List.set_cons_zero, List.set_cons_succ, i64_w, i32_w]
     rfl
    refine take_ (i := 5) (N := some 17) (v := ?_) (a' := ?_) #[true, true, true, true, true, true, false, false, false, false] rfl rfl (take_ofW HT_.out HW_.out (by kernel_rfl)) (fun _ _ _ h => h) (Or.inl ⟨by rfl, ?_⟩) hHeld ?_ ?_
    rotate_left
    ·rintro w' ⟨s0, s1⟩
     go_simp
     with_reducible rfl
    rotate_left
    ·simp only [Act.put, List.setIfInBounds_toArray, List.set_cons_zero, List.set_cons_succ, i64_w, i32_w]
     rfl
    refine pure_ (i := 6) (N := some 18) (v := ?_) (a' := ?_) #[true, true, true, true, true, true, true, false, false, false] rfl rfl (any_of HT_.out (by kernel_rfl)) (fun _ _ _ h => h) (Or.inl ⟨by rfl, ?_⟩) ?_ ?_
    rotate_left
    ·intro w'
     go_simp
     with_reducible rfl
    rotate_left
    ·simp only [Act.put, List.setIfInBounds_toArray, List.set_cons_zero, List.set_cons_succ, i64_w, i32_w]
     rfl
    refine one_ (i := 7) (N := some 19) #[true, true, true, true, true, true, true, true, false, false] rfl rfl (one_of HT_.out (by kernel_rfl)) (by decide) (fun K hK => ?_)
    refine goes_ Tryd.func99 (by kernel_rfl) rfl #[.int .u64 (IntKind.u64.wrap (a1_1 - a1_0))] (by rfl) rfl rfl aV ?_
    with_reducible refine (spec_split.calls k (IntKind.u64.wrap (a1_1 - a1_0)) t190 _ A6.out).mono ?_
    rintro e w' ⟨rfl, ⟨nd, rfl⟩⟩
    refine ⟨_, rfl, ?_⟩
    refine hK.out _ _ ⟨(blk_cell BK189.out 0).trans rfl, (blk_cell BK189.out 1).trans rfl⟩ (fun hHeld => ?_)
    clear hK K
    refine norm_ (a' := ?_) ?_ ?_
    rotate_left
    ·show Act.put _ (some 19) _ = _
     simp only [Act.put, List.setIfInBounds_toArray, List.set_cons_zero, List.set_cons_succ, i64_w, i32_w]
     rfl
    refine pure_ (i := 8) (N := some 20) (v := ?_) (a' := ?_) #[true, true, true, true, true, true, true, true, true, false] rfl rfl (any_of HT_.out (by kernel_rfl)) (fun _ _ _ h => h) (Or.inl ⟨by rfl, ?_⟩) ?_ ?_
    rotate_left
    ·intro w'
     go_simp
     with_reducible rfl
    rotate_left
    ·simp only [Act.put, List.setIfInBounds_toArray, List.set_cons_zero, List.set_cons_succ, i64_w, i32_w]
     rfl
    refine pure_ (i := 9) (N := some 5) (v := ?_) (a' := ?_) #[true, true, true, true, true, true, true, true, true, true] rfl rfl (any_of HT_.out (by kernel_rfl)) (fun _ _ _ h => h) (Or.inl ⟨by rfl, ?_⟩) ?_ ?_
    rotate_left
    ·intro w'
     go_simp
     with_reducible rfl
    rotate_left
    ·simp only [Act.put, List.setIfInBounds_toArray, List.set_cons_zero, List.set_cons_succ, i64_w, i32_w]
     rfl
    refine done_ (done_of HT_.out (by kernel_rfl)) ?_
    try go_wp2
    (try (rw [drewN_self w12]; generalize hq_ : World.drewN w12 _ = w12; have n0_ : Aside0 (w12.heap[gb189]? = some (.cells #[.int .u64 a1_0, .int .u64 a1_1] 57 (0, 0))) := ⟨by rw [← hq_]; exact (kB BK189.out)⟩; have n1_ : Aside0 (Below w.heap.size w w12) := ⟨by rw [← hq_]; exact bB⟩; clear BK189 HB hq_; have BK189 := n0_; have HB := n1_; clear n0_ n1_))
    have n0_ := Aside0.mk (blk_drew BK189.out)
    have n1_ := Aside0.mk (below_drew1 HB.out)
    clear BK189
    clear HB
    have BK189 := n0_
    have HB := n1_
    clear n0_ n1_
    refine start_ (n := 13) (S := fun w' => w'.cell? ⟨gb189, 0, none⟩ = some (.int .u64 a1_0) ∧ w'.cell? ⟨gb189, 1, none⟩ = some (.int .u64 a1_1)) (ds := []) #[false, false, false, false, false, false, false, false, false, false, false, false, false] (by kernel_rfl) rfl rfl ⟨(blk_cell BK189.out 0).trans rfl, (blk_cell BK189.out 1).trans rfl⟩ (fun hHeld => ?_); refine with_tabW spec_pathIn.tab5 spec_pathIn.bits5 (fun HT_ HW_ => ?_)
    generalize w12.drew = w13 at BK189 HB hHeld ⊢
    refine pure_ (i := 0) (N := some 24) (v := ?_) (a' := ?_) #[true, false, false, false, false, false, false, false, false, false, false, false, false] rfl rfl (any_of HT_.out (by kernel_rfl)) (fun _ _ _ h => h) (Or.inl ⟨by rfl, ?_⟩) ?_ ?_
    rotate_left
    ·intro w'
     go_simp
     with_reducible rfl
    rotate_left
    ·simp only [Act.put, List.setIfInBounds_toArray, List.set_cons_zero, List.set_cons_succ, i64_w, i32_w]
     rfl
    refine pure_ (i := 1) (N := some 25) (v := ?_) (a' := ?_) #[true, true, false, false, false, false, false, false, false, false, false, false, false] rfl rfl (any_of HT_.out (by kernel_rfl)) (fun _ _ _ h => h) (Or.inl ⟨by rfl, ?_⟩) ?_ ?_
    rotate_left
    ·intro w'
     go_simp
     with_reducible rfl
    rotate_left
    ·simp only [Act.put, List.setIfInBounds_toArray, List.set_cons_zero, List.set_cons_succ, i64_w, i32_w]
     rfl
    refine pure_ (i := 3) (N := some 27) (v := ?_) (a' := ?_) #[true, true, false, true, false, false, false, false, false, false, false, false, false] rfl rfl (any_of HT_.out (by kernel_rfl)) (fun _ _ _ h => h) (Or.inl ⟨by rfl, ?_⟩) ?_ ?_
    rotate_left
    ·intro w'
     go_simp
     with_reducible rfl
    rotate_left
    ·simp only [Act.put, List.setIfInBounds_toArray, List.set_cons_zero, List.set_cons_succ, i64_w, i32_w]
     rfl
    refine pure_ (i := 6) (N := some 30) (v := ?_) (a' := ?_) #[true, true, false, true, false, false, true, false, false, false, false, false, false] rfl rfl (any_of HT_.out (by kernel_rfl)) (fun _ _ _ h => h) (Or.inl ⟨by rfl, ?_⟩) ?_ ?_
    rotate_left
    ·intro w'
     go_simp
     with_reducible rfl
    rotate_left
    ·simp only [Act.put, List.setIfInBounds_toArray, List.set_cons_zero, List.set_cons_succ, i64_w, i32_w]
     rfl
    refine pure_ (i := 7) (N := some 31) (v := ?_) (a' := ?_) #[true, true, false, true, false, false, true, true, false, false, false, false, false] rfl rfl (any_of HT_.out (by kernel_rfl)) (fun _ _ _ h => h) (Or.inl ⟨by rfl, ?_⟩) ?_ ?_
    rotate_left
    ·intro w'
     go_simp
     with_reducible rfl
    rotate_left
    ·simp only [Act.put, List.setIfInBounds_toArray, List.set_cons_zero, List.set_cons_succ, i64_w, i32_w]
     rfl
    refine take_ (i := 2) (N := some 26) (v := ?_) (a' := ?_) #[true, true, true, true, false, false, true, true, false, false, false, false, false] rfl rfl (take_ofW HT_.out HW_.out (by kernel_rfl)) (fun _ _ _ h => h) (Or.inl ⟨by rfl, ?_⟩) hHeld ?_ ?_
    rotate_left
    ·rintro w' ⟨s0, s1⟩
     go_simp
     with_reducible rfl
    rotate_left
    ·simp only [Act.put, List.setIfInBounds_toArray, List.set_cons_zero, List.set_cons_succ, i64_w, i32_w]
     rfl
    refine pure_ (i := 4) (N := some 28) (v := ?_) (a' := ?_) #[true, true, true, true, true, false, true, true, false, false, false, false, false] rfl rfl (any_of HT_.out (by kernel_rfl)) (fun _ _ _ h => h) (Or.inl ⟨by rfl, ?_⟩) ?_ ?_
    rotate_left
    ·intro w'
     go_simp
     with_reducible rfl
    rotate_left
    ·simp only [Act.put, List.setIfInBounds_toArray, List.set_cons_zero, List.set_cons_succ, i64_w, i32_w]
     rfl
    refine take_ (i := 8) (N := some 32) (v := ?_) (a' := ?_) #[true, true, true, true, true, false, true, true, true, false, false, false, false] rfl rfl (take_ofW HT_.out HW_.out (by kernel_rfl)) (fun _ _ _ h => h) (Or.inl ⟨by rfl, ?_⟩) hHeld ?_ ?_
    rotate_left
    ·rintro w' ⟨s0, s1⟩
     go_simp
     with_reducible rfl
    rotate_left
    ·simp only [Act.put, List.setIfInBounds_toArray, List.set_cons_zero, List.set_cons_succ, i64_w, i32_w]
     rfl
    refine pure_ (i := 9) (N := some 33) (v := ?_) (a' := ?_) #[true, true, true, true, true, false, true, true, true, true, false, false, false] rfl rfl (any_of HT_.out (by kernel_rfl)) (fun _ _ _ h => h) (Or.inl ⟨by rfl, ?_⟩) ?_ ?_
    rotate_left
    ·intro w'
     go_simp
     with_reducible rfl
    rotate_left
    ·simp only [Act.put, List.setIfInBounds_toArray, List.set_cons_zero, List.set_cons_succ, i64_w, i32_w]
     rfl
    refine join_ (σ := Value × Value) 2 #[true, true, true, true, true, true, true, true, true, true, true, false, false] (fun s_ => [(29, s_.1), (34, s_.2)]) (fun s_ w' => (w'.cell? ⟨gb189, 0, none⟩ = some (.int .u64 a1_0) ∧ w'.cell? ⟨gb189, 1, none⟩ = some (.int .u64 a1_1)) ∧ (Kd.R k57 57 w' w.heap.size (fun k_ => some k_ ≠ (s_.2 : Value).ownBlock ∧ k_ ≠ gb189) s_.1 t191) ∧ (Kd.R k57 57 w' w.heap.size (fun k_ => some k_ ≠ (s_.1 : Value).ownBlock ∧ k_ ≠ gb189) s_.2 y194) ∧ (w'.heap[gb189]? = some (.cells #[.int .u64 a1_0, .int .u64 a1_1] 57 (0, 0))) ∧ (Below w.heap.size w w')) ?_ ?_
    rotate_left
    ·intro hCont
     refine two_ (i := 5) (j := 10) (Ni := some 29) (Nj := some 34) #[true, true, true, true, true, true, true, true, true, true, false, false, false] #[true, true, true, true, true, false, true, true, true, true, true, false, false] rfl rfl rfl rfl (two_of HT_.out (by kernel_rfl)) (by decide) (by decide) (fun K hK => ?_) (fun K hK => ?_)
     ·skip
      refine goes_ Tryd.func101 (by kernel_rfl) rfl #[.int .u64 a0, .agg #[.int .u64 a1_0, .int .u64 (IntKind.u64.wrap (a1_0 + t190))]] (by rfl) rfl rfl aV ?_
      with_reducible refine (ih k (by omega) a0 a1_0 (IntKind.u64.wrap (a1_0 + t190)) t191 _ A8.out).mono ?_
      rintro e w14 ⟨v192, rfl, ho0, hb⟩
      refine ⟨_, rfl, ?_⟩
      have n0_ := Aside0.mk (Kd.R_lower (Kd.R_newB ho0 (g := gb189) (o := .cells #[.int .u64 a1_0, .int .u64 a1_1] 57 (0, 0)) (kB BK189.out)) (below_size bB))
      have n1_ := Aside0.mk (blk_below (g := gb189) (o := .cells #[.int .u64 a1_0, .int .u64 a1_1] 57 (0, 0)) (kB BK189.out) hb)
      have n2_ := Aside0.mk (below_step bB hb)
      clear BK189
      clear HB
      have HO193 := n0_
      have BK189 := n1_
      have HB := n2_
      clear n0_ n1_ n2_
      (try clear hb)
      (try clear hb2)
      (try clear hk)
      (try clear hi)
      (try clear ho0)
      refine hK.out _ _ ⟨(blk_cell BK189.out 0).trans rfl, (blk_cell BK189.out 1).trans rfl⟩ (fun hHeld => ?_)
      clear hK K
      refine norm_ (a' := ?_) ?_ ?_
      rotate_left
      ·show Act.put _ (some 29) _ = _
       simp only [Act.put, List.setIfInBounds_toArray, List.set_cons_zero, List.set_cons_succ, i64_w, i32_w]
       rfl
      refine one_ (i := 10) (N := some 34) #[true, true, true, true, true, true, true, true, true, true, true, false, false] rfl rfl (one_of HT_.out (by kernel_rfl)) (by decide) (fun K hK => ?_)
      refine Kd.R_lit_step k57 _ 57 ?hg (N := 34) ?hd (xs := ([(⟨IntKind.u64.wrap (a1_0 + t190), a1_1⟩ : S57)] : List (S57))) (inner := [.int .u64 (IntKind.u64.wrap (a1_0 + t190)), .int .u64 a1_1]) (ok := fun _ => True) (okp := fun _ => True) ?hr ?hp (fun _ hk => hk) trivial (Below.refl _ _) (Nat.le_refl _) (by simp) ?_; (case hd => rfl); (case hg => rfl); (case hr => first | (go_simp; done) | (go_simp; rfl)); (case hp => exact (Reps.c2 (show Kd.M k57 _ _ _ (⟨IntKind.u64.wrap (a1_0 + t190), a1_1⟩ : S57) [.int .u64 (IntKind.u64.wrap (a1_0 + t190)), .int .u64 a1_1] from (k57_mkM _ _ _ (⟨IntKind.u64.wrap (a1_0 + t190), a1_1⟩ : S57) )) (Reps.none _ _)))
      intro v195 w15 ho16 hb hg_ hnew_
      clear hg_ hnew_
      (first | rw [← Ny194.out] at ho16 | (simp only [Int.reduceToNat] at ho16; rw [← Ny194.out] at ho16))
      have n0_ := Aside0.mk (Kd.R_elder' (kR HO193.out) (Kd.R_base ho16) hb)
      have n1_ := Aside0.mk (Kd.R_lower (Kd.R_newB (Kd.R_new' ho16 (Kd.R_lt (kR HO193.out))) (g := gb189) (o := .cells #[.int .u64 a1_0, .int .u64 a1_1] 57 (0, 0)) (kB BK189.out)) (below_size bB))
      have n2_ := Aside0.mk (blk_below (g := gb189) (o := .cells #[.int .u64 a1_0, .int .u64 a1_1] 57 (0, 0)) (kB BK189.out) hb)
      have n3_ := Aside0.mk (below_step bB hb)
      clear HO193
      clear BK189
      clear HB
      have HO193 := n0_
      have HO196 := n1_
      have BK189 := n2_
      have HB := n3_
      clear n0_ n1_ n2_ n3_
      clear hb ho16
      refine hK.out _ _ ⟨(blk_cell BK189.out 0).trans rfl, (blk_cell BK189.out 1).trans rfl⟩ (fun hHeld => ?_)
      clear hK K
      refine norm_ (a' := ?_) ?_ ?_
      rotate_left
      ·show Act.put _ (some 34) _ = _
       simp only [Act.put, List.setIfInBounds_toArray, List.set_cons_zero, List.set_cons_succ, i64_w, i32_w]
       rfl
      exact norm_ (by simp only [putAll, Act.put, List.setIfInBounds_toArray, List.set_cons_zero, List.set_cons_succ]) (hCont (v192, v195) _ ⟨hHeld, (by (with_reducible repeat (first | apply Kd.R_alloc | apply Kd.R_drewN | apply Kd.R_drew)); exact Kd.R_mono HO193.out (fun _ hk => ⟨hk.2, hk.1.2⟩)), (by (with_reducible repeat (first | apply Kd.R_alloc | apply Kd.R_drewN | apply Kd.R_drew)); exact Kd.R_mono HO196.out (fun _ hk => ⟨hk.1.2, hk.2⟩)), (kB BK189.out), bB⟩)
     ·skip
      refine Kd.R_lit_step k57 _ 57 ?hg (N := 34) ?hd (xs := ([(⟨IntKind.u64.wrap (a1_0 + t190), a1_1⟩ : S57)] : List (S57))) (inner := [.int .u64 (IntKind.u64.wrap (a1_0 + t190)), .int .u64 a1_1]) (ok := fun _ => True) (okp := fun _ => True) ?hr ?hp (fun _ hk => hk) trivial (Below.refl _ _) (Nat.le_refl _) (by simp) ?_; (case hd => rfl); (case hg => rfl); (case hr => first | (go_simp; done) | (go_simp; rfl)); (case hp => exact (Reps.c2 (show Kd.M k57 _ _ _ (⟨IntKind.u64.wrap (a1_0 + t190), a1_1⟩ : S57) [.int .u64 (IntKind.u64.wrap (a1_0 + t190)), .int .u64 a1_1] from (k57_mkM _ _ _ (⟨IntKind.u64.wrap (a1_0 + t190), a1_1⟩ : S57) )) (Reps.none _ _)))
      intro v195 w14 ho15 hb hg_ hnew_
      clear hg_ hnew_
      (first | rw [← Ny194.out] at ho15 | (simp only [Int.reduceToNat] at ho15; rw [← Ny194.out] at ho15))
      have n0_ := Aside0.mk (Kd.R_lower (Kd.R_newB ho15 (g := gb189) (o := .cells #[.int .u64 a1_0, .int .u64 a1_1] 57 (0, 0)) (kB BK189.out)) (below_size bB))
      have n1_ := Aside0.mk (blk_below (g := gb189) (o := .cells #[.int .u64 a1_0, .int .u64 a1_1] 57 (0, 0)) (kB BK189.out) hb)
      have n2_ := Aside0.mk (below_step bB hb)
      clear BK189
      clear HB
      have HO196 := n0_
      have BK189 := n1_
      have HB := n2_
      clear n0_ n1_ n2_
      clear hb ho15
      refine hK.out _ _ ⟨(blk_cell BK189.out 0).trans rfl, (blk_cell BK189.out 1).trans rfl⟩ (fun hHeld => ?_)
      clear hK K
      refine norm_ (a' := ?_) ?_ ?_
      rotate_left
      ·show Act.put _ (some 34) _ = _
       simp only [Act.put, List.setIfInBounds_toArray, List.set_cons_zero, List.set_cons_succ, i64_w, i32_w]
       rfl
      refine one_ (i := 5) (N := some 29) #[true, true, true, true, true, true, true, true, true, true, true, false, false] rfl rfl (one_of HT_.out (by kernel_rfl)) (by decide) (fun K hK => ?_)
      refine goes_ Tryd.func101 (by kernel_rfl) rfl #[.int .u64 a0, .agg #[.int .u64 a1_0, .int .u64 (IntKind.u64.wrap (a1_0 + t190))]] (by rfl) rfl rfl aV ?_
      with_reducible refine (ih k (by omega) a0 a1_0 (IntKind.u64.wrap (a1_0 + t190)) t191 _ A8.out).mono ?_
      rintro e w16 ⟨v192, rfl, ho0, hb⟩
      refine ⟨_, rfl, ?_⟩
      have n0_ := Aside0.mk (Kd.R_elder' (kR HO196.out) (Kd.R_base ho0) hb)
      have n1_ := Aside0.mk (Kd.R_lower (Kd.R_newB (Kd.R_new' ho0 (Kd.R_lt (kR HO196.out))) (g := gb189) (o := .cells #[.int .u64 a1_0, .int .u64 a1_1] 57 (0, 0)) (kB BK189.out)) (below_size bB))
      have n2_ := Aside0.mk (blk_below (g := gb189) (o := .cells #[.int .u64 a1_0, .int .u64 a1_1] 57 (0, 0)) (kB BK189.out) hb)
      have n3_ := Aside0.mk (below_step bB hb)
      clear HO196
      clear BK189
      clear HB
      have HO196 := n0_
      have HO193 := n1_
      have BK189 := n2_
      have HB := n3_
      clear n0_ n1_ n2_ n3_
      (try clear hb)
      (try clear hb2)
      (try clear hk)
      (try clear hi)
      (try clear ho0)
      refine hK.out _ _ ⟨(blk_cell BK189.out 0).trans rfl, (blk_cell BK189.out 1).trans rfl⟩ (fun hHeld => ?_)
      clear hK K
      refine norm_ (a' := ?_) ?_ ?_
      rotate_left
      ·show Act.put _ (some 29) _ = _
       simp only [Act.put, List.setIfInBounds_toArray, List.set_cons_zero, List.set_cons_succ, i64_w, i32_w]
       rfl
      exact norm_ (by simp only [putAll, Act.put, List.setIfInBounds_toArray, List.set_cons_zero, List.set_cons_succ]) (hCont (v192, v195) _ ⟨hHeld, (by (with_reducible repeat (first | apply Kd.R_alloc | apply Kd.R_drewN | apply Kd.R_drew)); exact Kd.R_mono HO193.out (fun _ hk => ⟨hk.1.2, hk.2⟩)), (by (with_reducible repeat (first | apply Kd.R_alloc | apply Kd.R_drewN | apply Kd.R_drew)); exact Kd.R_mono HO196.out (fun _ hk => ⟨hk.2, hk.1.2⟩)), (kB BK189.out), bB⟩)
    rintro ⟨v192, v195⟩ w17 ⟨hS_, h0_, h1_, h2_, h3_⟩
    have n0_ : Aside0 (Kd.R k57 57 w17 w.heap.size (fun k_ => some k_ ≠ (v195 : Value).ownBlock ∧ k_ ≠ gb189) v192 t191) := ⟨h0_⟩
    have n1_ : Aside0 (Kd.R k57 57 w17 w.heap.size (fun k_ => some k_ ≠ (v192 : Value).ownBlock ∧ k_ ≠ gb189) v195 y194) := ⟨h1_⟩
    have n2_ : Aside0 (w17.heap[gb189]? = some (.cells #[.int .u64 a1_0, .int .u64 a1_1] 57 (0, 0))) := ⟨h2_⟩
    have n3_ : Aside0 (Below w.heap.size w w17) := ⟨h3_⟩
    clear BK189
    clear HB
    clear h0_ h1_ h2_ h3_
    have HO193 := n0_
    have HO196 := n1_
    have BK189 := n2_
    have HB := n3_
    clear n0_ n1_ n2_ n3_
    have hHeld : w17.cell? ⟨gb189, 0, none⟩ = some (.int .u64 a1_0) ∧ w17.cell? ⟨gb189, 1, none⟩ = some (.int .u64 a1_1) := hS_
    obtain ⟨Ao19, co19, eo19⟩ := Kd.R_slice HO196.out
    (first | subst eo19 | (injection eo19 with f1_ f2_ f3_; have f4_ := f1_.symm; have f5_ := f3_.symm; clear f1_ f2_ f3_; subst f4_; subst f5_))
    refine norm_ (a' := ?_) ?_ ?_
    rotate_left
    ·simp only [putAll, Act.put, List.setIfInBounds_toArray, List.set_cons_zero, List.set_cons_succ]
     rfl
    refine one_ (i := 11) (N := some 35) #[true, true, true, true, true, true, true, true, true, true, true, true, false] rfl rfl (one_of HT_.out (by kernel_rfl)) (by decide) (fun K hK => ?_)
    refine Kd.R_append_rows_step k57 (w0 := w) w.heap.size (by rfl) (.tmp 29) (.tmp 34) 93 57 (.agg #[(.int .u64 0), (.int .u64 0)]) 16 rfl Tryd.underlying93 info57 rfl (by decide) (by omega) v192 t191 y194 _ _ _ (fun k_ => some k_ ≠ (.slice Ao19 y194.length co19 : Value).ownBlock ∧ k_ ≠ gb189) (fun _ => False) rfl rfl ?aO ?aR (fun _ _ h => h) (fun _ h => h.elim) ?aF ?aB ?aS ?aL ?_
    (case aR => repeat (first | exact (Kd.R_reads' HO196.out).2.2 | (with_reducible refine Kd.C_alloc ?_ _) | (with_reducible refine Kd.C_drewN ?_ _) | (with_reducible refine Kd.C_drew ?_)))
    (case aB => exact bB)
    (case aF => exact (fun k_ hk => ⟨Kd.fresh' (Kd.R_lt (kR HO196.out)) k_ hk, Kd.freshB (g := gb189) (o := .cells #[.int .u64 a1_0, .int .u64 a1_1] 57 (0, 0)) (kB BK189.out) k_ hk⟩))
    (case aO => exact (kR HO193.out))
    (case aS => exact (below_size bB))
    (case aL => have := LMc9.out; omega)
    intro v198 w18 ho hb hg hat
    rw [← Ny197.out] at ho
    have n0_ := Aside0.mk (blk_grown (g := gb189) (o := .cells #[.int .u64 a1_0, .int .u64 a1_1] 57 (0, 0)) (kB BK189.out) hg (Kd.R_away HO193.out (fun _ hk => hk.2)))
    have n1_ := Aside0.mk (Kd.R_after (ok := (fun k_ => k_ ≠ gb189)) (by (with_reducible repeat (first | apply Kd.R_alloc | apply Kd.R_drewN | apply Kd.R_drew)); exact Kd.R_mono HO196.out (fun _ hk => ⟨hk.2, hk.1⟩)) hg hat)
    have n2_ := Aside0.mk (hb)
    have n3_ := Aside0.mk (ho)
    clear BK189
    clear HO196
    clear HB
    clear HO193
    have BK189 := n0_
    have HO196 := n1_
    have HB := n2_
    have HO199 := n3_
    clear n0_ n1_ n2_ n3_
    clear ho hb hg hat
    refine hK.out _ _ ⟨(blk_cell BK189.out 0).trans rfl, (blk_cell BK189.out 1).trans rfl⟩ (fun hHeld => ?_)
    clear hK K
    refine norm_ (a' := ?_) ?_ ?_
    rotate_left
    ·show Act.put _ (some 35) _ = _
     simp only [Act.put, List.setIfInBounds_toArray, List.set_cons_zero, List.set_cons_succ, i64_w, i32_w]
     rfl
    refine pure_ (i := 12) (N := some 4) (v := ?_) (a' := ?_) #[true, true, true, true, true, true, true, true, true, true, true, true, true] rfl rfl (any_of HT_.out (by kernel_rfl)) (fun _ _ _ h => h) (Or.inl ⟨by rfl, ?_⟩) ?_ ?_
    rotate_left
    ·intro w'
     go_simp
     with_reducible rfl
    rotate_left
    ·simp only [Act.put, List.setIfInBounds_toArray, List.set_cons_zero, List.set_cons_succ, i64_w, i32_w]
     rfl
    refine done_ (done_of HT_.out (by kernel_rfl)) ?_
    try go_wp2
    go_ret
    exact ⟨_, by first | rfl | (simp [errW_none, errW_some] <;> rfl) | (simp [*, errW_none, errW_some] <;> rfl), by (with_reducible repeat (first | apply Kd.R_alloc | apply Kd.R_drewN | apply Kd.R_drew)); exact Kd.R_mono HO199.out (fun _ hk => trivial), bB⟩
   ·rw [if_neg c9] at H
    exact absurd H (by simp)
  ·rw [if_neg c7] at H
   have c7b0 : decide (a0 < (IntKind.u64.wrap (a1_0 + t190))) = false := decide_eq_false c7
   clear c7
   replace H := Option.bind_eq_some_iff.mp H
   obtain ⟨t200, A200, H⟩ := H
   replace H : ((some (([(⟨a1_0, IntKind.u64.wrap (a1_0 + t190)⟩ : S57)] : List (S57)) : List (S57))).bind fun y203 => (if t200.length + y203.length < 8796093022208 then (some (t200 ++ y203)) else (none))) = some r := H
   have A20 := Aside0.mk A200
   clear A200
   obtain ⟨y203, hy203⟩ : ∃ y_ : List (S57), y_ = (([(⟨a1_0, IntKind.u64.wrap (a1_0 + t190)⟩ : S57)] : List (S57))) := ⟨_, rfl⟩
   replace H : (if t200.length + y203.length < 8796093022208 then (some (t200 ++ y203)) else (none)) = some r := by first | (rw [hy203]; with_reducible exact H) | (have H2_ := (Option.bind_some _ _).symm.trans H; rw [hy203]; with_reducible exact H2_) | (have H2_ := (Option.bind_some _ _).symm.trans H; with_reducible exact H2_) | with_reducible exact H | (rw [hy203]; exact H) | exact H
   have Ny203 := Aside0.mk hy203
   clear hy203
   by_cases c21 : t200.length + y203.length < 8796093022208
   ·rw [if_pos c21] at H
    have LMc21 := Aside0.mk c21
    clear c21
    obtain ⟨y206, hy206⟩ : ∃ y_ : List (S57), y_ = (t200 ++ y203) := ⟨_, rfl⟩
    replace H : (some y206) = some r := by first | (rw [hy206]; with_reducible exact H) | (have H2_ := (Option.bind_some _ _).symm.trans H; rw [hy206]; with_reducible exact H2_) | (have H2_ := (Option.bind_some _ _).symm.trans H; with_reducible exact H2_) | with_reducible exact H | (rw [hy206]; exact H) | exact H
    have Ny206 := Aside0.mk hy206
    clear hy206
    obtain rfl := Option.some.inj H
    go_enter Tryd.func101, Tryd.ntmps101
    try go_wp2_with (first | ((with_reducible refine gate_dst (N := 3) rfl ?_); refine box_event ?hg (N := 3) ?hd (cs := #[.int .u64 a1_0, .int .u64 a1_1]) (t := 57) ?hr ?_; (case hd => rfl); (case hg => rfl); (case hr => first | (go_simp; done) | (go_simp; rfl)); intro gb189 hg w22 hbox hb; have n0_ := Aside0.mk (below_step bB hb); have n1_ := Aside0.mk (hbox); have n2_ := Aside0.mk ((by rw [hg]; exact (below_size bB) : w.heap.size ≤ gb189)); have n3_ := Aside0.mk ((by rw [hg]; exact (below_size bB) : w.heap.size ≤ gb189)); clear HB; have HB := n0_; have BK189 := n1_; have GW189 := n2_; have GE189 := n3_; clear n0_ n1_ n2_ n3_; clear hb hbox hg; have hcz23_0 : w22.cell? ⟨gb189, 0, none⟩ = some (.int .u64 a1_0) := (blk_cell BK189.out 0).trans rfl; have hcz23_1 : w22.cell? ⟨gb189, 1, none⟩ = some (.int .u64 a1_1) := (blk_cell BK189.out 1).trans rfl; have hfz23_0 := blk_frozen BK189.out 0; have hfz23_1 := blk_frozen BK189.out 1))
    have n0_ := Aside0.mk (blk_drew BK189.out)
    have n1_ := Aside0.mk (below_drew1 HB.out)
    clear BK189
    clear HB
    have BK189 := n0_
    have HB := n1_
    clear n0_ n1_
    refine start_ (n := 10) (S := fun w' => w'.cell? ⟨gb189, 0, none⟩ = some (.int .u64 a1_0) ∧ w'.cell? ⟨gb189, 1, none⟩ = some (.int .u64 a1_1)) (ds := []) #[false, false, false, false, false, false, false, false, false, false] (by kernel_rfl) rfl rfl ⟨(blk_cell BK189.out 0).trans rfl, (blk_cell BK189.out 1).trans rfl⟩ (fun hHeld => ?_); refine with_tabW spec_pathIn.tab3 spec_pathIn.bits3 (fun HT_ HW_ => ?_)
    generalize w22.drew = w24 at BK189 HB hHeld ⊢
    refine pure_ (i := 0) (N := some 12) (v := ?_) (a' := ?_) #[true, false, false, false, false, false, false, false, false, false] rfl rfl (any_of HT_.out (by kernel_rfl)) (fun _ _ _ h => h) (Or.inl ⟨by rfl, ?_⟩) ?_ ?_
    rotate_left
    ·intro w'
     go_simp
     with_reducible rfl
    rotate_left
    ·simp only [Act.put, List.setIfInBounds_toArray, List.set_cons_zero, List.set_cons_succ, i64_w, i32_w]
     rfl
    refine pure_ (i := 2) (N := some 14) (v := ?_) (a' := ?_) #[true, false, true, false, false, false, false, false, false, false] rfl rfl (any_of HT_.out (by kernel_rfl)) (fun _ _ _ h => h) (Or.inl ⟨by rfl, ?_⟩) ?_ ?_
    rotate_left
    ·intro w'
     go_simp
     with_reducible rfl
    rotate_left
    ·simp only [Act.put, List.setIfInBounds_toArray, List.set_cons_zero, List.set_cons_succ, i64_w, i32_w]
     rfl
    refine pure_ (i := 4) (N := some 16) (v := ?_) (a' := ?_) #[true, false, true, false, true, false, false, false, false, false] rfl rfl (any_of HT_.out (by kernel_rfl)) (fun _ _ _ h => h) (Or.inl ⟨by rfl, ?_⟩) ?_ ?_
    rotate_left
    ·intro w'
     go_simp
     with_reducible rfl
    rotate_left
    ·simp only [Act.put, List.setIfInBounds_toArray, List.set_cons_zero, List.set_cons_succ, i64_w, i32_w]
     rfl
    refine take_ (i := 1) (N := some 13) (v := ?_) (a' := ?_) #[true, true, true, false, true, false, false, false, false, false] rfl rfl (take_ofW HT_.out HW_.out (by kernel_rfl)) (fun _ _ _ h => h) (Or.inl ⟨by rfl, ?_⟩) hHeld ?_ ?_
    rotate_left
    ·rintro w' ⟨s0, s1⟩
     go_simp
     with_reducible rfl
    rotate_left
    ·simp only [Act.put, List.setIfInBounds_toArray, List.set_cons_zero, List.set_cons_succ, i64_w, i32_w]
     rfl
    refine take_ (i := 3) (N := some 15) (v := ?_) (a' := ?_) #[true, true, true, true, true, false, false, false, false, false] rfl rfl (take_ofW HT_.out HW_.out (by kernel_rfl)) (fun _ _ _ h => h) (Or.inl ⟨by rfl, ?_⟩) hHeld ?_ ?_
    rotate_left
    ·rintro w' ⟨s0, s1⟩
     go_simp
     with_reducible rfl
    rotate_left
    ·simp only [Act.put, List.setIfInBounds_toArray, List.set_cons_zero, List.set_cons_succ, i64_w, i32_w]
     rfl
    refine take_ (i := 5) (N := some 17) (v := ?_) (a' := ?_) #[true, true, true, true, true, true, false, false, false, false] rfl rfl (take_ofW HT_.out HW_.out (by kernel_rfl)) (fun _ _ _ h => h) (Or.inl ⟨by rfl, ?_⟩) hHeld ?_ ?_
    rotate_left
    ·rintro w' ⟨s0, s1⟩
     go_simp
     with_reducible rfl
    rotate_left
    ·simp only [Act.put, List.setIfInBounds_toArray, List.set_cons_zero, List.set_cons_succ, i64_w, i32_w]
     rfl
    refine pure_ (i := 6) (N := some 18) (v := ?_) (a' := ?_) #[true, true, true, true, true, true, true, false, false, false] rfl rfl (any_of HT_.out (by kernel_rfl)) (fun _ _ _ h => h) (Or.inl ⟨by rfl, ?_⟩) ?_ ?_
    rotate_left
    ·intro w'
     go_simp
     with_reducible rfl
    rotate_left
    ·simp only [Act.put, List.setIfInBounds_toArray, List.set_cons_zero, List.set_cons_succ, i64_w, i32_w]
     rfl
    refine one_ (i := 7) (N := some 19) #[true, true, true, true, true, true, true, true, false, false] rfl rfl (one_of HT_.out (by kernel_rfl)) (by decide) (fun K hK => ?_)
    refine goes_ Tryd.func99 (by kernel_rfl) rfl #[.int .u64 (IntKind.u64.wrap (a1_1 - a1_0))] (by rfl) rfl rfl aV ?_
    with_reducible refine (spec_split.calls k (IntKind.u64.wrap (a1_1 - a1_0)) t190 _ A6.out).mono ?_
    rintro e w' ⟨rfl, ⟨nd, rfl⟩⟩
    refine ⟨_, rfl, ?_⟩
    refine hK.out _ _ ⟨(blk_cell BK189.out 0).trans rfl, (blk_cell BK189.out 1).trans rfl⟩ (fun hHeld => ?_)
    clear hK K
    refine norm_ (a' := ?_) ?_ ?_
    rotate_left
    ·show Act.put _ (some 19) _ = _
     simp only [Act.put, List.setIfInBounds_toArray, List.set_cons_zero, List.set_cons_succ, i64_w, i32_w]
     rfl
    refine pure_ (i := 8) (N := some 20) (v := ?_) (a' := ?_) #[true, true, true, true, true, true, true, true, true, false] rfl rfl (any_of HT_.out (by kernel_rfl)) (fun _ _ _ h => h) (Or.inl ⟨by rfl, ?_⟩) ?_ ?_
    rotate_left
    ·intro w'
     go_simp
     with_reducible rfl
    rotate_left
    ·simp only [Act.put, List.setIfInBounds_toArray, List.set_cons_zero, List.set_cons_succ, i64_w, i32_w]
     rfl
    refine pure_ (i := 9) (N := some 5) (v := ?_) (a' := ?_) #[true, true, true, true, true, true, true, true, true, true] rfl rfl (any_of HT_.out (by kernel_rfl)) (fun _ _ _ h => h) (Or.inl ⟨by rfl, ?_⟩) ?_ ?_
    rotate_left
    ·intro w'
     go_simp
     with_reducible rfl
    rotate_left
    ·simp only [Act.put, List.setIfInBounds_toArray, List.set_cons_zero, List.set_cons_succ, i64_w, i32_w]
     rfl
    refine done_ (done_of HT_.out (by kernel_rfl)) ?_
    try go_wp2
    (try (rw [drewN_self w24]; generalize hq_ : World.drewN w24 _ = w24; have n0_ : Aside0 (w24.heap[gb189]? = some (.cells #[.int .u64 a1_0, .int .u64 a1_1] 57 (0, 0))) := ⟨by rw [← hq_]; exact (kB BK189.out)⟩; have n1_ : Aside0 (Below w.heap.size w w24) := ⟨by rw [← hq_]; exact bB⟩; clear BK189 HB hq_; have BK189 := n0_; have HB := n1_; clear n0_ n1_))
    have n0_ := Aside0.mk (blk_drew BK189.out)
    have n1_ := Aside0.mk (below_drew1 HB.out)
    clear BK189
    clear HB
    have BK189 := n0_
    have HB := n1_
    clear n0_ n1_
    refine start_ (n := 13) (S := fun w' => w'.cell? ⟨gb189, 0, none⟩ = some (.int .u64 a1_0) ∧ w'.cell? ⟨gb189, 1, none⟩ = some (.int .u64 a1_1)) (ds := []) #[false, false, false, false, false, false, false, false, false, false, false, false, false] (by kernel_rfl) rfl rfl ⟨(blk_cell BK189.out 0).trans rfl, (blk_cell BK189.out 1).trans rfl⟩ (fun hHeld => ?_); refine with_tabW spec_pathIn.tab6 spec_pathIn.bits6 (fun HT_ HW_ => ?_)
    generalize w24.drew = w25 at BK189 HB hHeld ⊢
    refine pure_ (i := 0) (N := some 36) (v := ?_) (a' := ?_) #[true, false, false, false, false, false, false, false, false, false, false, false, false] rfl rfl (any_of HT_.out (by kernel_rfl)) (fun _ _ _ h => h) (Or.inl ⟨by rfl, ?_⟩) ?_ ?_
    rotate_left
    ·intro w'
     go_simp
     with_reducible rfl
    rotate_left
    ·simp only [Act.put, List.setIfInBounds_toArray, List.set_cons_zero, List.set_cons_succ, i64_w, i32_w]
     rfl
    refine pure_ (i := 1) (N := some 37) (v := ?_) (a' := ?_) #[true, true, false, false, false, false, false, false, false, false, false, false, false] rfl rfl (any_of HT_.out (by kernel_rfl)) (fun _ _ _ h => h) (Or.inl ⟨by rfl, ?_⟩) ?_ ?_
    rotate_left
    ·intro w'
     go_simp
     with_reducible rfl
    rotate_left
    ·simp only [Act.put, List.setIfInBounds_toArray, List.set_cons_zero, List.set_cons_succ, i64_w, i32_w]
     rfl
    refine pure_ (i := 2) (N := some 38) (v := ?_) (a' := ?_) #[true, true, true, false, false, false, false, false, false, false, false, false, false] rfl rfl (any_of HT_.out (by kernel_rfl)) (fun _ _ _ h => h) (Or.inl ⟨by rfl, ?_⟩) ?_ ?_
    rotate_left
    ·intro w'
     go_simp
     with_reducible rfl
    rotate_left
    ·simp only [Act.put, List.setIfInBounds_toArray, List.set_cons_zero, List.set_cons_succ, i64_w, i32_w]
     rfl
    refine pure_ (i := 6) (N := some 42) (v := ?_) (a' := ?_) #[true, true, true, false, false, false, true, false, false, false, false, false, false] rfl rfl (any_of HT_.out (by kernel_rfl)) (fun _ _ _ h => h) (Or.inl ⟨by rfl, ?_⟩) ?_ ?_
    rotate_left
    ·intro w'
     go_simp
     with_reducible rfl
    rotate_left
    ·simp only [Act.put, List.setIfInBounds_toArray, List.set_cons_zero, List.set_cons_succ, i64_w, i32_w]
     rfl
    refine pure_ (i := 8) (N := some 44) (v := ?_) (a' := ?_) #[true, true, true, false, false, false, true, false, true, false, false, false, false] rfl rfl (any_of HT_.out (by kernel_rfl)) (fun _ _ _ h => h) (Or.inl ⟨by rfl, ?_⟩) ?_ ?_
    rotate_left
    ·intro w'
     go_simp
     with_reducible rfl
    rotate_left
    ·simp only [Act.put, List.setIfInBounds_toArray, List.set_cons_zero, List.set_cons_succ, i64_w, i32_w]
     rfl
    refine take_ (i := 3) (N := some 39) (v := ?_) (a' := ?_) #[true, true, true, true, false, false, true, false, true, false, false, false, false] rfl rfl (take_ofW HT_.out HW_.out (by kernel_rfl)) (fun _ _ _ h => h) (Or.inl ⟨by rfl, ?_⟩) hHeld ?_ ?_
    rotate_left
    ·rintro w' ⟨s0, s1⟩
     go_simp
     with_reducible rfl
    rotate_left
    ·simp only [Act.put, List.setIfInBounds_toArray, List.set_cons_zero, List.set_cons_succ, i64_w, i32_w]
     rfl
    refine pure_ (i := 4) (N := some 40) (v := ?_) (a' := ?_) #[true, true, true, true, true, false, true, false, true, false, false, false, false] rfl rfl (any_of HT_.out (by kernel_rfl)) (fun _ _ _ h => h) (Or.inl ⟨by rfl, ?_⟩) ?_ ?_
    rotate_left
    ·intro w'
     go_simp
     with_reducible rfl
    rotate_left
    ·simp only [Act.put, List.setIfInBounds_toArray, List.set_cons_zero, List.set_cons_succ, i64_w, i32_w]
     rfl
    refine take_ (i := 7) (N := some 43) (v := ?_) (a' := ?_) #[true, true, true, true, true, false, true, true, true, false, false, false, false] rfl rfl (take_ofW HT_.out HW_.out (by kernel_rfl)) (fun _ _ _ h => h) (Or.inl ⟨by rfl, ?_⟩) hHeld ?_ ?_
    rotate_left
    ·rintro w' ⟨s0, s1⟩
     go_simp
     with_reducible rfl
    rotate_left
    ·simp only [Act.put, List.setIfInBounds_toArray, List.set_cons_zero, List.set_cons_succ, i64_w, i32_w]
     rfl
    refine pure_ (i := 9) (N := some 45) (v := ?_) (a' := ?_) #[true, true, true, true, true, false, true, true, true, true, false, false, false] rfl rfl (any_of HT_.out (by kernel_rfl)) (fun _ _ _ h => h) (Or.inl ⟨by rfl, ?_⟩) ?_ ?_
    rotate_left
    ·intro w'
     go_simp
     with_reducible rfl
    rotate_left
    ·simp only [Act.put, List.setIfInBounds_toArray, List.set_cons_zero, List.set_cons_succ, i64_w, i32_w]
     rfl
    refine join_ (σ := Value × Value) 2 #[true, true, true, true, true, true, true, true, true, true, true, false, false] (fun s_ => [(41, s_.1), (46, s_.2)]) (fun s_ w' => (w'.cell? ⟨gb189, 0, none⟩ = some (.int .u64 a1_0) ∧ w'.cell? ⟨gb189, 1, none⟩ = some (.int .u64 a1_1)) ∧ (Kd.R k57 57 w' w.heap.size (fun k_ => some k_ ≠ (s_.2 : Value).ownBlock ∧ k_ ≠ gb189) s_.1 t200) ∧ (Kd.R k57 57 w' w.heap.size (fun k_ => some k_ ≠ (s_.1 : Value).ownBlock ∧ k_ ≠ gb189) s_.2 y203) ∧ (w'.heap[gb189]? = some (.cells #[.int .u64 a1_0, .int .u64 a1_1] 57 (0, 0))) ∧ (Below w.heap.size w w')) ?_ ?_
    rotate_left
    ·intro hCont
     refine two_ (i := 5) (j := 10) (Ni := some 41) (Nj := some 46) #[true, true, true, true, true, true, true, true, true, true, false, false, false] #[true, true, true, true, true, false, true, true, true, true, true, false, false] rfl rfl rfl rfl (two_of HT_.out (by kernel_rfl)) (by decide) (by decide) (fun K hK => ?_) (fun K hK => ?_)
     ·skip
      refine goes_ Tryd.func101 (by kernel_rfl) rfl #[.int .u64 a0, .agg #[.int .u64 (IntKind.u64.wrap (a1_0 + t190)), .int .u64 a1_1]] (by rfl) rfl rfl aV ?_
      with_reducible refine (ih k (by omega) a0 (IntKind.u64.wrap (a1_0 + t190)) a1_1 t200 _ A20.out).mono ?_
      rintro e w26 ⟨v201, rfl, ho0, hb⟩
      refine ⟨_, rfl, ?_⟩
      have n0_ := Aside0.mk (Kd.R_lower (Kd.R_newB ho0 (g := gb189) (o := .cells #[.int .u64 a1_0, .int .u64 a1_1] 57 (0, 0)) (kB BK189.out)) (below_size bB))
      have n1_ := Aside0.mk (blk_below (g := gb189) (o := .cells #[.int .u64 a1_0, .int .u64 a1_1] 57 (0, 0)) (kB BK189.out) hb)
      have n2_ := Aside0.mk (below_step bB hb)
      clear BK189
      clear HB
      have HO202 := n0_
      have BK189 := n1_
      have HB := n2_
      clear n0_ n1_ n2_
      (try clear hb)
      (try clear hb2)
      (try clear hk)
      (try clear hi)
      (try clear ho0)
      refine hK.out _ _ ⟨(blk_cell BK189.out 0).trans rfl, (blk_cell BK189.out 1).trans rfl⟩ (fun hHeld => ?_)
      clear hK K
      refine norm_ (a' := ?_) ?_ ?_
      rotate_left
      ·show Act.put _ (some 41) _ = _
       simp only [Act.put, List.setIfInBounds_toArray, List.set_cons_zero, List.set_cons_succ, i64_w, i32_w]
       rfl
      refine one_ (i := 10) (N := some 46) #[true, true, true, true, true, true, true, true, true, true, true, false, false] rfl rfl (one_of HT_.out (by kernel_rfl)) (by decide) (fun K hK => ?_)
      refine Kd.R_lit_step k57 _ 57 ?hg (N := 46) ?hd (xs := ([(⟨a1_0, IntKind.u64.wrap (a1_0 + t190)⟩ : S57)] : List (S57))) (inner := [.int .u64 a1_0, .int .u64 (IntKind.u64.wrap (a1_0 + t190))]) (ok := fun _ => True) (okp := fun _ => True) ?hr ?hp (fun _ hk => hk) trivial (Below.refl _ _) (Nat.le_refl _) (by simp) ?_; (case hd => rfl); (case hg => rfl); (case hr => first | (go_simp; done) | (go_simp; rfl)); (case hp => exact (Reps.c2 (show Kd.M k57 _ _ _ (⟨a1_0, IntKind.u64.wrap (a1_0 + t190)⟩ : S57) [.int .u64 a1_0, .int .u64 (IntKind.u64.wrap (a1_0 + t190))] from (k57_mkM _ _ _ (⟨a1_0, IntKind.u64.wrap (a1_0 + t190)⟩ : S57) )) (Reps.none _ _)))
      intro v204 w27 ho28 hb hg_ hnew_
      clear hg_ hnew_
      (first | rw [← Ny203.out] at ho28 | (simp only [Int.reduceToNat] at ho28; rw [← Ny203.out] at ho28))
      have n0_ := Aside0.mk (Kd.R_elder' (kR HO202.out) (Kd.R_base ho28) hb)
      have n1_ := Aside0.mk (Kd.R_lower (Kd.R_newB (Kd.R_new' ho28 (Kd.R_lt (kR HO202.out))) (g := gb189) (o := .cells #[.int .u64 a1_0, .int .u64 a1_1] 57 (0, 0)) (kB BK189.out)) (below_size bB))
      have n2_ := Aside0.mk (blk_below (g := gb189) (o := .cells #[.int .u64 a1_0, .int .u64 a1_1] 57 (0, 0)) (kB BK189.out) hb)
      have n3_ := Aside0.mk (below_step bB hb)
      clear HO202
      clear BK189
      clear HB
      have HO202 := n0_
      have HO205 := n1_
      have BK189 := n2_
      have HB := n3_
      clear n0_ n1_ n2_ n3_
      clear hb ho28
      refine hK.out _ _ ⟨(blk_cell BK189.out 0).trans rfl, (blk_cell BK189.out 1).trans rfl⟩ (fun hHeld => ?_)
      clear hK K
      refine norm_ (a' := ?_) ?_ ?_
      rotate_left
      ·show Act.put _ (some 46) _ = _
       simp only [Act.put, List.setIfInBounds_toArray, List.set_cons_zero, List.set_cons_succ, i64_w, i32_w]
       rfl
      exact norm_ (by simp only [putAll, Act.put, List.setIfInBounds_toArray, List.set_cons_zero, List.set_cons_succ]) (hCont (v201, v204) _ ⟨hHeld, (by (with_reducible repeat (first | apply Kd.R_alloc | apply Kd.R_drewN | apply Kd.R_drew)); exact Kd.R_mono HO202.out (fun _ hk => ⟨hk.2, hk.1.2⟩)), (by (with_reducible repeat (first | apply Kd.R_alloc | apply Kd.R_drewN | apply Kd.R_drew)); exact Kd.R_mono HO205.out (fun _ hk => ⟨hk.1.2, hk.2⟩)), (kB BK189.out), bB⟩)
     ·skip
      refine Kd.R_lit_step k57 _ 57 ?hg (N := 46) ?hd (xs := ([(⟨a1_0, IntKind.u64.wrap (a1_0 + t190)⟩ : S57)] : List (S57))) (inner := [.int .u64 a1_0, .int .u64 (IntKind.u64.wrap (a1_0 + t190))]) (ok := fun _ => True) (okp := fun _ => True) ?hr ?hp (fun _ hk => hk) trivial (Below.refl _ _) (Nat.le_refl _) (by simp) ?_; (case hd => rfl); (case hg => rfl); (case hr => first | (go_simp; done) | (go_simp; rfl)); (case hp => exact (Reps.c2 (show Kd.M k57 _ _ _ (⟨a1_0, IntKind.u64.wrap (a1_0 + t190)⟩ : S57) [.int .u64 a1_0, .int .u64 (IntKind.u64.wrap (a1_0 + t190))] from (k57_mkM _ _ _ (⟨a1_0, IntKind.u64.wrap (a1_0 + t190)⟩ : S57) )) (Reps.none _ _)))
      intro v204 w26 ho27 hb hg_ hnew_
      clear hg_ hnew_
      (first | rw [← Ny203.out] at ho27 | (simp only [Int.reduceToNat] at ho27; rw [← Ny203.out] at ho27))
      have n0_ := Aside0.mk (Kd.R_lower (Kd.R_newB ho27 (g := gb189) (o := .cells #[.int .u64 a1_0, .int .u64 a1_1] 57 (0, 0)) (kB BK189.out)) (below_size bB))
      have n1_ := Aside0.mk (blk_below (g := gb189) (o := .cells #[.int .u64 a1_0, .int .u64 a1_1] 57 (0, 0)) (kB BK189.out) hb)
      have n2_ := Aside0.mk (below_step bB hb)
      clear BK189
      clear HB
      have HO205 := n0_
      have BK189 := n1_
      have HB := n2_
      clear n0_ n1_ n2_
      clear hb ho27
      refine hK.out _ _ ⟨(blk_cell BK189.out 0).trans rfl, (blk_cell BK189.out 1).trans rfl⟩ (fun hHeld => ?_)
      clear hK K
      refine norm_ (a' := ?_) ?_ ?_
      rotate_left
      ·show Act.put _ (some 46) _ = _
       simp only [Act.put, List.setIfInBounds_toArray, List.set_cons_zero, List.set_cons_succ, i64_w, i32_w]
       rfl
      refine one_ (i := 5) (N := some 41) #[true, true, true, true, true, true, true, true, true, true, true, false, false] rfl rfl (one_of HT_.out (by kernel_rfl)) (by decide) (fun K hK => ?_)
      refine goes_ Tryd.func101 (by kernel_rfl) rfl #[.int .u64 a0, .agg #[.int .u64 (IntKind.u64.wrap (a1_0 + t190)), .int .u64 a1_1]] (by rfl) rfl rfl aV ?_
      with_reducible refine (ih k (by omega) a0 (IntKind.u64.wrap (a1_0 + t190)) a1_1 t200 _ A20.out).mono ?_
      rintro e w28 ⟨v201, rfl, ho0, hb⟩
      refine ⟨_, rfl, ?_⟩
      have n0_ := Aside0.mk (Kd.R_elder' (kR HO205.out) (Kd.R_base ho0) hb)
      have n1_ := Aside0.mk (Kd.R_lower (Kd.R_newB (Kd.R_new' ho0 (Kd.R_lt (kR HO205.out))) (g := gb189) (o := .cells #[.int .u64 a1_0, .int .u64 a1_1] 57 (0, 0)) (kB BK189.out)) (below_size bB))
      have n2_ := Aside0.mk (blk_below (g := gb189) (o := .cells #[.int .u64 a1_0, .int .u64 a1_1] 57 (0, 0)) (kB BK189.out) hb)
      have n3_ := Aside0.mk (below_step bB hb)
      clear HO205
      clear BK189
      clear HB
      have HO205 := n0_
      have HO202 := n1_
      have BK189 := n2_
      have HB := n3_
      clear n0_ n1_ n2_ n3_
      (try clear hb)
      (try clear hb2)
      (try clear hk)
      (try clear hi)
      (try clear ho0)
      refine hK.out _ _ ⟨(blk_cell BK189.out 0).trans rfl, (blk_cell BK189.out 1).trans rfl⟩ (fun hHeld => ?_)
      clear hK K
      refine norm_ (a' := ?_) ?_ ?_
      rotate_left
      ·show Act.put _ (some 41) _ = _
       simp only [Act.put, List.setIfInBounds_toArray, List.set_cons_zero, List.set_cons_succ, i64_w, i32_w]
       rfl
      exact norm_ (by simp only [putAll, Act.put, List.setIfInBounds_toArray, List.set_cons_zero, List.set_cons_succ]) (hCont (v201, v204) _ ⟨hHeld, (by (with_reducible repeat (first | apply Kd.R_alloc | apply Kd.R_drewN | apply Kd.R_drew)); exact Kd.R_mono HO202.out (fun _ hk => ⟨hk.1.2, hk.2⟩)), (by (with_reducible repeat (first | apply Kd.R_alloc | apply Kd.R_drewN | apply Kd.R_drew)); exact Kd.R_mono HO205.out (fun _ hk => ⟨hk.2, hk.1.2⟩)), (kB BK189.out), bB⟩)
    rintro ⟨v201, v204⟩ w29 ⟨hS_, h0_, h1_, h2_, h3_⟩
    have n0_ : Aside0 (Kd.R k57 57 w29 w.heap.size (fun k_ => some k_ ≠ (v204 : Value).ownBlock ∧ k_ ≠ gb189) v201 t200) := ⟨h0_⟩
    have n1_ : Aside0 (Kd.R k57 57 w29 w.heap.size (fun k_ => some k_ ≠ (v201 : Value).ownBlock ∧ k_ ≠ gb189) v204 y203) := ⟨h1_⟩
    have n2_ : Aside0 (w29.heap[gb189]? = some (.cells #[.int .u64 a1_0, .int .u64 a1_1] 57 (0, 0))) := ⟨h2_⟩
    have n3_ : Aside0 (Below w.heap.size w w29) := ⟨h3_⟩
    clear BK189
    clear HB
    clear h0_ h1_ h2_ h3_
    have HO202 := n0_
    have HO205 := n1_
    have BK189 := n2_
    have HB := n3_
    clear n0_ n1_ n2_ n3_
    have hHeld : w29.cell? ⟨gb189, 0, none⟩ = some (.int .u64 a1_0) ∧ w29.cell? ⟨gb189, 1, none⟩ = some (.int .u64 a1_1) := hS_
    obtain ⟨Ao31, co31, eo31⟩ := Kd.R_slice HO205.out
    (first | subst eo31 | (injection eo31 with f1_ f2_ f3_; have f4_ := f1_.symm; have f5_ := f3_.symm; clear f1_ f2_ f3_; subst f4_; subst f5_))
    refine norm_ (a' := ?_) ?_ ?_
    rotate_left
    ·simp only [putAll, Act.put, List.setIfInBounds_toArray, List.set_cons_zero, List.set_cons_succ]
     rfl
    refine one_ (i := 11) (N := some 47) #[true, true, true, true, true, true, true, true, true, true, true, true, false] rfl rfl (one_of HT_.out (by kernel_rfl)) (by decide) (fun K hK => ?_)
    refine Kd.R_append_rows_step k57 (w0 := w) w.heap.size (by rfl) (.tmp 41) (.tmp 46) 93 57 (.agg #[(.int .u64 0), (.int .u64 0)]) 16 rfl Tryd.underlying93 info57 rfl (by decide) (by omega) v201 t200 y203 _ _ _ (fun k_ => some k_ ≠ (.slice Ao31 y203.length co31 : Value).ownBlock ∧ k_ ≠ gb189) (fun _ => False) rfl rfl ?aO ?aR (fun _ _ h => h) (fun _ h => h.elim) ?aF ?aB ?aS ?aL ?_
    (case aR => repeat (first | exact (Kd.R_reads' HO205.out).2.2 | (with_reducible refine Kd.C_alloc ?_ _) | (with_reducible refine Kd.C_drewN ?_ _) | (with_reducible refine Kd.C_drew ?_)))
    (case aB => exact bB)
    (case aF => exact (fun k_ hk => ⟨Kd.fresh' (Kd.R_lt (kR HO205.out)) k_ hk, Kd.freshB (g := gb189) (o := .cells #[.int .u64 a1_0, .int .u64 a1_1] 57 (0, 0)) (kB BK189.out) k_ hk⟩))
    (case aO => exact (kR HO202.out))
    (case aS => exact (below_size bB))
    (case aL => have := LMc21.out; omega)
    intro v207 w30 ho hb hg hat
    rw [← Ny206.out] at ho
    have n0_ := Aside0.mk (blk_grown (g := gb189) (o := .cells #[.int .u64 a1_0, .int .u64 a1_1] 57 (0, 0)) (kB BK189.out) hg (Kd.R_away HO202.out (fun _ hk => hk.2)))
    have n1_ := Aside0.mk (Kd.R_after (ok := (fun k_ => k_ ≠ gb189)) (by (with_reducible repeat (first | apply Kd.R_alloc | apply Kd.R_drewN | apply Kd.R_drew)); exact Kd.R_mono HO205.out (fun _ hk => ⟨hk.2, hk.1⟩)) hg hat)
    have n2_ := Aside0.mk (hb)
    have n3_ := Aside0.mk (ho)
    clear BK189
    clear HO205
    clear HB
    clear HO202
    have BK189 := n0_
    have HO205 := n1_
    have HB := n2_
    have HO208 := n3_
    clear n0_ n1_ n2_ n3_
    clear ho hb hg hat
    refine hK.out _ _ ⟨(blk_cell BK189.out 0).trans rfl, (blk_cell BK189.out 1).trans rfl⟩ (fun hHeld => ?_)
    clear hK K
    refine norm_ (a' := ?_) ?_ ?_
    rotate_left
    ·show Act.put _ (some 47) _ = _
     simp only [Act.put, List.setIfInBounds_toArray, List.set_cons_zero, List.set_cons_succ, i64_w, i32_w]
     rfl
    refine pure_ (i := 12) (N := some 4) (v := ?_) (a' := ?_) #[true, true, true, true, true, true, true, true, true, true, true, true, true] rfl rfl (any_of HT_.out (by kernel_rfl)) (fun _ _ _ h => h) (Or.inl ⟨by rfl, ?_⟩) ?_ ?_
    rotate_left
    ·intro w'
     go_simp
     with_reducible rfl
    rotate_left
    ·simp only [Act.put, List.setIfInBounds_toArray, List.set_cons_zero, List.set_cons_succ, i64_w, i32_w]
     rfl
    refine done_ (done_of HT_.out (by kernel_rfl)) ?_
    try go_wp2
    go_ret
    exact ⟨_, by first | rfl | (simp [errW_none, errW_some] <;> rfl) | (simp [*, errW_none, errW_some] <;> rfl), by (with_reducible repeat (first | apply Kd.R_alloc | apply Kd.R_drewN | apply Kd.R_drew)); exact Kd.R_mono HO208.out (fun _ hk => trivial), bB⟩
   ·rw [if_neg c21] at H
    exact absurd H (by simp)


/-! ### spec_PathParts: function 68 -/
def spec_PathParts.f (k : Nat) (a0 : Int) (a1 : Int) : Option ((List (S57))) := (spec_pathIn.f k a0 0 a1).bind fun t209 => (some t209)
theorem spec_PathParts.mono : ∀ a0 a1 k, LeO (spec_PathParts.f k a0 a1) (spec_PathParts.f (k + 1) a0 a1) := by
 intro a0 a1 k
 unfold spec_PathParts.f
 repeat' first
   | (with_reducible exact spec_pathIn.mono _ _ _ _)
   | (with_reducible exact LeO.refl _)
   | (with_reducible exact LeO.none _)
   | (with_reducible refine LeO.ite ?_ ?_)
   | (with_reducible refine LeO.bind ?_ (fun _ => ?_))
   | exact spec_pathIn.mono _ _ _ _
   | exact LeO.none _
   | refine LeO.ite ?_ ?_
   | refine LeO.bind ?_ (fun _ => ?_)
set_option maxHeartbeats 8000000 in
set_option maxRecDepth 100000 in
theorem spec_PathParts.calls (k : Nat) (a0 : Int) (a1 : Int) (r : List (S57)) (w : World) (h : spec_PathParts.f k a0 a1 = some r) :
  Calls Tryd.prog 68 #[.int .u64 a0, .int .u64 a1] w fun e w' => ∃ v0_ : Value, e = .returned (v0_) ∧ Kd.R k57 57 w' w.heap.size (fun _ => True) v0_ r ∧ Below w.heap.size w w' := by
 have hu57 := Tryd.underlying57
 have HB := Aside0.mk (Below.refl w.heap.size w)
 have H : ((spec_pathIn.f k a0 0 a1).bind fun t209 => (some t209)) = some r := h
 clear h
 replace H := Option.bind_eq_some_iff.mp H
 obtain ⟨t209, A30, H⟩ := H
 replace H : (some t209) = some r := H
 have A3 := Aside0.mk A30
 clear A30
 obtain rfl := Option.some.inj H
 go_enter Tryd.func68, Tryd.ntmps68
 go_wp2_with (first | ((with_reducible refine gate_callee (f := 101) rfl ?_); refine goesL_ (some 8) rfl rfl Tryd.func101 (by kernel_rfl) rfl #[.int .u64 a0, .agg #[.int .u64 0, .int .u64 a1]] rfl aV ?_; (with_reducible refine (spec_pathIn.calls k a0 0 a1 t209 _ A3.out).mono ?_); rintro e w4 ⟨v210, rfl, ho0, hb⟩; refine ⟨_, rfl, ?_⟩; have n0_ := Aside0.mk (Kd.R_lower ho0 (below_size bB)); have n1_ := Aside0.mk (below_step bB hb); clear HB; have HO211 := n0_; have HB := n1_; clear n0_ n1_; (try clear hb); (try clear hb2); (try clear hk); (try clear hi); (try clear ho0)))
 go_ret
 exact ⟨_, by first | rfl | (simp [errW_none, errW_some] <;> rfl) | (simp [*, errW_none, errW_some] <;> rfl), by (with_reducible repeat (first | apply Kd.R_alloc | apply Kd.R_drewN | apply Kd.R_drew)); exact HO211.out, bB⟩

end Go.Proofs.YtkmdkmlgahfcpaaDoor.M

