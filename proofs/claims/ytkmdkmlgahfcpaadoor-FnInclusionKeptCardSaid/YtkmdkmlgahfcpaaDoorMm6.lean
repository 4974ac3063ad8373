import Derived.Test.YtkmdkmlgahfcpaaDoorSr
import Derived.Test.YtkmdkmlgahfcpaaDoorMm1
import Derived.Test.YtkmdkmlgahfcpaaDoorMm5
import Derived.Test.YtkmdkmlgahfcpaaDoorMm4
import Derived.Test.YtkmdkmlgahfcpaaDoorMm3
namespace Go.Proofs.YtkmdkmlgahfcpaaDoor.M
open Go.RowKit Go.Proofs.YtkmdkmlgahfcpaaDoorW.PrintWords Go.Proofs.YtkmdkmlgahfcpaaDoorW.PrintLast Go.Proofs.YtkmdkmlgahfcpaaDoorW.PrintMore
attribute [local go_sem] max2_int min2_int max_two min_two max_three min_three max_four min_four
set_option linter.unusedVariables false
set_option linter.unusedSimpArgs false
def spec_ProperRange.f (k : Nat) (a0_0 : Int) (a0_1 : Int) (l0_2 : List (List Int)) : Option (Bool) := if a0_0 ≤ a0_1 then ((spec_Nodes.f k a0_0 a0_1).bind fun t140 => (some ((l0_2.length : Int) == (t140.length : Int)))) else (some false)
def spec_ProperRange.T1 : Bool × List (List Nat × List Nat) := (true, [([], []), ([0], [0]), ([], []), ([2], [2]), ([1, 3], [1, 3]), ([4], [4]), ([5], [5]), ([6, 5], [5, 6]), ([7, 5], [5, 7]), ([5], [5]), ([9, 5], [5, 9]), ([5], [5]), ([11, 5], [5, 11]), ([10, 12, 5], [5, 10, 12]), ([13, 5, 5], [5, 13]), ([14, 5], [5, 14]), ([8, 15, 5], [5, 8, 15]), ([5, 16], [5, 16]), ([17, 14, 0, 1, 2, 3, 4, 5, 6, 7, 8, 9, 10, 11, 12, 13, 14, 15, 16, 17], [17])])
def spec_ProperRange.B1 : List Nat := [0, 1, 0, 4, 15, 31, 63, 127, 255, 63, 575, 63, 2111, 7743, 15935, 32319, 65535, 131071, 262143]
theorem spec_ProperRange.tab1 : rtab .any (opsOf Tryd.f41 1) = spec_ProperRange.T1 := by kernel_rfl
theorem spec_ProperRange.bits1 : waitsOk spec_ProperRange.T1.2 spec_ProperRange.B1 = true := by kernel_rfl
set_option maxHeartbeats 8000000 in
set_option maxRecDepth 100000 in
theorem spec_ProperRange.calls (k : Nat) (a0_0 : Int) (a0_1 : Int) (A0_2 : Option Addr) (c0_2 : Nat) (l0_2 : List (List Int)) (r : Bool) (w : World) (hr0_2 : Kd.C (Kd.slice 5 (Kd.int .u8)) w A0_2 l0_2.length l0_2) (hc0_2 : l0_2.length ≤ c0_2) (h : spec_ProperRange.f k a0_0 a0_1 l0_2 = some r) :
  Calls Tryd.prog 41 #[.agg #[.int .u64 a0_0, .int .u64 a0_1, .slice A0_2 l0_2.length c0_2]] w fun e w' => e = .returned (.bool r) ∧ Below w.heap.size w w' := by
 have hu39 := Tryd.underlying39
 have hu57 := Tryd.underlying57
 have HR0_2 := zM hr0_2
 have HC0_2 := zM hc0_2
 clear hr0_2 hc0_2
 have HB := zM (Below.refl w.heap.size w)
 have H : (if a0_0 ≤ a0_1 then ((spec_Nodes.f k a0_0 a0_1).bind fun t140 => (some ((l0_2.length : Int) == (t140.length : Int)))) else (some false)) = some r := h
 clear h
 by_cases c2 : a0_0 ≤ a0_1
 ·rw [if_pos c2] at H
  have c2b0 : decide (a0_0 ≤ a0_1) = true := decide_eq_true c2
  clear c2
  replace H := Option.bind_eq_some_iff.mp H
  obtain ⟨t140, A30, H⟩ := H
  (try dsimp only at H)
  have A3 := zM A30
  clear A30
  obtain rfl := Option.some.inj H
  go_enter Tryd.func41, Tryd.ntmps41
  try go_wp2_with (first | ((with_reducible refine gate_dst (N := 1) rfl ?_); (try (refine gate_guard (by rfl) ?_; dsimp only)); refine bx 1 #[.int .u64 a0_0, .int .u64 a0_1, .slice A0_2 l0_2.length c0_2] 39 ?_; intro gb139 hg w4 hbox hb; have BK139 := zM (hbox); have GW139 := zM ((gB hg : w.heap.size ≤ gb139)); have GE139 := zM ((gB hg : w.heap.size ≤ gb139)); replace HB := zM (below_step bB hb); clear hb hbox hg))
  replace BK139 := zM (blk_drew BK139.out)
  replace HB := zM (below_drew1 HB.out)
  refine start_ (n := 19) (S := fun w' => C3 w' gb139 (.int .u64 a0_0) (.int .u64 a0_1) (.slice A0_2 l0_2.length c0_2)) (ds := []) #[ff,ff,ff,ff,ff,ff,ff,ff,ff,ff,ff,ff,ff,ff,ff,ff,ff,ff,ff] (by kernel_rfl) rfl rfl (h3 BK139) (fun hHeld => ?_); refine with_tabW spec_ProperRange.tab1 spec_ProperRange.bits1 (fun HT_ HW_ => ?_)
  generalize w4.drew = w5 at BK139 HB hHeld ⊢
  refine pA 0 (some 3) #[tt,ff,ff,ff,ff,ff,ff,ff,ff,ff,ff,ff,ff,ff,ff,ff,ff,ff,ff] HT_ ?_
  refine pA 2 (some 5) #[tt,ff,tt,ff,ff,ff,ff,ff,ff,ff,ff,ff,ff,ff,ff,ff,ff,ff,ff] HT_ ?_
  refine tA 1 (some 4) #[tt,tt,tt,ff,ff,ff,ff,ff,ff,ff,ff,ff,ff,ff,ff,ff,ff,ff,ff] rfl rfl HT_ HW_ hHeld (by rintro w' ⟨s0, s1, s2⟩; go_simp; with_reducible rfl) ?_
  refine tA 3 (some 6) #[tt,tt,tt,tt,ff,ff,ff,ff,ff,ff,ff,ff,ff,ff,ff,ff,ff,ff,ff] rfl rfl HT_ HW_ hHeld (by rintro w' ⟨s0, s1, s2⟩; go_simp; with_reducible rfl) ?_
  refine pA 4 (some 7) #[tt,tt,tt,tt,tt,ff,ff,ff,ff,ff,ff,ff,ff,ff,ff,ff,ff,ff,ff] HT_ ?_
  refine pA 5 (some 8) #[tt,tt,tt,tt,tt,tt,ff,ff,ff,ff,ff,ff,ff,ff,ff,ff,ff,ff,ff] HT_ ?_
  refine pA 6 (some 9) #[tt,tt,tt,tt,tt,tt,tt,ff,ff,ff,ff,ff,ff,ff,ff,ff,ff,ff,ff] HT_ ?_
  refine pA 9 (some 12) #[tt,tt,tt,tt,tt,tt,tt,ff,ff,tt,ff,ff,ff,ff,ff,ff,ff,ff,ff] HT_ ?_
  refine pA 11 (some 14) #[tt,tt,tt,tt,tt,tt,tt,ff,ff,tt,ff,tt,ff,ff,ff,ff,ff,ff,ff] HT_ ?_
  refine tA 7 (some 10) #[tt,tt,tt,tt,tt,tt,tt,tt,ff,tt,ff,tt,ff,ff,ff,ff,ff,ff,ff] rfl rfl HT_ HW_ hHeld (by rintro w' ⟨s0, s1, s2⟩; go_simp; with_reducible rfl) ?_
  refine pA 8 (some 11) #[tt,tt,tt,tt,tt,tt,tt,tt,tt,tt,ff,tt,ff,ff,ff,ff,ff,ff,ff] HT_ ?_
  refine tA 10 (some 13) #[tt,tt,tt,tt,tt,tt,tt,tt,tt,tt,tt,tt,ff,ff,ff,ff,ff,ff,ff] rfl rfl HT_ HW_ hHeld (by rintro w' ⟨s0, s1, s2⟩; go_simp; with_reducible rfl) ?_
  refine tA 12 (some 15) #[tt,tt,tt,tt,tt,tt,tt,tt,tt,tt,tt,tt,tt,ff,ff,ff,ff,ff,ff] rfl rfl HT_ HW_ hHeld (by rintro w' ⟨s0, s1, s2⟩; go_simp; with_reducible rfl) ?_
  refine pA 13 (some 16) #[tt,tt,tt,tt,tt,tt,tt,tt,tt,tt,tt,tt,tt,tt,ff,ff,ff,ff,ff] HT_ ?_
  refine one_ (i := 14) (N := some 17) #[tt,tt,tt,tt,tt,tt,tt,tt,tt,tt,tt,tt,tt,tt,tt,ff,ff,ff,ff] rfl rfl (one_of HT_.out (by kernel_rfl)) (by decide) (fun K hK => ?_)
  refine goes_ Tryd.func63 (by kernel_rfl) rfl #[.agg #[.int .u64 a0_0, .int .u64 a0_1]] (by rfl) rfl rfl aV ?_
  with_reducible refine (spec_Nodes.calls k a0_0 a0_1 t140 _ A3.out).mono ?_
  rintro e w6 ⟨v141, rfl, ho0, hb⟩
  refine ⟨_, rfl, ?_⟩
  have HO142 := zM (Kd.R_lower ho0 (below_size bB))
  replace BK139 := zM (bK BK139 hb)
  replace HB := zM (below_step bB hb)
  obtain ⟨Ao7, co7, eo7⟩ := Kd.R_slice HO142.out
  (first | subst eo7 | (injection eo7 with f1_ f2_ f3_; have f4_ := f1_.symm; have f5_ := f3_.symm; clear f1_ f2_ f3_; subst f4_; subst f5_))
  refine hK.out _ _ (h3 BK139) (fun hHeld => ?_)
  clear hK K
  refine nS ?_
  refine pA 15 (some 18) #[tt,tt,tt,tt,tt,tt,tt,tt,tt,tt,tt,tt,tt,tt,tt,tt,ff,ff,ff] HT_ ?_
  refine pA 16 (some 19) #[tt,tt,tt,tt,tt,tt,tt,tt,tt,tt,tt,tt,tt,tt,tt,tt,tt,ff,ff] HT_ ?_
  refine pA 17 (some 20) #[tt,tt,tt,tt,tt,tt,tt,tt,tt,tt,tt,tt,tt,tt,tt,tt,tt,tt,ff] HT_ ?_
  refine pA 18 (some 2) #[tt,tt,tt,tt,tt,tt,tt,tt,tt,tt,tt,tt,tt,tt,tt,tt,tt,tt,tt] HT_ ?_
  refine done_ (done_of HT_.out (by kernel_rfl)) ?_
  try go_wp2
  go_ret
  exact ⟨by first | rfl | (simp [errW_none, errW_some] <;> rfl) | (simp [*, errW_none, errW_some] <;> rfl), bB⟩
 ·rw [if_neg c2] at H
  have c2b0 : decide (a0_0 ≤ a0_1) = false := decide_eq_false c2
  clear c2
  obtain rfl := Option.some.inj H
  go_enter Tryd.func41, Tryd.ntmps41
  try go_wp2_with (first | ((with_reducible refine gate_dst (N := 1) rfl ?_); (try (refine gate_guard (by rfl) ?_; dsimp only)); refine bx 1 #[.int .u64 a0_0, .int .u64 a0_1, .slice A0_2 l0_2.length c0_2] 39 ?_; intro gb139 hg w8 hbox hb; have BK139 := zM (hbox); have GW139 := zM ((gB hg : w.heap.size ≤ gb139)); have GE139 := zM ((gB hg : w.heap.size ≤ gb139)); replace HB := zM (below_step bB hb); clear hb hbox hg))
  replace BK139 := zM (blk_drew BK139.out)
  replace HB := zM (below_drew1 HB.out)
  refine start_ (n := 19) (S := fun w' => C3 w' gb139 (.int .u64 a0_0) (.int .u64 a0_1) (.slice A0_2 l0_2.length c0_2)) (ds := []) #[ff,ff,ff,ff,ff,ff,ff,ff,ff,ff,ff,ff,ff,ff,ff,ff,ff,ff,ff] (by kernel_rfl) rfl rfl (h3 BK139) (fun hHeld => ?_); refine with_tabW spec_ProperRange.tab1 spec_ProperRange.bits1 (fun HT_ HW_ => ?_)
  generalize w8.drew = w9 at BK139 HB hHeld ⊢
  refine pA 0 (some 3) #[tt,ff,ff,ff,ff,ff,ff,ff,ff,ff,ff,ff,ff,ff,ff,ff,ff,ff,ff] HT_ ?_
  refine pA 2 (some 5) #[tt,ff,tt,ff,ff,ff,ff,ff,ff,ff,ff,ff,ff,ff,ff,ff,ff,ff,ff] HT_ ?_
  refine tA 1 (some 4) #[tt,tt,tt,ff,ff,ff,ff,ff,ff,ff,ff,ff,ff,ff,ff,ff,ff,ff,ff] rfl rfl HT_ HW_ hHeld (by rintro w' ⟨s0, s1, s2⟩; go_simp; with_reducible rfl) ?_
  refine tA 3 (some 6) #[tt,tt,tt,tt,ff,ff,ff,ff,ff,ff,ff,ff,ff,ff,ff,ff,ff,ff,ff] rfl rfl HT_ HW_ hHeld (by rintro w' ⟨s0, s1, s2⟩; go_simp; with_reducible rfl) ?_
  refine pA 4 (some 7) #[tt,tt,tt,tt,tt,ff,ff,ff,ff,ff,ff,ff,ff,ff,ff,ff,ff,ff,ff] HT_ ?_
  refine pA 5 (some 8) #[tt,tt,tt,tt,tt,tt,ff,ff,ff,ff,ff,ff,ff,ff,ff,ff,ff,ff,ff] HT_ ?_
  refine pure_ (i := 6) (N := some 9) (v := undef) (a' := ?_) #[tt,tt,tt,tt,tt,tt,tt,ff,ff,ff,ff,ff,ff,ff,ff,ff,ff,ff,ff] rfl rfl (any_of HT_.out (by kernel_rfl)) (fun _ _ _ h => h) (Or.inr ⟨by rfl, rfl⟩) ?_ ?_
  rotate_left
  ·simp only [Act.put, List.setIfInBounds_toArray, List.set_cons_zero, List.set_cons_succ, i64_w, i32_w]
   rfl
  refine pure_ (i := 7) (N := some 10) (v := undef) (a' := ?_) #[tt,tt,tt,tt,tt,tt,tt,tt,ff,ff,ff,ff,ff,ff,ff,ff,ff,ff,ff] rfl rfl (any_of HT_.out (by kernel_rfl)) (fun _ _ _ h => h) (Or.inr ⟨by rfl, rfl⟩) ?_ ?_
  rotate_left
  ·simp only [Act.put, List.setIfInBounds_toArray, List.set_cons_zero, List.set_cons_succ, i64_w, i32_w]
   rfl
  refine pure_ (i := 8) (N := some 11) (v := undef) (a' := ?_) #[tt,tt,tt,tt,tt,tt,tt,tt,tt,ff,ff,ff,ff,ff,ff,ff,ff,ff,ff] rfl rfl (any_of HT_.out (by kernel_rfl)) (fun _ _ _ h => h) (Or.inr ⟨by rfl, rfl⟩) ?_ ?_
  rotate_left
  ·simp only [Act.put, List.setIfInBounds_toArray, List.set_cons_zero, List.set_cons_succ, i64_w, i32_w]
   rfl
  refine pure_ (i := 9) (N := some 12) (v := undef) (a' := ?_) #[tt,tt,tt,tt,tt,tt,tt,tt,tt,tt,ff,ff,ff,ff,ff,ff,ff,ff,ff] rfl rfl (any_of HT_.out (by kernel_rfl)) (fun _ _ _ h => h) (Or.inr ⟨by rfl, rfl⟩) ?_ ?_
  rotate_left
  ·simp only [Act.put, List.setIfInBounds_toArray, List.set_cons_zero, List.set_cons_succ, i64_w, i32_w]
   rfl
  refine pure_ (i := 10) (N := some 13) (v := undef) (a' := ?_) #[tt,tt,tt,tt,tt,tt,tt,tt,tt,tt,tt,ff,ff,ff,ff,ff,ff,ff,ff] rfl rfl (any_of HT_.out (by kernel_rfl)) (fun _ _ _ h => h) (Or.inr ⟨by rfl, rfl⟩) ?_ ?_
  rotate_left
  ·simp only [Act.put, List.setIfInBounds_toArray, List.set_cons_zero, List.set_cons_succ, i64_w, i32_w]
   rfl
  refine pure_ (i := 11) (N := some 14) (v := undef) (a' := ?_) #[tt,tt,tt,tt,tt,tt,tt,tt,tt,tt,tt,tt,ff,ff,ff,ff,ff,ff,ff] rfl rfl (any_of HT_.out (by kernel_rfl)) (fun _ _ _ h => h) (Or.inr ⟨by rfl, rfl⟩) ?_ ?_
  rotate_left
  ·simp only [Act.put, List.setIfInBounds_toArray, List.set_cons_zero, List.set_cons_succ, i64_w, i32_w]
   rfl
  refine pure_ (i := 12) (N := some 15) (v := undef) (a' := ?_) #[tt,tt,tt,tt,tt,tt,tt,tt,tt,tt,tt,tt,tt,ff,ff,ff,ff,ff,ff] rfl rfl (any_of HT_.out (by kernel_rfl)) (fun _ _ _ h => h) (Or.inr ⟨by rfl, rfl⟩) ?_ ?_
  rotate_left
  ·simp only [Act.put, List.setIfInBounds_toArray, List.set_cons_zero, List.set_cons_succ, i64_w, i32_w]
   rfl
  refine pure_ (i := 13) (N := some 16) (v := undef) (a' := ?_) #[tt,tt,tt,tt,tt,tt,tt,tt,tt,tt,tt,tt,tt,tt,ff,ff,ff,ff,ff] rfl rfl (any_of HT_.out (by kernel_rfl)) (fun _ _ _ h => h) (Or.inr ⟨by rfl, rfl⟩) ?_ ?_
  rotate_left
  ·simp only [Act.put, List.setIfInBounds_toArray, List.set_cons_zero, List.set_cons_succ, i64_w, i32_w]
   rfl
  refine pure_ (i := 14) (N := some 17) (v := undef) (a' := ?_) #[tt,tt,tt,tt,tt,tt,tt,tt,tt,tt,tt,tt,tt,tt,tt,ff,ff,ff,ff] rfl rfl (any_of HT_.out (by kernel_rfl)) (fun _ _ _ h => h) (Or.inr ⟨by rfl, rfl⟩) ?_ ?_
  rotate_left
  ·simp only [Act.put, List.setIfInBounds_toArray, List.set_cons_zero, List.set_cons_succ, i64_w, i32_w]
   rfl
  refine pure_ (i := 15) (N := some 18) (v := undef) (a' := ?_) #[tt,tt,tt,tt,tt,tt,tt,tt,tt,tt,tt,tt,tt,tt,tt,tt,ff,ff,ff] rfl rfl (any_of HT_.out (by kernel_rfl)) (fun _ _ _ h => h) (Or.inr ⟨by rfl, rfl⟩) ?_ ?_
  rotate_left
  ·simp only [Act.put, List.setIfInBounds_toArray, List.set_cons_zero, List.set_cons_succ, i64_w, i32_w]
   rfl
  refine pure_ (i := 16) (N := some 19) (v := undef) (a' := ?_) #[tt,tt,tt,tt,tt,tt,tt,tt,tt,tt,tt,tt,tt,tt,tt,tt,tt,ff,ff] rfl rfl (any_of HT_.out (by kernel_rfl)) (fun _ _ _ h => h) (Or.inr ⟨by rfl, rfl⟩) ?_ ?_
  rotate_left
  ·simp only [Act.put, List.setIfInBounds_toArray, List.set_cons_zero, List.set_cons_succ, i64_w, i32_w]
   rfl
  refine pA 17 (some 20) #[tt,tt,tt,tt,tt,tt,tt,tt,tt,tt,tt,tt,tt,tt,tt,tt,tt,tt,ff] HT_ ?_
  refine pA 18 (some 2) #[tt,tt,tt,tt,tt,tt,tt,tt,tt,tt,tt,tt,tt,tt,tt,tt,tt,tt,tt] HT_ ?_
  refine done_ (done_of HT_.out (by kernel_rfl)) ?_
  try go_wp2
  go_ret
  exact ⟨by first | rfl | (simp [errW_none, errW_some] <;> rfl) | (simp [*, errW_none, errW_some] <;> rfl), bB⟩
def laws_rangeFair.f (k : Nat) (a0_0 : Int) (a0_1 : Int) (l0_2 : List (List Int)) : Option (Bool) := (spec_ProperRange.f k a0_0 a0_1 l0_2).bind fun t144 => (if t144 = true then ((laws_logSmall.f k l0_2).bind fun t145 => (some t145)) else (some false))
set_option maxHeartbeats 8000000 in
set_option maxRecDepth 100000 in
theorem laws_rangeFair.calls (k : Nat) (a0_0 : Int) (a0_1 : Int) (A0_2 : Option Addr) (c0_2 : Nat) (l0_2 : List (List Int)) (r : Bool) (w : World) (hr0_2 : Kd.C (Kd.slice 5 (Kd.int .u8)) w A0_2 l0_2.length l0_2) (hc0_2 : l0_2.length ≤ c0_2) (h : laws_rangeFair.f k a0_0 a0_1 l0_2 = some r) :
  Calls Tryd.prog 21 #[.agg #[.int .u64 a0_0, .int .u64 a0_1, .slice A0_2 l0_2.length c0_2]] w fun e w' => e = .returned (.bool r) ∧ Below w.heap.size w w' := by
 have hu39 := Tryd.underlying39
 have HR0_2 := zM hr0_2
 have HC0_2 := zM hc0_2
 clear hr0_2 hc0_2
 have HB := zM (Below.refl w.heap.size w)
 have H : ((spec_ProperRange.f k a0_0 a0_1 l0_2).bind fun t144 => (if t144 = true then ((laws_logSmall.f k l0_2).bind fun t145 => (some t145)) else (some false))) = some r := h
 clear h
 replace H := Option.bind_eq_some_iff.mp H
 obtain ⟨t144, A20, H⟩ := H
 (try dsimp only at H)
 have A2 := zM A20
 clear A20
 by_cases c3 : t144 = true
 ·subst c3
  have H1 : ((laws_logSmall.f k l0_2).bind fun t145 => (some t145)) = some r := by rw [if_pos rfl] at H; exact H
  clear H
  have H := H1
  clear H1
  replace H := Option.bind_eq_some_iff.mp H
  obtain ⟨t145, A40, H⟩ := H
  (try dsimp only at H)
  have A4 := zM A40
  clear A40
  obtain rfl := Option.some.inj H
  go_enter Tryd.func21, Tryd.ntmps21
  go_wp2_with (first | ((with_reducible refine gate_dst (N := 1) rfl ?_); refine bx 1 #[.int .u64 a0_0, .int .u64 a0_1, .slice A0_2 l0_2.length c0_2] 39 ?_; intro gb143 hg w5 hbox hb; have BK143 := zM (hbox); have GW143 := zM ((gB hg : w.heap.size ≤ gb143)); have GE143 := zM ((gB hg : w.heap.size ≤ gb143)); replace HB := zM (below_step bB hb); clear hb hbox hg; obtain ⟨hcz6_0, hcz6_1, hcz6_2⟩ := h3 BK143; obtain ⟨hfz6_0, hfz6_1, hfz6_2⟩ := f3 BK143) | ((with_reducible refine gate_callee (f := 41) rfl ?_); refine goesL_ (some 4) rfl rfl Tryd.func41 (by kernel_rfl) rfl #[.agg #[.int .u64 a0_0, .int .u64 a0_1, .slice A0_2 l0_2.length c0_2]] rfl aV ?_; (with_reducible refine (spec_ProperRange.calls k a0_0 a0_1 _ _ l0_2 true _ ?side1 ?side2 A2.out).mono ?_); (case side1 => repeat (first | exact (Kd.C_below HR0_2.out HB.out) | (with_reducible refine Kd.C_alloc ?_ _) | (with_reducible refine Kd.C_drewN ?_ _) | (with_reducible refine Kd.C_drew ?_))); (case side2 => exact HC0_2.out); rintro e w7 ⟨rfl, hb⟩; refine ⟨_, rfl, ?_⟩; replace BK143 := zM (bK BK143 hb); replace HB := zM (below_step bB hb); obtain ⟨hcz8_0, hcz8_1, hcz8_2⟩ := h3 BK143; obtain ⟨hfz8_0, hfz8_1, hfz8_2⟩ := f3 BK143) | (go_at_call 13; (with_reducible refine (laws_logSmall.calls k _ _ l0_2 t145 _ ?side1 ?side2 A4.out).mono ?_); (case side1 => repeat (first | exact (Kd.C_below HR0_2.out HB.out) | (with_reducible refine Kd.C_alloc ?_ _) | (with_reducible refine Kd.C_drewN ?_ _) | (with_reducible refine Kd.C_drew ?_))); (case side2 => exact HC0_2.out); rintro e w' ⟨rfl, ⟨nd, rfl⟩⟩))
  go_ret
  exact ⟨by first | rfl | (simp [errW_none, errW_some] <;> rfl) | (simp [*, errW_none, errW_some] <;> rfl), bB⟩
 ·replace c3 := Bool.eq_false_iff.mpr c3
  subst c3
  have H1 : (some false) = some r := by rw [if_neg (show ¬ (false = true) by decide)] at H; exact H
  clear H
  have H := H1
  clear H1
  obtain rfl := Option.some.inj H
  go_enter Tryd.func21, Tryd.ntmps21
  go_wp2_with (first | ((with_reducible refine gate_dst (N := 1) rfl ?_); refine bx 1 #[.int .u64 a0_0, .int .u64 a0_1, .slice A0_2 l0_2.length c0_2] 39 ?_; intro gb143 hg w9 hbox hb; have BK143 := zM (hbox); have GW143 := zM ((gB hg : w.heap.size ≤ gb143)); have GE143 := zM ((gB hg : w.heap.size ≤ gb143)); replace HB := zM (below_step bB hb); clear hb hbox hg; obtain ⟨hcz10_0, hcz10_1, hcz10_2⟩ := h3 BK143; obtain ⟨hfz10_0, hfz10_1, hfz10_2⟩ := f3 BK143) | ((with_reducible refine gate_callee (f := 41) rfl ?_); refine goesL_ (some 4) rfl rfl Tryd.func41 (by kernel_rfl) rfl #[.agg #[.int .u64 a0_0, .int .u64 a0_1, .slice A0_2 l0_2.length c0_2]] rfl aV ?_; (with_reducible refine (spec_ProperRange.calls k a0_0 a0_1 _ _ l0_2 false _ ?side1 ?side2 A2.out).mono ?_); (case side1 => repeat (first | exact (Kd.C_below HR0_2.out HB.out) | (with_reducible refine Kd.C_alloc ?_ _) | (with_reducible refine Kd.C_drewN ?_ _) | (with_reducible refine Kd.C_drew ?_))); (case side2 => exact HC0_2.out); rintro e w11 ⟨rfl, hb⟩; refine ⟨_, rfl, ?_⟩; replace BK143 := zM (bK BK143 hb); replace HB := zM (below_step bB hb)))
  go_ret
  exact ⟨by first | rfl | (simp [errW_none, errW_some] <;> rfl) | (simp [*, errW_none, errW_some] <;> rfl), bB⟩
theorem compact_Range_Begin.calls (g : Nat) (b : Int) (w : World) (h : w.cell? ⟨g, 1, none⟩ = some (.int .u64 b)) : Calls Tryd.prog 94 #[.pointer (some ⟨g, 0, none⟩)] w fun e w' => e = .returned (.int .u64 b) ∧ w' = w := by
 go_enter Tryd.func94, Tryd.ntmps94
 go_wp2
 go_ret
 exact ⟨rfl, rfl⟩
theorem compact_Range_End.calls (g : Nat) (b : Int) (w : World) (h : w.cell? ⟨g, 2, none⟩ = some (.int .u64 b)) : Calls Tryd.prog 95 #[.pointer (some ⟨g, 0, none⟩)] w fun e w' => e = .returned (.int .u64 b) ∧ w' = w := by
 go_enter Tryd.func95, Tryd.ntmps95
 go_wp2
 go_ret
 exact ⟨rfl, rfl⟩
theorem compact_Range_Hashes.calls (g : Nat) (A : Option Addr) (n c : Nat) (w : World) (h : w.cell? ⟨g, 3, none⟩ = some (.slice A n c)) : Calls Tryd.prog 96 #[.pointer (some ⟨g, 0, none⟩)] w fun e w' => e = .returned (.slice A n c) ∧ w' = w := by
 go_enter Tryd.func96, Tryd.ntmps96
 go_wp2
 go_ret
 exact ⟨rfl, rfl⟩
set_option maxHeartbeats 16000000 in
set_option maxRecDepth 100000 in
theorem impl_fromRange.calls (k g : Nat) (pf : Value) (b e : Int) (A : Option Addr) (c : Nat) (hs x : List (List Int)) (w : World)
  (hG : w.heap[g]? = some (.cells #[pf, .int .u64 b, .int .u64 e, .slice A hs.length c] 157 (0, 0))) (hC : Kd.C (Kd.slice 5 (Kd.int .u8)) w A hs.length hs) (hc : hs.length ≤ c) (h : impl_texts.f k hs = some x) :
  Calls Tryd.prog 57 #[.pointer (some ⟨g, 0, none⟩)] w fun e' w' => ∃ v0, e' = .returned (.agg #[.int .u64 b, .int .u64 e, v0]) ∧ Kd.S (Kd.slice 5 (Kd.int .u8)) 27 w' w.heap.size (fun _ => True) v0 x ∧ Below w.heap.size w w' := by
 have hu39 := Tryd.underlying39
 have HG := zM hG
 have HC := zM hC
 have HCC := zM hc
 have HX := zM h
 clear hG hC hc h
 go_enter Tryd.func57, Tryd.ntmps57
 go_wp2_with (first
  | ((with_reducible refine gate_dst (N := 2) rfl ?_); refine bx 2 #[.int .u64 0, .int .u64 0, .slice none 0 0] 39 ?_; intro gr hgr w2 hbox hb; have HB2 := zM hb; have BK2 := zM hbox; have GE2 := zM (Nat.le_of_eq hgr.symm); have hk2 := blk_below HG.out hb; have q1 : w2.cell? ⟨g, 1, none⟩ = some (.int .u64 b) := (blk_cell hk2 1).trans rfl; have q2 : w2.cell? ⟨g, 2, none⟩ = some (.int .u64 e) := (blk_cell hk2 2).trans rfl; have q3 : w2.cell? ⟨g, 3, none⟩ = some (.slice A hs.length c) := (blk_cell hk2 3).trans rfl; clear hb hbox hk2 hgr)
  | (go_at_call 94; (with_reducible refine (compact_Range_Begin.calls g b _ q1).mono ?_); rintro e' w' ⟨rfl, rfl⟩)
  | (go_at_call 95; (with_reducible refine (compact_Range_End.calls g e _ q2).mono ?_); rintro e' w' ⟨rfl, rfl⟩)
  | (go_at_call 96; (with_reducible refine (compact_Range_Hashes.calls g A hs.length c _ q3).mono ?_); rintro e' w' ⟨rfl, rfl⟩)
  | (go_at_call 46; (with_reducible refine (impl_texts.calls k A c hs x _ ?side1 HCC.out HX.out).mono ?_); (case side1 => exact Kd.C_below HC.out HB2.out); rintro e' w3 ⟨v3, rfl, hS3, hB3⟩; obtain ⟨A3, c3, rfl⟩ := Kd.S_slice hS3; have HS3 := zM hS3; have HB3 := zM hB3; have BK3 := zM (blk_below BK2.out hB3); have hbk3 := BK3.out; have fz0 := blk_frozen hbk3 0; have fz1 := blk_frozen hbk3 1; have fz2 := blk_frozen hbk3 2; have cl0 := (blk_cell hbk3 0).trans rfl; have cl1 := (blk_cell hbk3 1).trans rfl; have cl2 := (blk_cell hbk3 2).trans rfl; clear hS3 hB3 hbk3))
 have k3 := blk_put (blk_put (blk_put BK3.out 0 (.int .u64 b) rfl) 1 (.int .u64 e) rfl) 2 (.slice A3 x.length c3) rfl
 refine bodyPost_ret (results_cell_row rfl _ _ gr 39 #[.int .u64 b, .int .u64 e, .slice A3 x.length c3] (0, 0) _ rfl k3 Tryd.underlying39 rfl (by kernel_rfl)) rfl ?_
 refine ⟨_, rfl, ?_, ?_⟩
 ·have s1 := Kd.S_set HS3.out BK3.out (by decide) 0 (.int .u64 b)
  have s2 := Kd.S_set s1 (blk_put BK3.out 0 (.int .u64 b) rfl) (by decide) 1 (.int .u64 e)
  have s3 := Kd.S_set s2 (blk_put (blk_put BK3.out 0 (.int .u64 b) rfl) 1 (.int .u64 e) rfl) (by decide) 2 (.slice A3 x.length c3)
  exact Kd.S_lower s3 HB2.out.size
 ·exact (((HB2.out.trans (HB3.out.mono HB2.out.size)).setCell GE2.out _).setCell GE2.out _).setCell GE2.out _
theorem run_neq_ptr_same {P : Program} {tp te : TypeId} {j : TypeInfo} (w : World) (a : Addr) (hp : P.underlying tp = some (.pointer te)) (hte : P.info? te = some j) :
  (binOp .neq tp (.pointer (some a)) (.pointer (some a))).run P w = .ok (.bool false) w := by
 have h : ∀ d : Nat, (Op.equalIn (d + 1) tp (.pointer (some a)) (.pointer (some a))).run P w = .ok true w := fun d => by
  simp [Op.equalIn, run_underlying hp, sizeOf, typeInfo, hte, run_sameAddr_same]
 simp only [binOp]
 simp [Op.equal, Op.maxDepth, h 9999]
theorem fact_ptr (a : Addr) (w : World) : (binOp .neq 97 (.pointer (some a)) (.pointer (some a))).run Tryd.prog w = .ok (.bool false) w := by
 have h : (Tryd.prog.info? 101).isSome = true := by kernel_rfl
 obtain ⟨j, hj⟩ := Option.isSome_iff_exists.mp h
 exact run_neq_ptr_same w a Tryd.underlying97 hj
theorem rest_reads {B : Nat} {AO : Option Addr} {n cO : Nat} {yO : List (List Int)} (h1 : 0 < yO.length) (hc : yO.length ≤ cO) (hn : n = yO.length) : ∀ (W : World) (ok : Nat → Prop), (Kd.slice 5 (Kd.int .u8)).R 27 W B ok (.slice AO n cO) yO →
  ReadsRow (fun x c => (Kd.slice 5 (Kd.int .u8)).M W B ok x c) 1 W (if cO = 1 then AO else AO.map (·.add 1)) (yO.drop 1).length (yO.drop 1) := fun W ok h => by
 subst hn
 obtain ⟨A, c, he, hl, hr⟩ := OwnRow.reads h.2
 injection he with e1 e2 e3
 subst e1 e3
 exact row_drop (hr.imp_ (Below.refl _ _) (fun _ _ hp => (Kd.slice 5 (Kd.int .u8)).M_mono (fun _ hk => hk.1) hp)) h1 hc
def rgMerge (k : Nat) (a0 a1 a2 a3 a4 a5 : Int) (b m : Int) (L : List (List Int)) (b2 e2 : Int) (yO : List (List Int)) (vis : List S60) : Option (Int × List (List Int) × List S60) :=
 if b2 = m then (if yO.length < 1000000 then (if yO = [] then some (m, L, vis) else (rgApp k a0 a1 a2 a3 a4 a5 b m e2 L (yO.getD 0 []) (yO.drop 1) vis).bind fun r => some (e2, r.1, r.2)) else none) else none
set_option maxHeartbeats 16000000 in
set_option maxRecDepth 100000 in
theorem compact_Range_AppendRange.calls (k : Nat) (a0 a1 a2 a3 a4 a5 : Int) (B g g2 gf gb : Nat) (fh fv : Value) (b : Int) (m : Nat) (v : Value) (L : List (List Int)) (b2 e2 : Int) (vO : Value) (yO : List (List Int)) (vis : List S60) (m' : Int) (L' : List (List Int)) (vis' : List S60) (w : World)
  (hT : ∀ W, Below B w W → TabOK W) (hG : w.heap[g]? = some (.cells #[.pointer (some ⟨gf, 0, none⟩), .int .u64 b, .int .u64 (m : Int), v] 157 (0, 0))) (hg : B ≤ g) (hG2 : w.heap[g2]? = some (.cells #[.pointer (some ⟨gf, 0, none⟩), .int .u64 b2, .int .u64 e2, vO] 157 (0, 0))) (hF : w.heap[gf]? = some (.cells #[fh] 101 (0, 0)))
  (hfh : IsFn Tryd.prog fh 52 (.agg #[.int .i64 a0, .int .i64 a1, .int .i64 a2, .int .u64 a3, .int .u64 a4, .int .u64 a5])) (hfv : Vst fv B gb) (hV : Vs w B gb vis) (hB : B ≤ w.heap.size)
  (hR : (Kd.slice 5 (Kd.int .u8)).R 27 w B (fun _ => True) v L) (hO : (Kd.slice 5 (Kd.int .u8)).R 27 w B (fun k_ => some k_ ≠ v.ownBlock) vO yO)
  (h : rgMerge k a0 a1 a2 a3 a4 a5 b m L b2 e2 yO vis = some (m', L', vis')) :
  Calls Tryd.prog 61 #[.pointer (some ⟨g, 0, none⟩), .pointer (some ⟨g2, 0, none⟩), fv] w fun e' w' => e' = .returned .nilIface ∧
   ∃ v', w'.heap[g]? = some (.cells #[.pointer (some ⟨gf, 0, none⟩), .int .u64 b, .int .u64 m', v'] 157 (0, 0)) ∧ (Kd.slice 5 (Kd.int .u8)).R 27 w' B (fun _ => True) v' L' ∧ Vs w' B gb vis' ∧ Below B w w' ∧ FKeep (fun k_ => k_ = g ∨ some k_ = v.ownBlock) w w' := by
 unfold rgMerge at h
 by_cases hb : b2 = m
 case neg => rw [if_neg hb] at h; exact absurd h (by simp)
 rw [if_pos hb] at h
 by_cases hyl : yO.length < 1000000
 case neg => rw [if_neg hyl] at h; exact absurd h (by simp)
 rw [if_pos hyl] at h
 subst hb
 have hnf := fact_ptr
 have hne : (((m : Nat) : Int) != ((m : Nat) : Int)) = false := by simp
 obtain ⟨AO, cO, rfl⟩ := Kd.R_slice hO
 have q0 : w.cell? ⟨g, 0, none⟩ = some (.pointer (some ⟨gf, 0, none⟩)) := (blk_cell hG 0).trans rfl
 have q2 : w.cell? ⟨g, 2, none⟩ = some (.int .u64 (m : Int)) := (blk_cell hG 2).trans rfl
 have p0 : w.cell? ⟨g2, 0, none⟩ = some (.pointer (some ⟨gf, 0, none⟩)) := (blk_cell hG2 0).trans rfl
 have p1 : w.cell? ⟨g2, 1, none⟩ = some (.int .u64 (m : Int)) := (blk_cell hG2 1).trans rfl
 have p2 : w.cell? ⟨g2, 2, none⟩ = some (.int .u64 e2) := (blk_cell hG2 2).trans rfl
 have p3 : w.cell? ⟨g2, 3, none⟩ = some (.slice AO yO.length cO) := (blk_cell hG2 3).trans rfl
 have HYL := zM hyl
 have HFV := zM hfv
 obtain ⟨f, hfe⟩ := hfv.ne
 subst hfe
 have HT := zM hT
 have HG := zM hG
 have HF := zM hF
 have HFH := zM hfh
 have HV := zM hV
 have HBB := zM hB
 have HR := zM hR
 have HO := zM hO
 clear hT hG hF hfh hfv hV hB hR hO hG2 hyl
 by_cases hy : yO = []
 ·rw [if_pos hy] at h
  obtain ⟨rfl, rfl, rfl⟩ : (m : Int) = m' ∧ L = L' ∧ vis = vis' := by simpa using h
  clear h
  subst hy
  go_enter Tryd.func61, Tryd.ntmps61
  go_wp2
  go_quiet (fail)
  go_wp2
  go_quiet (fail)
  go_wp2
  go_ret
  refine ⟨rfl, v, ?_, ?_, ?_, ?_, ?_⟩
  ·first | exact HG.out | exact (show _ from HG.out)
  ·first | exact Kd.R_drewN (Kd.R_drewN HR.out _) _ | exact Kd.R_drewN HR.out _
  ·first | exact (HV.out.drewN _).drewN _ | exact HV.out.drewN _
  ·first | exact pw_below_drewN (pw_below_drewN (Below.refl _ _) _) _ | exact pw_below_drewN (Below.refl _ _) _
  ·first | exact ⟨Nat.le_refl _, fun _ _ h_ _ _ => h_⟩
 ·rw [if_neg hy] at h
  obtain ⟨r, hr, h⟩ := Option.bind_eq_some_iff.mp h
  obtain ⟨rfl, rfl, rfl⟩ : e2 = m' ∧ r.1 = L' ∧ r.2 = vis' := by simpa using h
  clear h
  have hpos : 0 < yO.length := List.length_pos_iff.2 hy
  obtain ⟨gh, cg, eA, hBg, hgl, cells, hcl⟩ := row_form2 (Kd.R_mono HO.out (fun _ _ => trivial)) hpos
  obtain ⟨rfl, rfl⟩ : AO = some ⟨gh, 0, none⟩ ∧ cO = cg := by injection eA with e1 e2 e3; exact ⟨e1, e3⟩
  obtain ⟨Ae, de, ecx, hE⟩ := row_elem2 (Kd.R_mono HO.out (fun _ _ => trivial)) 0 hpos
  obtain ⟨y0, hy0⟩ : ∃ y0, y0 = yO.getD 0 [] := ⟨_, rfl⟩
  rw [← hy0] at ecx hE hr
  have hcO := (Kd.R_reads' HO.out).2.1
  obtain ⟨i0, hi0, hz0⟩ := Option.map_eq_some_iff.1 info27
  simp only [Prod.mk.injEq] at hz0
  have hcut := cut_from 25 27 .i64 Tryd.underlying25 hi0 1 hz0.2.1 (some ⟨gh, 0, none⟩) yO.length cO 1 (by omega) (by omega)
  have hsrc := rest_reads (B := B) (AO := some ⟨gh, 0, none⟩) (n := yO.length) hpos hcO rfl
  rw [show (1 : Int).toNat = 1 from rfl] at hcut
  simp only [Nat.mul_one] at hcut
  generalize (if cO = 1 then (some (⟨gh, 0, none⟩ : Addr)) else Option.map (fun (x : Addr) => x.add 1) (some (⟨gh, 0, none⟩ : Addr))) = A1 at hcut hsrc
  have hdl : (yO.drop 1).length = yO.length - 1 := List.length_drop
  obtain ⟨ys, hys⟩ : ∃ ys, ys = yO.drop 1 := ⟨_, rfl⟩
  rw [← hys] at hr hsrc hdl
  rw [← hdl] at hcut
  have HSRC := zM hsrc
  have HRR := zM hr
  have HE := zM hE
  have HCO := zM (show ys.length ≤ cO - 1 by omega)
  have j1 : (0 : Int) < (yO.length : Int) := by omega
  have j2 : ¬ (yO.length : Int) = 0 := by omega
  have j3 : ((yO.length : Int) == 0) = false := by rw [beq_eq_false_iff_ne]; omega
  have j4 : ¬ yO.length = 0 := by omega
  clear eA hBg hgl hcl hE hy0 hi0 hz0 hsrc hdl hys hr hcO
  go_enter Tryd.func61, Tryd.ntmps61
  go_wp2
  go_quiet (fail)
  go_wp2
  generalize nq = n1
  go_quiet (fail)
  go_upto_region 8 with (fail)
  generalize nq = n2
  have hb2 : Below w.heap.size w (w.drewN (n1 + n2)) := pw_below_drewN (Below.refl _ _) _
  have HB2 := zM (show Below B w (w.drewN (n1 + n2)).drew from below_drew (hb2.mono HBB.out))
  have HG2 := zM (show (w.drewN (n1 + n2)).drew.heap[g]? = _ from HG.out)
  have HF2 := zM (show (w.drewN (n1 + n2)).drew.heap[gf]? = _ from HF.out)
  have HV2 := zM (show Vs (w.drewN (n1 + n2)).drew B gb vis from HV.out.below (below_drew hb2))
  have HR2 := zM (Kd.R_drew (Kd.R_drewN HR.out (n1 + n2)))
  have HO2 := zM (Kd.R_drew (Kd.R_drewN HO.out (n1 + n2)))
  have HE2 := zM (Kd.R_mono (ok' := fun _ => True) (Kd.R_drew (Kd.R_drewN HE.out (n1 + n2))) (fun _ _ => trivial))
  have HS2 := zM (show B ≤ (w.drewN (n1 + n2)).drew.heap.size from HBB.out)
  have HK2 := zM (show VKeep w (w.drewN (n1 + n2)).drew from TKeep.of_below (below_drew hb2))
  replace p2 : (w.drewN (n1 + n2)).cell? ⟨g2, 2, none⟩ = some (.int .u64 e2) := p2
  replace p3 : (w.drewN (n1 + n2)).cell? ⟨g2, 3, none⟩ = some (.slice (some ⟨gh, 0, none⟩) yO.length cO) := p3
  replace ecx : (w.drewN (n1 + n2)).cell? ⟨gh, 0, none⟩ = some (.slice Ae y0.length de) := ecx
  clear hb2 q0 q2 p0 p1
  generalize w.drewN (n1 + n2) = w2 at *
  go_still_tail 17, (by kernel_rfl)
  go_wp2_with (go_at_call 93; (with_reducible refine (compact_Range_appendImpl.calls k a0 a1 a2 a3 a4 a5 B g gf gb fh _ b m e2 v L Ae de y0 A1 (cO - 1) ys (.slice (some ⟨gh, 0, none⟩) yO.length cO) yO vis r _ ?s1 HG2.out hg HF2.out HFH.out HFV.out HV2.out HS2.out HR2.out HE2.out HO2.out HSRC.out HCO.out HRR.out).mono ?_); (case s1 => exact HT.out _ HB2.out); rintro e' w10 ⟨rfl, v10, h1, h2, h3, h4, h5, h6⟩; have K1 := zM h1; have K2 := zM h2; have K3 := zM h3; have K4 := zM h4; have K5 := zM h5; clear h1 h2 h3 h4 h5 h6)
  go_ret
  exact ⟨rfl, v10, K1.out, K2.out, K3.out, HB2.out.trans K4.out, FKeep.pre HK2.out K5.out⟩
set_option maxHeartbeats 16000000 in
set_option maxRecDepth 100000 in
theorem impl_AppendRange1.calls (B gb : Nat) (vs : Value) (vis : List S60) (lv ix : Int) (A : Option Addr) (c : Nat) (hash : List Int) (w : World)
  (hbx : w.heap[gb]? = some (.cells #[vs] 42 (0, 0))) (hgb : B ≤ gb) (hB : B ≤ w.heap.size) (hR : k60.R 60 w B (fun _ => True) vs vis)
  (hC : (Kd.int .u8).C w A hash.length hash) (hc : hash.length ≤ c) (hl1 : hash.length < 140737488355328) (hl2 : vis.length < 1000000000) :
  Calls Tryd.prog 62 #[.agg #[.int .u64 lv, .int .u64 ix], .slice A hash.length c, .pointer (some ⟨gb, 0, none⟩)] w fun e w' => e = .returned (.tuple #[]) ∧
   ∃ vs', w'.heap[gb]? = some (.cells #[vs'] 42 (0, 0)) ∧ k60.R 60 w' B (fun _ => True) vs' (vis ++ [⟨⟨lv, ix⟩, hash⟩]) ∧ Below B w w' ∧ TKeep 42 60 w w' := by
 obtain ⟨w1, hw1⟩ : ∃ w1, w1 = w.alloc (.cells #[.int .u64 lv, .int .u64 ix] 106) := ⟨_, rfl⟩
 have hb1 : Below w.heap.size w w1 := by rw [hw1]; exact below_alloc (Below.refl _ _) _
 have hk1 : w1.heap[w.heap.size]? = some (.cells #[.int .u64 lv, .int .u64 ix] 106 (0, 0)) := by rw [hw1]; exact blk_new w _
 have q0 : w1.cell? ⟨w.heap.size, 0, none⟩ = some (.int .u64 lv) := (blk_cell hk1 0).trans rfl
 have q1 : w1.cell? ⟨w.heap.size, 1, none⟩ = some (.int .u64 ix) := (blk_cell hk1 1).trans rfl
 have hbx1 := blk_below hbx hb1
 have q2 : w1.cell? ⟨gb, 0, none⟩ = some vs := (blk_cell hbx1 0).trans rfl
 have hgx : gb < w.heap.size := blk_lt hbx
 have ne1 : w.heap.size < w1.heap.size := blk_lt hk1
 have ne2 : gb < w1.heap.size := blk_lt hbx1
 have HR1 := zM (Kd.R_below hR hb1)
 have HC1 := zM (Kd.C_below hC hb1)
 have HBX := zM hbx1
 have HB1 := zM (hb1.mono hB)
 have HTK := zM (TKeep.of_below (t1 := 42) (t2 := 60) hb1)
 have HBW := zM (Nat.le_trans hB hb1.size)
 have HGX := zM hgx
 obtain ⟨Av, cv, rfl⟩ := Kd.R_slice hR
 have HL2 := zM hl2
 have HL1 := zM hl1
 clear hR hC hbx hbx1 hb1 hk1 hB hl1 hl2 hgx
 go_enter Tryd.func62, Tryd.ntmps62
 go_upto_region 1 with (fail)
 rw [← hw1]
 clear hw1
 generalize w.heap.size = gx at *
 go_region_law
  (first
   | (go_simp; go_at_call 56; (with_reducible refine (impl_fromNode.calls lv ix lv ix _ rfl).mono ?_); rintro e' w7 ⟨rfl, hb7⟩; have HB7 := zM (show Below w1.heap.size w1 w7 from below_step (by repeat (first | (with_reducible exact Below.refl _ _) | apply below_alloc | apply below_drew)) hb7); have c7 : w7.cell? ⟨gb, 0, none⟩ = some (.slice Av vis.length cv) := (blk_cell (blk_below HBX.out HB7.out) 0).trans rfl; have n7 : gb < w7.heap.size := blk_lt (blk_below HBX.out HB7.out); have HBx7 := zM hb7; clear hb7)
   | (refine Kd.R_append_step k60 (w0 := w1) B ?hw (.tmp 5) (.tmp 12) 42 60 (.agg #[(.int .u64 0), (.int .u64 0), (.slice none 0 0)]) 40 ?ho Tryd.underlying42 info_visit (by rfl) (by decide) (by omega) (.slice Av vis.length cv) vis ⟨⟨lv, ix⟩, hash⟩ [.int .u64 lv, .int .u64 ix, .slice A10 ([] ++ hash).length cc10] (fun _ => True) (fun k_ => some k_ ≠ (Value.slice Av vis.length cv).ownBlock) ?hs ?hx ?bM (fun _ h_ => ⟨trivial, h_⟩) (fun _ _ => trivial) ?bO ?bB ?bS ?bL ?_; (case ho => rfl); (case hw => rfl); (case hs => rfl); (case hx => rfl); (case bM => exact k60_mkM _ _ _ ⟨⟨lv, ix⟩, hash⟩ (Kd.R_mono (Kd.R_lower (Kd.R_apart' HR10.out (Kd.R_typed (Kd.R_below HR1.out HB10.out)) (by decide)) HBW.out) (fun _ h_ => h_.2))); (case bO => exact Kd.R_below HR1.out HB10.out); (case bB => exact HB10.out.mono HBW.out); (case bS => exact Nat.le_trans HBW.out HB10.out.size); (case bL => have := HL2.out; omega); intro v13 w13 hr13 hb13 hg13 hat13; have k13 := blk_grown (blk_below HBX.out HB10.out) hg13 (Kd.R_ne (Kd.R_below HR1.out HB10.out) (blk_below HBX.out HB10.out) (by decide)); have HK13 := zM k13; have c13 : w13.cell? ⟨gb, 0, none⟩ = some (.slice Av vis.length cv) := (blk_cell k13 0).trans rfl; have f13 := blk_frozen k13 0; have HR13 := zM hr13; have HB13 := zM hb13; have HT13 := zM ((HTK.out.below HB10.out).grown hg13 (fun k hk => by obtain ⟨cs_, hcs_⟩ := Kd.R_typed (Kd.R_below HR1.out HB10.out) k hk; exact ⟨_, hcs_, cs_, _, .inr rfl⟩)); obtain ⟨A13, cc13, rfl⟩ := Kd.R_slice hr13; clear k13 hr13 hb13 hg13 hat13)
   | (refine Kd.R_append_rows_step (Kd.int .u8) (w0 := w1) w1.heap.size ?hw (.tmp 8) (.tmp 9) 27 5 (.int .u8 0) 1 rfl Tryd.underlying27 info5 (by rfl) (by decide) (by omega) _ [] hash A hash.length c (fun _ => True) (fun _ => False) rfl rfl ?aO ?aR (fun _ _ h => h) (fun _ h => h.elim) (fun _ _ => trivial) ?aB ?aS ?aL ?_; (case hw => rfl); (case aR => first | exact Kd.C_below HC1.out HB7.out | exact Kd.C_alloc (Kd.C_below HC1.out HB7.out) _); (case aB => repeat (first | (with_reducible exact HB7.out) | apply below_alloc | apply below_drew)); (case aO => first | (refine emptyR _ _ ?_; exact HB7.out.size) | exact Kd.R_below (Kd.R_drew (emptyR w1 _ (Nat.le_refl _))) HBx7.out | exact Kd.R_below (emptyR w1.drew _ (Nat.le_refl _)) HBx7.out); (case aS => first | exact HB7.out.size | exact (below_alloc HB7.out _).size); (case aL => simp only [List.length_nil, Nat.zero_add]; have := HL1.out; omega); intro v10 w10 hr10 hb10 hg10 hat10; have HR10 := zM hr10; have HB10 := zM hb10; have c10 : w10.cell? ⟨gb, 0, none⟩ = some (.slice Av vis.length cv) := (blk_cell (blk_below HBX.out HB10.out) 0).trans rfl; have n10 : gb < w10.heap.size := blk_lt (blk_below HBX.out HB10.out); obtain ⟨A10, cc10, rfl⟩ := Kd.R_slice hr10; clear hr10 hb10 hg10 hat10))
 all_goals
  go_wp2
  go_end0
  have e13 : (vis ++ [(⟨⟨lv, ix⟩, hash⟩ : S60)]).length = vis.length + 1 := by simp
  have hs13 := Kd.R_set HR13.out HK13.out (by decide) 0 (.slice A13 (vis ++ [(⟨⟨lv, ix⟩, hash⟩ : S60)]).length cc13)
  rw [e13] at hs13
  exact ⟨rfl, _, blk_put HK13.out 0 _ rfl, hs13, (HB1.out.trans HB13.out).setCell hgb _, HT13.out.set HK13.out ⟨_, _, .inl rfl⟩ _⟩
def impl_AppendRange.f (k : Nat) (a0_0 a0_1 a0_2 a0_3 a0_4 a0_5 : Int) (a1_0 a1_1 : Int) (l1_2 : List (List Int)) (a2_0 a2_1 : Int) (l2_2 : List (List Int)) : Option (Int × Int × List (List Int) × List S60 × Bool) :=
 (impl_texts.f k l1_2).bind fun x => if rgNew a1_0 a1_1 x then (impl_texts.f k l2_2).bind fun y => if rgNew a2_0 a2_1 y then (rgMerge k a0_0 a0_1 a0_2 a0_3 a0_4 a0_5 a1_0 a1_1 x a2_0 a2_1 y []).bind fun r => (impl_texts.f k r.2.1).bind fun z => some (a1_0, r.1, z, r.2.2, true) else none else none
theorem five_blocks (w : World) (o0 o1 o2 o3 o4 : Obj) (w3 : World) (hw3 : w3 = ((((w.alloc o0).alloc o1).alloc o2).alloc o3).alloc o4) :
  Below w.heap.size w w3 ∧ w3.heap.size = w.heap.size + 5 ∧ w3.heap[w.heap.size + 1]? = some o1 ∧ w3.heap[w.heap.size + 1 + 1]? = some o2 ∧ w3.heap[w.heap.size + 1 + 1 + 1]? = some o3 ∧ w3.heap[w.heap.size + 1 + 1 + 1 + 1]? = some o4 := by
 have s1 : (w.alloc o0).heap.size = w.heap.size + 1 := Array.size_push _
 obtain ⟨h1, h2, h3, h4, h5, h6⟩ := four_blocks (w.alloc o0) o1 o2 o3 o4 w3 hw3
 rw [s1] at h2 h3 h4 h5 h6
 exact ⟨(below_alloc (Below.refl _ _) o0).trans (h1.mono (by rw [s1]; omega)), by omega, h3, h4, h5, h6⟩
theorem vst_appendRange (B gb : Nat) (hgb : B ≤ gb) : Vst (.func (.func 62) #[] #[.pointer (some ⟨gb, 0, none⟩)]) B gb :=
 ⟨_, rfl, isFc_func Tryd.func62 (by kernel_rfl) rfl _, fun vis lv ix A c hash w hV hB hC hc hl1 hl2 => by
  obtain ⟨vs, hbx, hR⟩ := hV
  refine (impl_AppendRange1.calls B gb vs vis lv ix A c hash w hbx hgb hB hR hC hc hl1 hl2).mono ?_
  rintro e w' ⟨rfl, vs', h1, h2, h3, h4⟩
  exact ⟨rfl, ⟨vs', h1, h2⟩, h3, h4⟩⟩
set_option maxHeartbeats 16000000 in
set_option maxRecDepth 100000 in
theorem impl_AppendRange.calls (k : Nat) (a0_0 a0_1 a0_2 a0_3 a0_4 a0_5 : Int) (a1_0 a1_1 : Int) (A1_2 : Option Addr) (c1_2 : Nat) (l1_2 : List (List Int)) (a2_0 a2_1 : Int) (A2_2 : Option Addr) (c2_2 : Nat) (l2_2 : List (List Int)) (r0 r1 : Int) (r2 : List (List Int)) (r3 : List S60) (r4 : Bool) (w : World) (hT : TabOK w)
  (hr1_2 : Kd.C (Kd.slice 5 (Kd.int .u8)) w A1_2 l1_2.length l1_2) (hc1_2 : l1_2.length ≤ c1_2) (hr2 : Kd.C (Kd.slice 5 (Kd.int .u8)) w A2_2 l2_2.length l2_2) (hc2 : l2_2.length ≤ c2_2) (h : impl_AppendRange.f k a0_0 a0_1 a0_2 a0_3 a0_4 a0_5 a1_0 a1_1 l1_2 a2_0 a2_1 l2_2 = some (r0, r1, r2, r3, r4)) :
  Calls Tryd.prog 27 #[.agg #[.int .i64 a0_0, .int .i64 a0_1, .int .i64 a0_2, .int .u64 a0_3, .int .u64 a0_4, .int .u64 a0_5], .agg #[.int .u64 a1_0, .int .u64 a1_1, .slice A1_2 l1_2.length c1_2], .agg #[.int .u64 a2_0, .int .u64 a2_1, .slice A2_2 l2_2.length c2_2]] w fun e w' =>
   ∃ v0 v1, e = .returned (.tuple #[.agg #[.int .u64 r0, .int .u64 r1, v0], v1, .bool r4]) ∧ Kd.S (Kd.slice 5 (Kd.int .u8)) 27 w' w.heap.size (fun _ => True) v0 r2 ∧ k60.R 60 w' w.heap.size (fun _ => True) v1 r3 ∧ Below w.heap.size w w' := by
 have hmf := fact_func
 unfold impl_AppendRange.f at h
 obtain ⟨x, hx, h⟩ := Option.bind_eq_some_iff.mp h
 by_cases hn : rgNew a1_0 a1_1 x
 case neg => rw [if_neg hn] at h; exact absurd h (by simp)
 rw [if_pos hn] at h
 obtain ⟨hbe, hsz, he0, he1⟩ := hn
 obtain ⟨m0, rfl⟩ := Int.eq_ofNat_of_zero_le he0
 obtain ⟨y, hy, h⟩ := Option.bind_eq_some_iff.mp h
 by_cases hn : rgNew a2_0 a2_1 y
 case neg => rw [if_neg hn] at h; exact absurd h (by simp)
 rw [if_pos hn] at h
 obtain ⟨hbe2, hsz2, _, _⟩ := hn
 obtain ⟨⟨m1, L1, vis1⟩, hf, h⟩ := Option.bind_eq_some_iff.mp h
 obtain ⟨z, hz, h⟩ := Option.bind_eq_some_iff.mp h
 obtain ⟨rfl, rfl, rfl, rfl, rfl⟩ : a1_0 = r0 ∧ m1 = r1 ∧ z = r2 ∧ vis1 = r3 ∧ true = r4 := by simpa using h
 have HC1 := zM hc1_2
 have HC2 := zM hc2
 have HX := zM hx
 have HY := zM hy
 have HZ := zM hz
 have HFO := zM hf
 have HBE := zM hbe
 have HSZ := zM hsz
 have HBE2 := zM hbe2
 have HSZ2 := zM hsz2
 have HT := zM hT
 clear hx hy hz hf hbe hsz hbe2 hsz2 he0 h hT hc1_2 hc2
 obtain ⟨w3, hw3⟩ : ∃ w3, w3 = ((((w.alloc (.cells #[.int .i64 a0_0, .int .i64 a0_1, .int .i64 a0_2, .int .u64 a0_3, .int .u64 a0_4, .int .u64 a0_5] 24)).alloc (.cells #[.int .u64 a1_0, .int .u64 (m0 : Int), .slice A1_2 l1_2.length c1_2] 39)).alloc (.cells #[.int .u64 a2_0, .int .u64 a2_1, .slice A2_2 l2_2.length c2_2] 39)).alloc (.cells #[.int .u64 0, .int .u64 0, .slice none 0 0] 39)).alloc (.cells #[.func (.func 52) #[.agg #[.int .i64 a0_0, .int .i64 a0_1, .int .i64 a0_2, .int .u64 a0_3, .int .u64 a0_4, .int .u64 a0_5]] #[]] 101) := ⟨_, rfl⟩
 obtain ⟨hb3, hs3, hk1, hkb, hk2, hk3⟩ := five_blocks w _ _ _ _ _ w3 hw3
 have HB3 := zM hb3
 have HS3 := zM hs3
 have HK2 := zM hk2
 have HK3 := zM hk3
 have HKB := zM hkb
 have HQ := zM (HeldR.of hk1)
 have HR1 := zM (Kd.C_below hr1_2 hb3)
 have HR2 := zM (Kd.C_below hr2 hb3)
 obtain ⟨q0, q1, q2⟩ := HQ.out
 have HFH := zM (isFn_func Tryd.func52 (by kernel_rfl) rfl (.agg #[.int .i64 a0_0, .int .i64 a0_1, .int .i64 a0_2, .int .u64 a0_3, .int .u64 a0_4, .int .u64 a0_5]) : IsFn Tryd.prog (.func (.func 52) #[.agg #[.int .i64 a0_0, .int .i64 a0_1, .int .i64 a0_2, .int .u64 a0_3, .int .u64 a0_4, .int .u64 a0_5]] #[]) 52 (.agg #[.int .i64 a0_0, .int .i64 a0_1, .int .i64 a0_2, .int .u64 a0_3, .int .u64 a0_4, .int .u64 a0_5]))
 clear hb3 hs3 hk1 hkb hk2 hk3 hr1_2 hr2
 go_enter Tryd.func27, Tryd.ntmps27
 go_upto_region 2 with (fail)
 rw [← hw3]
 clear hw3
 have HGF := zM (show w.heap.size ≤ w.heap.size + 1 + 1 + 1 + 1 by omega)
 have HGR := zM (show w.heap.size ≤ w.heap.size + 1 + 1 + 1 by omega)
 have HGC := zM (show w.heap.size + 1 + 1 < w3.heap.size by rw [HS3.out]; omega)
 have HGA := zM (show w.heap.size + 1 < w3.heap.size by rw [HS3.out]; omega)
 have HW3 := zM (show w.heap.size ≤ w3.heap.size by rw [HS3.out]; omega)
 generalize hgw : w.heap.size = gw at *
 have HGW := zM hgw
 clear hgw HS3
 generalize gw + 1 + 1 + 1 + 1 = gf at *
 generalize gw + 1 + 1 + 1 = gr at *
 generalize gw + 1 + 1 = gc at *
 generalize gw + 1 = ga at *
 go_region_held3 (fun w' => w'.cell? ⟨ga, 0, none⟩ = some (.int .u64 a1_0) ∧ w'.cell? ⟨ga, 1, none⟩ = some (.int .u64 (m0 : Int)) ∧ w'.cell? ⟨ga, 2, none⟩ = some (.slice A1_2 l1_2.length c1_2)) (first | exact HS7.out | exact HS6.out | go_keep)
  (first
   | (go_at_call 46; (with_reducible refine (impl_texts.calls k A1_2 c1_2 l1_2 x _ ?side1 HC1.out HX.out).mono ?_); (case side1 => first | exact HR1.out | exact Kd.C_drew HR1.out | exact Kd.C_drewN HR1.out _); rintro e' w6 ⟨v6, rfl, hS6, hB6⟩; have hR6 := Kd.S_R hS6; obtain ⟨A6, c6, rfl⟩ := Kd.R_slice hR6; have hb6 : Below w3.heap.size w3 w6 := (by first | exact hB6 | exact below_step (below_drew (Below.refl _ _)) hB6 | exact below_step (pw_below_drewN (Below.refl _ _) _) hB6); have HB6 := zM hb6; have HS6 := zM (HQ.out.below hb6 HGA.out); have HX6 := zM hR6; clear hS6 hB6 hb6 hR6)
   | (go_at_call 53; (with_reducible refine (compact_NewRange.good _ a1_0 (m0 : Int) A6 x.length c6 _ HBE.out HSZ.out).mono ?_); rintro e' w7 ⟨g7, rfl, hg7, hR7, hB7⟩; have HX7 := zM (Kd.R_lower (by first | exact Kd.R_below HX6.out hB7 | exact Kd.R_below (Kd.R_drew HX6.out) hB7 | exact Kd.R_below (Kd.R_drewN HX6.out _) hB7) HW3.out : (Kd.slice 5 (Kd.int .u8)).R 27 w7 gw (fun _ => True) (.slice A6 x.length c6) x); have HB7 := zM (by first | exact below_step HB6.out hB7 | exact below_step (below_drew HB6.out) hB7 | exact below_step (pw_below_drewN HB6.out _) hB7 : Below w3.heap.size w3 w7); have HS7 := zM (HQ.out.below HB7.out HGA.out); have HR7 := zM hR7; have HG7 := zM (Nat.le_trans HW3.out (Nat.le_trans HB6.out.size (by first | exact hg7 | exact Nat.le_trans (Nat.le_refl _) hg7))); clear hB7 hR7 hg7))
 all_goals
  clear q0 q1 q2 HQ HS7 HS6 HX6 HGA
  have HW7 := zM (Nat.le_trans HW3.out HB7.out.size)
  have HR27 := zM (Kd.C_below HR2.out HB7.out)
  have HQ2 := zM (HeldR.of (blk_below HKB.out HB7.out))
  have HGC7 := zM (Nat.lt_of_lt_of_le HGC.out HB7.out.size)
  obtain ⟨q0, q1, q2⟩ := HQ2.out
  clear HB6 HKB HGC
  go_wp2
  go_region_held3 (fun w' => w'.cell? ⟨gc, 0, none⟩ = some (.int .u64 a2_0) ∧ w'.cell? ⟨gc, 1, none⟩ = some (.int .u64 a2_1) ∧ w'.cell? ⟨gc, 2, none⟩ = some (.slice A2_2 l2_2.length c2_2)) (first | exact HS9.out | exact HS8.out | go_keep)
   (first
    | (go_at_call 46; (with_reducible refine (impl_texts.calls k A2_2 c2_2 l2_2 y _ ?side1 HC2.out HY.out).mono ?_); (case side1 => first | exact HR27.out | exact Kd.C_drew HR27.out | exact Kd.C_drewN HR27.out _); rintro e' w8 ⟨v8, rfl, hS8, hB8⟩; have hR8 := Kd.S_R hS8; obtain ⟨A8, c8, rfl⟩ := Kd.R_slice hR8; have hb8 : Below w7.heap.size w7 w8 := (by first | exact hB8 | exact below_step (below_drew (Below.refl _ _)) hB8 | exact below_step (pw_below_drewN (Below.refl _ _) _) hB8); have HB8 := zM hb8; have HS8 := zM (HQ2.out.below hb8 HGC7.out); have HY8 := zM (show (Kd.slice 5 (Kd.int .u8)).R 27 w8 w7.heap.size (fun _ => True) (.slice A8 y.length c8) y from hR8); clear hS8 hB8 hb8 hR8)
    | (go_at_call 53; (with_reducible refine (compact_NewRange.good _ a2_0 a2_1 A8 y.length c8 _ HBE2.out HSZ2.out).mono ?_); rintro e' w9 ⟨g9, rfl, hg9, hR9, hB9⟩; have HY9 := zM (by first | exact Kd.R_below HY8.out hB9 | exact Kd.R_below (Kd.R_drew HY8.out) hB9 | exact Kd.R_below (Kd.R_drewN HY8.out _) hB9 : (Kd.slice 5 (Kd.int .u8)).R 27 w9 w7.heap.size (fun _ => True) (.slice A8 y.length c8) y); have HB9 := zM (by first | exact below_step HB8.out hB9 | exact below_step (below_drew HB8.out) hB9 | exact below_step (pw_below_drewN HB8.out _) hB9 : Below w7.heap.size w7 w9); have HS9 := zM (HQ2.out.below HB9.out HGC7.out); have HR9 := zM hR9; clear hB9 hR9 hg9))
  all_goals
   clear q0 q1 q2 HQ2 HS9 HS8 HY8 HGC7 HB8
   go_upto_region 9 with (((with_reducible refine gate_dst (N := 13) rfl ?_); refine bx 13 #[.slice none 0 0] 42 ?_; intro gb hgb w10 hbox hb; have HBX := zM hb; have HX10 := zM hbox; have HGB0 := zM (Nat.le_of_eq hgb.symm); clear hb hbox hgb))
   have HB10 := zM (show Below w7.heap.size w7 w10 from by first | exact HB9.out.trans (HBX.out.mono HB9.out.size))
   have HGB := zM (Nat.le_trans HW7.out (Nat.le_trans HB9.out.size HGB0.out))
   have HV10 := zM (show Vs w10 gw gb [] from ⟨.slice none 0 0, HX10.out, Kd.R_nil _ _ _ _ _⟩)
   have HG10 := zM (RgB.below HR7.out HB10.out)
   have HH10 := zM (RgB.below HR9.out HBX.out)
   have HX11 := zM (Kd.R_below HX7.out HB10.out)
   have HY10 := zM (Kd.R_mono (ok' := fun k_ => some k_ ≠ (Value.slice A6 x.length c6).ownBlock) (Kd.R_lower (Kd.R_new' (Kd.R_below HY9.out HBX.out) (Kd.R_lt HX7.out)) HW7.out) (fun _ h_ => h_.2))
   have HK210 := zM (blk_below (blk_below HK2.out HB7.out) HB10.out)
   have HK310 := zM (blk_below (blk_below HK3.out HB7.out) HB10.out)
   have HB := zM (show Below gw w w10 from (HB3.out.trans (HB7.out.mono HW3.out)).trans (HB10.out.mono HW7.out))
   unfold RgB at HG10 HH10
   go_wp2_with (go_at_call 61; (with_reducible refine (compact_Range_AppendRange.calls k a0_0 a0_1 a0_2 a0_3 a0_4 a0_5 gw g7 g9 gf gb _ _ a1_0 m0 (.slice A6 x.length c6) x a2_0 a2_1 (.slice A8 y.length c8) y [] m1 L1 vis1 _ ?s1 HG10.out HG7.out HH10.out HK310.out HFH.out ?s2 HV10.out ?s3 HX11.out HY10.out HFO.out).mono ?_); (case s1 => exact fun W hW => TabOK.below HT.out (by rw [HGW.out]; exact HB.out.trans hW)); (case s2 => exact vst_appendRange gw gb HGB.out); (case s3 => exact Nat.le_trans HW7.out HB10.out.size); rintro e' w11 ⟨rfl, v11, h1, h2, h3, h4, h5⟩; have K1 := zM h1; have K2 := zM h2; have K3 := zM h3; have K4 := zM h4; have K5 := zM h5; clear h1 h2 h3 h4 h5)
   have HKR := zM (blk_kept' K5.out HG10.out HX11.out HK210.out (by decide) (by decide) (by decide) (by decide))
   have HXL := K2
   have HB11 := zM (HB.out.trans K4.out)
   obtain ⟨vs, hvb, hvR⟩ := K3.out
   obtain ⟨Av, cv, rfl⟩ := Kd.R_slice hvR
   obtain ⟨AL, cL, rfl⟩ := Kd.R_slice HXL.out
   have HVB := zM hvb
   have HVR := zM hvR
   have qs : w11.cell? ⟨gb, 0, none⟩ = some (.slice Av vis1.length cv) := (blk_cell hvb 0).trans rfl
   have hgr := HKR.out
   have hne : ¬ gr = gb := blk_ne hgr hvb (by decide)
   have HNE := zM hne
   have HXC := zM (Kd.R_reads' HXL.out).2
   clear hvb hvR hgr
   go_region_held3 (fun w' => w'.cell? ⟨gb, 0, none⟩ = some (.slice Av vis1.length cv)) (first | exact HS7.out | exact qs | (exact cell_far (cell_far (cell_far HS7.out HNE.out) HNE.out) HNE.out) | go_keep)
    (first
     | (go_at_call 57; (with_reducible refine (impl_fromRange.calls k g7 (.pointer (some ⟨gf, 0, none⟩)) a1_0 m1 AL cL L1 z _ ?s1 ?s2 HXC.out.1 HZ.out).mono ?_); (case s1 => exact (show w11.drew.heap[g7]? = _ from K1.out)); (case s2 => exact Kd.C_drew HXC.out.2); rintro e' w7 ⟨v7, rfl, hS7, hB7⟩; obtain ⟨A7, c7, rfl⟩ := Kd.S_slice hS7; have hb7 := below_step (below_drew (Below.refl w11.heap.size w11)) hB7; have HB7 := zM hb7; have HR7 := zM hS7; have hk7 := blk_below HKR.out hb7; have HK7 := zM hk7; have HS7 := zM (show w7.cell? ⟨gb, 0, none⟩ = some (.slice Av vis1.length cv) from (blk_cell (blk_below HVB.out hb7) 0).trans rfl); have fz0 := blk_frozen hk7 0; have fz1 := blk_frozen hk7 1; have fz2 := blk_frozen hk7 2; have cl0 : w7.cell? ⟨gr, 0, none⟩ = some (.int .u64 0) := (blk_cell hk7 0).trans rfl; have cl1 : w7.cell? ⟨gr, 1, none⟩ = some (.int .u64 0) := (blk_cell hk7 1).trans rfl; have cl2 : w7.cell? ⟨gr, 2, none⟩ = some (.slice none 0 0) := (blk_cell hk7 2).trans rfl; clear hS7 hB7 hb7 hk7))
   all_goals
    go_wp2
    have b0 := blk_put HK7.out 0 (.int .u64 a1_0) rfl
    have b1 := blk_put b0 1 (.int .u64 m1) rfl
    have b2 := blk_put b1 2 (.slice A7 z.length c7) rfl
    refine bodyPost_ret (results_list (rs := [.cell 6 39, .tmp 7, .tmp 8]) rfl (by simp) (.cell gr 39 #[.int .u64 a1_0, .int .u64 m1, .slice A7 z.length c7] (0, 0) _ rfl b2 Tryd.underlying39 rfl (by kernel_rfl) (.tmp (.tmp .nil)))) rfl ?_
    have hgw := HGW.out
    subst hgw
    have hw11 : w.heap.size ≤ w11.heap.size := HB11.out.size
    exact ⟨_, _, rfl, Kd.S_lower (Kd.S_set (Kd.S_set (Kd.S_set HR7.out HK7.out (by decide) 0 _) b0 (by decide) 1 _) b1 (by decide) 2 _) hw11,
     Kd.R_set (Kd.R_set (Kd.R_set (Kd.R_below HVR.out HB7.out) HK7.out (by decide) 0 _) b0 (by decide) 1 _) b1 (by decide) 2 _,
     (((HB11.out.trans (HB7.out.mono hw11)).setCell HGR.out _).setCell HGR.out _).setCell HGR.out _⟩
def proof_VerifyInclusion.f (k : Nat) (a0_0 a0_1 a0_2 a0_3 a0_4 a0_5 : Int) (a1 a2 : Int) (l3 : List Int) (l4 : List (List Int)) (l5 : List Int) : Option (Int × List Int × List Int × List Int) :=
 (proof_RootFromInclusionProof.f k a0_0 a0_1 a0_2 a0_3 a0_4 a0_5 a1 a2 l3 l4).bind fun b => if b.2.isNone = true then ((bytes_Equal.f b.1 l5).bind fun t => if t = true then some (0, [], [], []) else some (1, [], l5, b.1)) else some (2, [], [], [])
theorem V_dummy (d : Kd Int) (e : Nat) (W : World) (base : Nat) (ok : Nat → Prop) (p : Option Addr) : Kd.V d e W base ok (.slice p 0 0) [] := ⟨p, 0, rfl, Nat.le_refl _, fun W' _ => ⟨rfl, by decide, fun h => absurd h (Nat.lt_irrefl _)⟩⟩
set_option maxRecDepth 100000 in
set_option maxHeartbeats 1000000 in
theorem proof_VerifyInclusion.calls (k : Nat) (a0_0 a0_1 a0_2 a0_3 a0_4 a0_5 : Int) (a1 a2 : Int) (P3_ : Nat → Prop) (A3 : Option Addr) (c3 : Nat) (l3 : List Int) (A4 : Option Addr) (c4 : Nat) (l4 : List (List Int)) (P5_ : Nat → Prop) (A5 : Option Addr) (c5 : Nat) (l5 : List Int) (r1 : Int) (r2 r3 r4 : List Int) (w : World)
  (hs3 : Kd.V (Kd.int .u8) 5 w w.heap.size (fun k_ => P3_ k_) (.slice A3 l3.length c3) l3) (hr4 : Kd.C (Kd.slice 5 (Kd.int .u8)) w A4 l4.length l4) (hc4 : l4.length ≤ c4) (hs5 : Kd.V (Kd.int .u8) 5 w w.heap.size (fun k_ => P5_ k_) (.slice A5 l5.length c5) l5) (h : proof_VerifyInclusion.f k a0_0 a0_1 a0_2 a0_3 a0_4 a0_5 a1 a2 l3 l4 l5 = some (r1, r2, r3, r4)) :
  Calls Tryd.prog 67 #[.iface 85 (.agg #[.int .i64 a0_0, .int .i64 a0_1, .int .i64 a0_2, .int .u64 a0_3, .int .u64 a0_4, .int .u64 a0_5]), .int .u64 a1, .int .u64 a2, .slice A3 l3.length c3, .slice A4 l4.length c4, .slice A5 l5.length c5] w fun e w' => ∃ v0_ v1_ v2_ : Value, e = .returned (errVc #[.int .i64 r1, v0_, v1_, v2_]) ∧ Kd.V (Kd.int .u8) 5 w' w.heap.size (fun k_ => ((P3_ k_ ∨ P5_ k_) ∨ w.heap.size ≤ k_)) v0_ r2 ∧ Kd.V (Kd.int .u8) 5 w' w.heap.size (fun k_ => ((P3_ k_ ∨ P5_ k_) ∨ w.heap.size ≤ k_)) v1_ r3 ∧ Kd.V (Kd.int .u8) 5 w' w.heap.size (fun k_ => ((P3_ k_ ∨ P5_ k_) ∨ w.heap.size ≤ k_)) v2_ r4 ∧ Below w.heap.size w w' := by
 obtain ⟨⟨r, x⟩, hb, h⟩ := Option.bind_eq_some_iff.mp h
 have HS3 := zM hs3
 have HR4 := zM hr4
 have HC4 := zM hc4
 have HS5 := zM hs5
 have HBB := zM hb
 clear hs3 hr4 hc4 hs5 hb
 cases x with
 | some q =>
  simp only [Option.isNone_some, Bool.false_eq_true, if_false, Option.some.injEq, Prod.mk.injEq] at h
  obtain ⟨rfl, rfl, rfl, rfl⟩ := h
  go_enter Tryd.func67, Tryd.ntmps67
  go_wp2_with (go_at_call 100; (with_reducible refine (proof_RootFromInclusionProof.calls k a0_0 a0_1 a0_2 a0_3 a0_4 a0_5 a1 a2 P3_ _ _ l3 _ _ l4 r (some q) _ HS3.out HR4.out HC4.out HBB.out).mono ?_); rintro e w1 ⟨T_, X_, v, rfl, ho, hB⟩; have HO := zM ho; have HB := zM hB; clear ho hB; simp only [errW_some])
  go_ret
  exact ⟨.slice (ptrOf (X_ q)) 0 0, .slice none 0 0, .slice none 0 0, rfl, V_dummy _ _ _ _ _ _, V_dummy _ _ _ _ _ _, V_dummy _ _ _ _ _ _, HB.out⟩
 | none =>
  simp only [Option.isNone_none, if_true] at h
  obtain ⟨t, ht, h⟩ := Option.bind_eq_some_iff.mp h
  have HTE := zM ht
  clear ht
  cases t with
  | true =>
   simp only [if_true, Option.some.injEq, Prod.mk.injEq] at h
   obtain ⟨rfl, rfl, rfl, rfl⟩ := h
   go_enter Tryd.func67, Tryd.ntmps67
   go_wp2_with (first | (go_at_call 100; (with_reducible refine (proof_RootFromInclusionProof.calls k a0_0 a0_1 a0_2 a0_3 a0_4 a0_5 a1 a2 P3_ _ _ l3 _ _ l4 r none _ HS3.out HR4.out HC4.out HBB.out).mono ?_); rintro e w1 ⟨T_, X_, v, rfl, ho, hB⟩; obtain ⟨Ao, co, rfl⟩ := Kd.V_slice ho; have HO := zM ho; have HB := zM hB; clear ho hB; simp only [errW_none]) | (go_at_call 81; (with_reducible refine (proof_verifyMatch.same _ _ r _ _ l5 _ (Kd.V_reads' HO.out).2.2 (Kd.V_reads' HO.out).2.1 (Kd.V_reads' (Kd.V_below HS5.out HB.out)).2.2 (Kd.V_reads' HS5.out).2.1 HTE.out).mono ?_); rintro e w2 ⟨rfl, hB2⟩; have HB2 := zM (below_step HB.out hB2); clear hB2))
   go_ret
   exact ⟨.slice none 0 0, .slice none 0 0, .slice none 0 0, rfl, V_dummy _ _ _ _ _ _, V_dummy _ _ _ _ _ _, V_dummy _ _ _ _ _ _, HB2.out⟩
  | false =>
   simp only [Bool.false_eq_true, if_false, Option.some.injEq, Prod.mk.injEq] at h
   obtain ⟨rfl, rfl, rfl, rfl⟩ := h
   go_enter Tryd.func67, Tryd.ntmps67
   go_wp2_with (first | (go_at_call 100; (with_reducible refine (proof_RootFromInclusionProof.calls k a0_0 a0_1 a0_2 a0_3 a0_4 a0_5 a1 a2 P3_ _ _ l3 _ _ l4 r none _ HS3.out HR4.out HC4.out HBB.out).mono ?_); rintro e w1 ⟨T_, X_, v, rfl, ho, hB⟩; obtain ⟨Ao, co, rfl⟩ := Kd.V_slice ho; have HO := zM ho; have HB := zM hB; clear ho hB; simp only [errW_none]) | (go_at_call 81; (with_reducible refine (proof_verifyMatch.diff _ _ r _ _ l5 _ (Kd.V_reads' HO.out).2.2 (Kd.V_reads' HO.out).2.1 (Kd.V_reads' (Kd.V_below HS5.out HB.out)).2.2 (Kd.V_reads' HS5.out).2.1 HTE.out).mono ?_); rintro e w2 ⟨rfl, hB2⟩; have HBL := zM hB2; have HB2 := zM (below_step HB.out hB2); clear hB2))
   go_ret
   exact ⟨.slice none 0 0, .slice A5 l5.length c5, .slice Ao r.length co, rfl, V_dummy _ _ _ _ _ _, Kd.V_mono (Kd.V_below HS5.out HB2.out) (fun k_ h_ => .inl (.inr h_)), Kd.V_mono (Kd.V_below HO.out HBL.out) (fun k_ h_ => Or.elim h_ (fun h_ => .inl (.inl h_)) .inr), HB2.out⟩
def impl_VerifyInclusion.f (k : Nat) (a0_0 : Int) (a0_1 : Int) (a0_2 : Int) (a0_3 : Int) (a0_4 : Int) (a0_5 : Int) (a1 : Int) (a2 : Int) (l3 : List Int) (l4 : List (List Int)) (l5 : List Int) : Option (Int × List Int) := (some (([] : List Int) : List Int)).bind fun y215 => (if y215.length + l3.length < 140737488355328 then ((impl_texts.f k l4).bind fun t221 => ((some (([] : List Int) : List Int)).bind fun y224 => (if y224.length + l5.length < 140737488355328 then ((proof_VerifyInclusion.f k a0_0 a0_1 a0_2 a0_3 a0_4 a0_5 a1 a2 (y215 ++ l3) t221 (y224 ++ l5)).bind fun bt230 => ((impl_verdict.f k bt230.1 bt230.2.1 bt230.2.2.1 bt230.2.2.2).bind fun bt240 => (some (bt240.1, bt240.2)))) else (none)))) else (none))
def impl_VerifyInclusion.T1 : Bool × List (List Nat × List Nat) := (true, [([], []), ([0], [0]), ([1], [1]), ([], []), ([], []), ([], []), ([], []), ([5, 6], [5, 6]), ([], []), ([8, 7], [8]), ([], []), ([], []), ([10, 11, 9], [10, 11]), ([2, 3, 4, 7, 9, 12, 12], [2, 3, 4, 7, 9, 12]), ([13, 13], [13]), ([14], [14]), ([14], [14]), ([15, 14, 0, 1, 2, 3, 4, 5, 6, 7, 8, 9, 10, 11, 12, 13, 14, 15, 16], [15]), ([16, 17, 0, 1, 2, 3, 4, 5, 6, 7, 8, 9, 10, 11, 12, 13, 14, 15, 16, 17], [16])])
def impl_VerifyInclusion.B1 : List Nat := [0, 1, 3, 0, 0, 0, 0, 96, 0, 480, 0, 0, 4064, 8191, 16383, 32767, 32767, 131071, 262143]
theorem impl_VerifyInclusion.tab1 : rtab .any (opsOf Tryd.f32 1) = impl_VerifyInclusion.T1 := by kernel_rfl
theorem impl_VerifyInclusion.bits1 : waitsOk impl_VerifyInclusion.T1.2 impl_VerifyInclusion.B1 = true := by kernel_rfl
set_option maxHeartbeats 8000000 in
set_option maxRecDepth 100000 in
theorem impl_VerifyInclusion.calls (k : Nat) (a0_0 : Int) (a0_1 : Int) (a0_2 : Int) (a0_3 : Int) (a0_4 : Int) (a0_5 : Int) (a1 : Int) (a2 : Int) (A3 : Option Addr) (c3 : Nat) (l3 : List Int) (A4 : Option Addr) (c4 : Nat) (l4 : List (List Int)) (A5 : Option Addr) (c5 : Nat) (l5 : List Int) (r1 : Int) (r2 : List Int) (w : World) (hr3 : Kd.C (Kd.int .u8) w A3 l3.length l3) (hc3 : l3.length ≤ c3) (hr4 : Kd.C (Kd.slice 5 (Kd.int .u8)) w A4 l4.length l4) (hc4 : l4.length ≤ c4) (hr5 : Kd.C (Kd.int .u8) w A5 l5.length l5) (hc5 : l5.length ≤ c5) (h : impl_VerifyInclusion.f k a0_0 a0_1 a0_2 a0_3 a0_4 a0_5 a1 a2 l3 l4 l5 = some (r1, r2)) :
  Calls Tryd.prog 32 #[.agg #[.int .i64 a0_0, .int .i64 a0_1, .int .i64 a0_2, .int .u64 a0_3, .int .u64 a0_4, .int .u64 a0_5], .int .u64 a1, .int .u64 a2, .slice A3 l3.length c3, .slice A4 l4.length c4, .slice A5 l5.length c5] w fun e w' => ∃ v1_ : Value, e = .returned (.tuple #[.int .i64 r1, v1_]) ∧ Kd.R (Kd.int .u8) 5 w' w.heap.size (fun _ => True) v1_ r2 ∧ Below w.heap.size w w' := by
 have hu24 := Tryd.underlying24
 have hu85 := Tryd.underlying85
 have HR3 := zM hr3
 have HC3 := zM hc3
 clear hr3 hc3
 have HR4 := zM hr4
 have HC4 := zM hc4
 clear hr4 hc4
 have HR5 := zM hr5
 have HC5 := zM hc5
 clear hr5 hc5
 have HB := zM (Below.refl w.heap.size w)
 have H : ((some (([] : List Int) : List Int)).bind fun y215 => (if y215.length + l3.length < 140737488355328 then ((impl_texts.f k l4).bind fun t221 => ((some (([] : List Int) : List Int)).bind fun y224 => (if y224.length + l5.length < 140737488355328 then ((proof_VerifyInclusion.f k a0_0 a0_1 a0_2 a0_3 a0_4 a0_5 a1 a2 (y215 ++ l3) t221 (y224 ++ l5)).bind fun bt230 => ((impl_verdict.f k bt230.1 bt230.2.1 bt230.2.2.1 bt230.2.2.2).bind fun bt240 => (some (bt240.1, bt240.2)))) else (none)))) else (none))) = some (r1, r2) := h
 clear h
 obtain ⟨y215, hy215⟩ : ∃ y_ : List Int, y_ = (([] : List Int)) := ⟨_, rfl⟩
 replace H : (if y215.length + l3.length < 140737488355328 then ((impl_texts.f k l4).bind fun t221 => ((some (([] : List Int) : List Int)).bind fun y224 => (if y224.length + l5.length < 140737488355328 then ((proof_VerifyInclusion.f k a0_0 a0_1 a0_2 a0_3 a0_4 a0_5 a1 a2 (y215 ++ l3) t221 (y224 ++ l5)).bind fun bt230 => ((impl_verdict.f k bt230.1 bt230.2.1 bt230.2.2.1 bt230.2.2.2).bind fun bt240 => (some (bt240.1, bt240.2)))) else (none)))) else (none)) = some (r1, r2) := by first | (rw [hy215]; with_reducible exact H) | (have H := (Option.bind_some _ _).symm.trans H; first | (rw [hy215]; with_reducible exact H) | with_reducible exact H) | (rw [hy215]; exact H) | exact H
 have Ny215 := zM hy215
 clear hy215
 by_cases c7 : y215.length + l3.length < 140737488355328
 ·rw [if_pos c7] at H
  have LMc7 := zM c7
  clear c7
  obtain ⟨y218, hy218⟩ : ∃ y_ : List Int, y_ = (y215 ++ l3) := ⟨_, rfl⟩
  replace H : ((impl_texts.f k l4).bind fun t221 => ((some (([] : List Int) : List Int)).bind fun y224 => (if y224.length + l5.length < 140737488355328 then ((proof_VerifyInclusion.f k a0_0 a0_1 a0_2 a0_3 a0_4 a0_5 a1 a2 y218 t221 (y224 ++ l5)).bind fun bt230 => ((impl_verdict.f k bt230.1 bt230.2.1 bt230.2.2.1 bt230.2.2.2).bind fun bt240 => (some (bt240.1, bt240.2)))) else (none)))) = some (r1, r2) := by first | (rw [hy218]; with_reducible exact H) | (have H := (Option.bind_some _ _).symm.trans H; first | (rw [hy218]; with_reducible exact H) | with_reducible exact H) | (rw [hy218]; exact H) | exact H
  have Ny218 := zM hy218
  clear hy218
  replace H := Option.bind_eq_some_iff.mp H
  obtain ⟨t221, A80, H⟩ := H
  (try dsimp only at H)
  have A8 := zM A80
  clear A80
  obtain ⟨y224, hy224⟩ : ∃ y_ : List Int, y_ = (([] : List Int)) := ⟨_, rfl⟩
  replace H : (if y224.length + l5.length < 140737488355328 then ((proof_VerifyInclusion.f k a0_0 a0_1 a0_2 a0_3 a0_4 a0_5 a1 a2 y218 t221 (y224 ++ l5)).bind fun bt230 => ((impl_verdict.f k bt230.1 bt230.2.1 bt230.2.2.1 bt230.2.2.2).bind fun bt240 => (some (bt240.1, bt240.2)))) else (none)) = some (r1, r2) := by first | (rw [hy224]; with_reducible exact H) | (have H := (Option.bind_some _ _).symm.trans H; first | (rw [hy224]; with_reducible exact H) | with_reducible exact H) | (rw [hy224]; exact H) | exact H
  have Ny224 := zM hy224
  clear hy224
  by_cases c9 : y224.length + l5.length < 140737488355328
  ·rw [if_pos c9] at H
   have LMc9 := zM c9
   clear c9
   obtain ⟨y227, hy227⟩ : ∃ y_ : List Int, y_ = (y224 ++ l5) := ⟨_, rfl⟩
   replace H : ((proof_VerifyInclusion.f k a0_0 a0_1 a0_2 a0_3 a0_4 a0_5 a1 a2 y218 t221 y227).bind fun bt230 => ((impl_verdict.f k bt230.1 bt230.2.1 bt230.2.2.1 bt230.2.2.2).bind fun bt240 => (some (bt240.1, bt240.2)))) = some (r1, r2) := by first | (rw [hy227]; with_reducible exact H) | (have H := (Option.bind_some _ _).symm.trans H; first | (rw [hy227]; with_reducible exact H) | with_reducible exact H) | (rw [hy227]; exact H) | exact H
   have Ny227 := zM hy227
   clear hy227
   replace H := Option.bind_eq_some_iff.mp H
   obtain ⟨⟨t230, t231, t234, t237⟩, A100, H⟩ := H
   (try dsimp only at H)
   have A10 := zM A100
   clear A100
   replace H := Option.bind_eq_some_iff.mp H
   obtain ⟨⟨t240, t241⟩, A110, H⟩ := H
   (try dsimp only at H)
   have A11 := zM A110
   clear A110
   simp only [Option.some.injEq, Prod.mk.injEq] at H
   obtain ⟨rfl, rfl⟩ := H
   go_enter Tryd.func32, Tryd.ntmps32
   try go_wp2_with (first | ((with_reducible refine gate_dst (N := 6) rfl ?_); refine bx 6 #[.int .i64 a0_0, .int .i64 a0_1, .int .i64 a0_2, .int .u64 a0_3, .int .u64 a0_4, .int .u64 a0_5] 24 ?_; intro gb214 hg w12 hbox hb; have BK214 := zM (hbox); have GW214 := zM ((gB hg : w.heap.size ≤ gb214)); have GE214 := zM ((gB hg : w.heap.size ≤ gb214)); replace HB := zM (below_step bB hb); clear hb hbox hg))
   replace BK214 := zM (blk_drew BK214.out)
   replace HB := zM (below_drew1 HB.out)
   refine start_ (n := 19) (S := fun w' => C6 w' gb214 (.int .i64 a0_0) (.int .i64 a0_1) (.int .i64 a0_2) (.int .u64 a0_3) (.int .u64 a0_4) (.int .u64 a0_5)) (ds := []) #[ff,ff,ff,ff,ff,ff,ff,ff,ff,ff,ff,ff,ff,ff,ff,ff,ff,ff,ff] (by kernel_rfl) rfl rfl (h6 BK214) (fun hHeld => ?_); refine with_tabW impl_VerifyInclusion.tab1 impl_VerifyInclusion.bits1 (fun HT_ HW_ => ?_)
   generalize w12.drew = w13 at BK214 HB hHeld ⊢
   refine pA 3 (some 17) #[ff,ff,ff,tt,ff,ff,ff,ff,ff,ff,ff,ff,ff,ff,ff,ff,ff,ff,ff] HT_ ?_
   refine pA 4 (some 18) #[ff,ff,ff,tt,tt,ff,ff,ff,ff,ff,ff,ff,ff,ff,ff,ff,ff,ff,ff] HT_ ?_
   refine pA 6 (some 20) #[ff,ff,ff,tt,tt,ff,tt,ff,ff,ff,ff,ff,ff,ff,ff,ff,ff,ff,ff] HT_ ?_
   refine pA 8 (some 22) #[ff,ff,ff,tt,tt,ff,tt,ff,tt,ff,ff,ff,ff,ff,ff,ff,ff,ff,ff] HT_ ?_
   refine pA 11 (some 25) #[ff,ff,ff,tt,tt,ff,tt,ff,tt,ff,ff,tt,ff,ff,ff,ff,ff,ff,ff] HT_ ?_
   refine tA 0 (some 14) #[tt,ff,ff,tt,tt,ff,tt,ff,tt,ff,ff,tt,ff,ff,ff,ff,ff,ff,ff] rfl rfl HT_ HW_ hHeld (by rintro w' ⟨s0, s1, s2, s3, s4, s5⟩; go_simp; with_reducible rfl) ?_
   refine pA 1 (some 15) #[tt,tt,ff,tt,tt,ff,tt,ff,tt,ff,ff,tt,ff,ff,ff,ff,ff,ff,ff] HT_ ?_
   refine pA 2 (some 16) #[tt,tt,tt,tt,tt,ff,tt,ff,tt,ff,ff,tt,ff,ff,ff,ff,ff,ff,ff] HT_ ?_
   refine join_ (σ := Value × Value × Value × Value) 7 #[tt,tt,tt,tt,tt,tt,tt,tt,tt,tt,tt,tt,ff,ff,ff,ff,ff,ff,ff] (fun s_ => [(19, s_.1), (21, s_.2.1), (23, s_.2.2.1), (24, s_.2.2.2)]) (fun s_ w' => (C6 w' gb214 (.int .i64 a0_0) (.int .i64 a0_1) (.int .i64 a0_2) (.int .u64 a0_3) (.int .u64 a0_4) (.int .u64 a0_5)) ∧ (Kd.R (Kd.int .u8) 5 w' w.heap.size (fun k_ => some k_ ≠ (s_.2.2.2 : Value).ownBlock) s_.2.1 y218) ∧ (Kd.S (Kd.slice 5 (Kd.int .u8)) 27 w' w.heap.size (fun k_ => some k_ ≠ (s_.2.1 : Value).ownBlock ∧ some k_ ≠ (s_.2.2.2 : Value).ownBlock) s_.2.2.1 t221) ∧ (Kd.R (Kd.int .u8) 5 w' w.heap.size (fun k_ => some k_ ≠ (s_.2.1 : Value).ownBlock) s_.2.2.2 y224) ∧ (w'.heap[gb214]? = some (.cells #[.int .i64 a0_0, .int .i64 a0_1, .int .i64 a0_2, .int .u64 a0_3, .int .u64 a0_4, .int .u64 a0_5] 24 (0, 0))) ∧ (Below w.heap.size w w')) ?_ ?_
   rotate_left
   ·intro hCont
    refine two_ (i := 5) (j := 10) (Ni := some 19) (Nj := some 24) #[tt,tt,tt,tt,tt,tt,tt,ff,tt,ff,ff,tt,ff,ff,ff,ff,ff,ff,ff] #[tt,tt,tt,tt,tt,ff,tt,ff,tt,ff,tt,tt,ff,ff,ff,ff,ff,ff,ff] rfl rfl rfl rfl (two_of HT_.out (by kernel_rfl)) (by decide) (by decide) (fun K hK => ?_) (fun K hK => ?_)
    ·skip
     refine Kd.R_lit_step (Kd.int .u8) _ 5 ?hg (N := 19) ?hd (xs := ([] : List Int)) (inner := []) (ok := fun _ => True) (okp := fun _ => True) ?hr ?hp (fun _ hk => hk) trivial (Below.refl _ _) (Nat.le_refl _) (by simp) ?_; (case hd => rfl); (case hg => rfl); (case hr => first | (go_simp; done) | (go_simp; rfl)); (case hp => exact (Reps.none _ _))
     intro v216 w14 ho15 hb hg_ hnew_
     clear hg_ hnew_
     (first | rw [← Ny215.out] at ho15 | (simp only [Int.reduceToNat] at ho15; rw [← Ny215.out] at ho15))
     have HO217 := zM (Kd.R_lower ho15 (below_size bB))
     replace BK214 := zM (bK BK214 hb)
     replace HB := zM (below_step bB hb)
     clear hb ho15
     refine hK.out _ _ (h6 BK214) (fun hHeld => ?_)
     clear hK K
     refine nS ?_
     refine two_ (i := 7) (j := 10) (Ni := some 21) (Nj := some 24) #[tt,tt,tt,tt,tt,tt,tt,tt,tt,ff,ff,tt,ff,ff,ff,ff,ff,ff,ff] #[tt,tt,tt,tt,tt,tt,tt,ff,tt,ff,tt,tt,ff,ff,ff,ff,ff,ff,ff] rfl rfl rfl rfl (two_of HT_.out (by kernel_rfl)) (by decide) (by decide) (fun K hK => ?_) (fun K hK => ?_)
     ·skip
      refine Kd.R_append_rows_step (Kd.int .u8) (w0 := w) w.heap.size (by rfl) (.tmp 19) (.tmp 20) 27 5 (.int .u8 0) 1 rfl Tryd.underlying27 info5 rfl (by decide) (by omega) v216 y215 l3 _ _ _ (fun _ => True) (fun _ => False) rfl rfl ?aO ?aR (fun _ _ h => h) (fun _ h => h.elim) ?aF ?aB ?aS ?aL ?_
      (case aR => repeat (first | exact (Kd.C_below HR3.out HB.out) | (with_reducible refine Kd.C_alloc ?_ _) | (with_reducible refine Kd.C_drewN ?_ _) | (with_reducible refine Kd.C_drew ?_)))
      (case aB => exact bB)
      (case aF => exact (fun _ _ => trivial))
      (case aO => exact (kR HO217.out))
      (case aS => exact (below_size bB))
      (case aL => have := LMc7.out; omega)
      intro v219 w16 ho hb hg hat
      rw [← Ny218.out] at ho
      replace BK214 := zM (blk_grown (g := gb214) (o := .cells #[.int .i64 a0_0, .int .i64 a0_1, .int .i64 a0_2, .int .u64 a0_3, .int .u64 a0_4, .int .u64 a0_5] 24 (0, 0)) (kB BK214.out) hg (Kd.R_ne HO217.out BK214.out (by decide)))
      replace HB := zM (hb)
      have HO220 := zM (ho)
      clear HO217
      clear ho hb hg hat
      refine hK.out _ _ (h6 BK214) (fun hHeld => ?_)
      clear hK K
      refine nS ?_
      refine two_ (i := 9) (j := 10) (Ni := some 23) (Nj := some 24) #[tt,tt,tt,tt,tt,tt,tt,tt,tt,tt,ff,tt,ff,ff,ff,ff,ff,ff,ff] #[tt,tt,tt,tt,tt,tt,tt,tt,tt,ff,tt,tt,ff,ff,ff,ff,ff,ff,ff] rfl rfl rfl rfl (two_of HT_.out (by kernel_rfl)) (by decide) (by decide) (fun K hK => ?_) (fun K hK => ?_)
      ·skip
       refine goes_ Tryd.func46 (by kernel_rfl) rfl #[.slice A4 l4.length c4] (by rfl) rfl rfl aV ?_
       with_reducible refine (impl_texts.calls k _ _ l4 t221 _ ?side1 ?side2 A8.out).mono ?_
       (case side1 => repeat (first | exact (Kd.C_below HR4.out HB.out) | (with_reducible refine Kd.C_alloc ?_ _) | (with_reducible refine Kd.C_drewN ?_ _) | (with_reducible refine Kd.C_drew ?_)))
       (case side2 => exact HC4.out)
       rintro e w17 ⟨v222, rfl, ho0, hb⟩
       refine ⟨_, rfl, ?_⟩
       have HO223 := zM (Kd.S_lower (Kd.S_new' ho0 (Kd.R_lt (kR HO220.out))) (below_size bB))
       replace HO220 := zM (Kd.R_below (kR HO220.out) hb)
       replace BK214 := zM (bK BK214 hb)
       replace HB := zM (below_step bB hb)
       refine hK.out _ _ (h6 BK214) (fun hHeld => ?_)
       clear hK K
       refine nS ?_
       refine one_ (i := 10) (N := some 24) #[tt,tt,tt,tt,tt,tt,tt,tt,tt,tt,tt,tt,ff,ff,ff,ff,ff,ff,ff] rfl rfl (one_of HT_.out (by kernel_rfl)) (by decide) (fun K hK => ?_)
       refine Kd.R_lit_step (Kd.int .u8) _ 5 ?hg (N := 24) ?hd (xs := ([] : List Int)) (inner := []) (ok := fun _ => True) (okp := fun _ => True) ?hr ?hp (fun _ hk => hk) trivial (Below.refl _ _) (Nat.le_refl _) (by simp) ?_; (case hd => rfl); (case hg => rfl); (case hr => first | (go_simp; done) | (go_simp; rfl)); (case hp => exact (Reps.none _ _))
       intro v225 w18 ho19 hb hg_ hnew_
       clear hg_ hnew_
       (first | rw [← Ny224.out] at ho19 | (simp only [Int.reduceToNat] at ho19; rw [← Ny224.out] at ho19))
       replace HO223 := zM (Kd.S_elder' (by refine vS ?_; exact HO223.out) (Kd.R_base ho19) hb)
       have HO226 := zM (Kd.R_lower (Kd.R_new' ho19 (Kd.R_lt (kR HO220.out))) (below_size bB))
       replace HO220 := zM (Kd.R_elder' (kR HO220.out) (Kd.R_base ho19) hb)
       replace BK214 := zM (bK BK214 hb)
       replace HB := zM (below_step bB hb)
       clear hb ho19
       refine hK.out _ _ (h6 BK214) (fun hHeld => ?_)
       clear hK K
       refine nS ?_
       exact norm_ (by simp only [putAll, Act.put, List.setIfInBounds_toArray, List.set_cons_zero, List.set_cons_succ]) (hCont (v216, v219, v222, v225) _ ⟨hHeld, (by refine vR ?_; exact Kd.R_mono HO220.out (fun _ hk => hk.2)), (by refine vS ?_; exact Kd.S_mono HO223.out (fun _ hk => ⟨hk.1.2, hk.2⟩)), (by refine vR ?_; exact Kd.R_mono HO226.out (fun _ hk => hk.2)), (kB BK214.out), bB⟩)
      ·skip
       refine Kd.R_lit_step (Kd.int .u8) _ 5 ?hg (N := 24) ?hd (xs := ([] : List Int)) (inner := []) (ok := fun _ => True) (okp := fun _ => True) ?hr ?hp (fun _ hk => hk) trivial (Below.refl _ _) (Nat.le_refl _) (by simp) ?_; (case hd => rfl); (case hg => rfl); (case hr => first | (go_simp; done) | (go_simp; rfl)); (case hp => exact (Reps.none _ _))
       intro v225 w17 ho18 hb hg_ hnew_
       clear hg_ hnew_
       (first | rw [← Ny224.out] at ho18 | (simp only [Int.reduceToNat] at ho18; rw [← Ny224.out] at ho18))
       have HO226 := zM (Kd.R_lower (Kd.R_new' ho18 (Kd.R_lt (kR HO220.out))) (below_size bB))
       replace HO220 := zM (Kd.R_elder' (kR HO220.out) (Kd.R_base ho18) hb)
       replace BK214 := zM (bK BK214 hb)
       replace HB := zM (below_step bB hb)
       clear hb ho18
       refine hK.out _ _ (h6 BK214) (fun hHeld => ?_)
       clear hK K
       refine nS ?_
       refine one_ (i := 9) (N := some 23) #[tt,tt,tt,tt,tt,tt,tt,tt,tt,tt,tt,tt,ff,ff,ff,ff,ff,ff,ff] rfl rfl (one_of HT_.out (by kernel_rfl)) (by decide) (fun K hK => ?_)
       refine goes_ Tryd.func46 (by kernel_rfl) rfl #[.slice A4 l4.length c4] (by rfl) rfl rfl aV ?_
       with_reducible refine (impl_texts.calls k _ _ l4 t221 _ ?side1 ?side2 A8.out).mono ?_
       (case side1 => repeat (first | exact (Kd.C_below HR4.out HB.out) | (with_reducible refine Kd.C_alloc ?_ _) | (with_reducible refine Kd.C_drewN ?_ _) | (with_reducible refine Kd.C_drew ?_)))
       (case side2 => exact HC4.out)
       rintro e w19 ⟨v222, rfl, ho0, hb⟩
       refine ⟨_, rfl, ?_⟩
       have HO223 := zM (Kd.S_lower (Kd.S_new' (Kd.S_new' ho0 (Kd.R_lt (kR HO220.out))) (Kd.R_lt (kR HO226.out))) (below_size bB))
       replace HO220 := zM (Kd.R_below (kR HO220.out) hb)
       replace HO226 := zM (Kd.R_below (kR HO226.out) hb)
       replace BK214 := zM (bK BK214 hb)
       replace HB := zM (below_step bB hb)
       refine hK.out _ _ (h6 BK214) (fun hHeld => ?_)
       clear hK K
       refine nS ?_
       exact norm_ (by simp only [putAll, Act.put, List.setIfInBounds_toArray, List.set_cons_zero, List.set_cons_succ]) (hCont (v216, v219, v222, v225) _ ⟨hHeld, (by refine vR ?_; exact Kd.R_mono HO220.out (fun _ hk => hk.2)), (by refine vS ?_; exact Kd.S_mono HO223.out (fun _ hk => ⟨hk.1.2, hk.2⟩)), (by refine vR ?_; exact Kd.R_mono HO226.out (fun _ hk => hk.2)), (kB BK214.out), bB⟩)
     ·skip
      refine Kd.R_lit_step (Kd.int .u8) _ 5 ?hg (N := 24) ?hd (xs := ([] : List Int)) (inner := []) (ok := fun _ => True) (okp := fun _ => True) ?hr ?hp (fun _ hk => hk) trivial (Below.refl _ _) (Nat.le_refl _) (by simp) ?_; (case hd => rfl); (case hg => rfl); (case hr => first | (go_simp; done) | (go_simp; rfl)); (case hp => exact (Reps.none _ _))
      intro v225 w16 ho17 hb hg_ hnew_
      clear hg_ hnew_
      (first | rw [← Ny224.out] at ho17 | (simp only [Int.reduceToNat] at ho17; rw [← Ny224.out] at ho17))
      have HO226 := zM (Kd.R_lower (Kd.R_new' ho17 (Kd.R_lt (kR HO217.out))) (below_size bB))
      replace HO217 := zM (Kd.R_elder' (kR HO217.out) (Kd.R_base ho17) hb)
      replace BK214 := zM (bK BK214 hb)
      replace HB := zM (below_step bB hb)
      clear hb ho17
      refine hK.out _ _ (h6 BK214) (fun hHeld => ?_)
      clear hK K
      refine nS ?_
      refine one_ (i := 7) (N := some 21) #[tt,tt,tt,tt,tt,tt,tt,tt,tt,ff,tt,tt,ff,ff,ff,ff,ff,ff,ff] rfl rfl (one_of HT_.out (by kernel_rfl)) (by decide) (fun K hK => ?_)
      refine Kd.R_append_rows_step (Kd.int .u8) (w0 := w) w.heap.size (by rfl) (.tmp 19) (.tmp 20) 27 5 (.int .u8 0) 1 rfl Tryd.underlying27 info5 rfl (by decide) (by omega) v216 y215 l3 _ _ _ (fun k_ => some k_ ≠ (v225 : Value).ownBlock) (fun _ => False) rfl rfl ?aO ?aR (fun _ _ h => h) (fun _ h => h.elim) ?aF ?aB ?aS ?aL ?_
      (case aR => repeat (first | exact (Kd.C_below HR3.out HB.out) | (with_reducible refine Kd.C_alloc ?_ _) | (with_reducible refine Kd.C_drewN ?_ _) | (with_reducible refine Kd.C_drew ?_)))
      (case aB => exact bB)
      (case aF => exact (fun k_ hk => Kd.fresh' (Kd.R_lt (kR HO226.out)) k_ hk))
      (case aO => exact (by refine vR ?_; exact Kd.R_mono HO217.out (fun _ hk => hk.2)))
      (case aS => exact (below_size bB))
      (case aL => have := LMc7.out; omega)
      intro v219 w18 ho hb hg hat
      rw [← Ny218.out] at ho
      replace BK214 := zM (blk_grown (g := gb214) (o := .cells #[.int .i64 a0_0, .int .i64 a0_1, .int .i64 a0_2, .int .u64 a0_3, .int .u64 a0_4, .int .u64 a0_5] 24 (0, 0)) (kB BK214.out) hg (Kd.R_ne HO217.out BK214.out (by decide)))
      replace HO226 := zM (Kd.R_after (ok := (fun _ => True)) (kR HO226.out) hg hat)
      replace HB := zM (hb)
      have HO220 := zM (ho)
      clear HO217
      clear ho hb hg hat
      refine hK.out _ _ (h6 BK214) (fun hHeld => ?_)
      clear hK K
      refine nS ?_
      refine one_ (i := 9) (N := some 23) #[tt,tt,tt,tt,tt,tt,tt,tt,tt,tt,tt,tt,ff,ff,ff,ff,ff,ff,ff] rfl rfl (one_of HT_.out (by kernel_rfl)) (by decide) (fun K hK => ?_)
      refine goes_ Tryd.func46 (by kernel_rfl) rfl #[.slice A4 l4.length c4] (by rfl) rfl rfl aV ?_
      with_reducible refine (impl_texts.calls k _ _ l4 t221 _ ?side1 ?side2 A8.out).mono ?_
      (case side1 => repeat (first | exact (Kd.C_below HR4.out HB.out) | (with_reducible refine Kd.C_alloc ?_ _) | (with_reducible refine Kd.C_drewN ?_ _) | (with_reducible refine Kd.C_drew ?_)))
      (case side2 => exact HC4.out)
      rintro e w19 ⟨v222, rfl, ho0, hb⟩
      refine ⟨_, rfl, ?_⟩
      have HO223 := zM (Kd.S_lower (Kd.S_new' (Kd.S_new' ho0 (Kd.R_lt (kR HO226.out))) (Kd.R_lt (kR HO220.out))) (below_size bB))
      replace HO226 := zM (Kd.R_below (kR HO226.out) hb)
      replace HO220 := zM (Kd.R_below (kR HO220.out) hb)
      replace BK214 := zM (bK BK214 hb)
      replace HB := zM (below_step bB hb)
      refine hK.out _ _ (h6 BK214) (fun hHeld => ?_)
      clear hK K
      refine nS ?_
      exact norm_ (by simp only [putAll, Act.put, List.setIfInBounds_toArray, List.set_cons_zero, List.set_cons_succ]) (hCont (v216, v219, v222, v225) _ ⟨hHeld, (kR HO220.out), (by refine vS ?_; exact Kd.S_mono HO223.out (fun _ hk => ⟨hk.2, hk.1.2⟩)), (by refine vR ?_; exact Kd.R_mono HO226.out (fun _ hk => hk.2)), (kB BK214.out), bB⟩)
    ·skip
     refine Kd.R_lit_step (Kd.int .u8) _ 5 ?hg (N := 24) ?hd (xs := ([] : List Int)) (inner := []) (ok := fun _ => True) (okp := fun _ => True) ?hr ?hp (fun _ hk => hk) trivial (Below.refl _ _) (Nat.le_refl _) (by simp) ?_; (case hd => rfl); (case hg => rfl); (case hr => first | (go_simp; done) | (go_simp; rfl)); (case hp => exact (Reps.none _ _))
     intro v225 w14 ho15 hb hg_ hnew_
     clear hg_ hnew_
     (first | rw [← Ny224.out] at ho15 | (simp only [Int.reduceToNat] at ho15; rw [← Ny224.out] at ho15))
     have HO226 := zM (Kd.R_lower ho15 (below_size bB))
     replace BK214 := zM (bK BK214 hb)
     replace HB := zM (below_step bB hb)
     clear hb ho15
     refine hK.out _ _ (h6 BK214) (fun hHeld => ?_)
     clear hK K
     refine nS ?_
     refine one_ (i := 5) (N := some 19) #[tt,tt,tt,tt,tt,tt,tt,ff,tt,ff,tt,tt,ff,ff,ff,ff,ff,ff,ff] rfl rfl (one_of HT_.out (by kernel_rfl)) (by decide) (fun K hK => ?_)
     refine Kd.R_lit_step (Kd.int .u8) _ 5 ?hg (N := 19) ?hd (xs := ([] : List Int)) (inner := []) (ok := fun _ => True) (okp := fun _ => True) ?hr ?hp (fun _ hk => hk) trivial (Below.refl _ _) (Nat.le_refl _) (by simp) ?_; (case hd => rfl); (case hg => rfl); (case hr => first | (go_simp; done) | (go_simp; rfl)); (case hp => exact (Reps.none _ _))
     intro v216 w16 ho17 hb hg_ hnew_
     clear hg_ hnew_
     (first | rw [← Ny215.out] at ho17 | (simp only [Int.reduceToNat] at ho17; rw [← Ny215.out] at ho17))
     have HO217 := zM (Kd.R_lower (Kd.R_new' ho17 (Kd.R_lt (kR HO226.out))) (below_size bB))
     replace HO226 := zM (Kd.R_elder' (kR HO226.out) (Kd.R_base ho17) hb)
     replace BK214 := zM (bK BK214 hb)
     replace HB := zM (below_step bB hb)
     clear hb ho17
     refine hK.out _ _ (h6 BK214) (fun hHeld => ?_)
     clear hK K
     refine nS ?_
     refine one_ (i := 7) (N := some 21) #[tt,tt,tt,tt,tt,tt,tt,tt,tt,ff,tt,tt,ff,ff,ff,ff,ff,ff,ff] rfl rfl (one_of HT_.out (by kernel_rfl)) (by decide) (fun K hK => ?_)
     refine Kd.R_append_rows_step (Kd.int .u8) (w0 := w) w.heap.size (by rfl) (.tmp 19) (.tmp 20) 27 5 (.int .u8 0) 1 rfl Tryd.underlying27 info5 rfl (by decide) (by omega) v216 y215 l3 _ _ _ (fun k_ => some k_ ≠ (v225 : Value).ownBlock) (fun _ => False) rfl rfl ?aO ?aR (fun _ _ h => h) (fun _ h => h.elim) ?aF ?aB ?aS ?aL ?_
     (case aR => repeat (first | exact (Kd.C_below HR3.out HB.out) | (with_reducible refine Kd.C_alloc ?_ _) | (with_reducible refine Kd.C_drewN ?_ _) | (with_reducible refine Kd.C_drew ?_)))
     (case aB => exact bB)
     (case aF => exact (fun k_ hk => Kd.fresh' (Kd.R_lt (kR HO226.out)) k_ hk))
     (case aO => exact (by refine vR ?_; exact Kd.R_mono HO217.out (fun _ hk => hk.2)))
     (case aS => exact (below_size bB))
     (case aL => have := LMc7.out; omega)
     intro v219 w18 ho hb hg hat
     rw [← Ny218.out] at ho
     replace BK214 := zM (blk_grown (g := gb214) (o := .cells #[.int .i64 a0_0, .int .i64 a0_1, .int .i64 a0_2, .int .u64 a0_3, .int .u64 a0_4, .int .u64 a0_5] 24 (0, 0)) (kB BK214.out) hg (Kd.R_ne HO217.out BK214.out (by decide)))
     replace HO226 := zM (Kd.R_after (ok := (fun _ => True)) (kR HO226.out) hg hat)
     replace HB := zM (hb)
     have HO220 := zM (ho)
     clear HO217
     clear ho hb hg hat
     refine hK.out _ _ (h6 BK214) (fun hHeld => ?_)
     clear hK K
     refine nS ?_
     refine one_ (i := 9) (N := some 23) #[tt,tt,tt,tt,tt,tt,tt,tt,tt,tt,tt,tt,ff,ff,ff,ff,ff,ff,ff] rfl rfl (one_of HT_.out (by kernel_rfl)) (by decide) (fun K hK => ?_)
     refine goes_ Tryd.func46 (by kernel_rfl) rfl #[.slice A4 l4.length c4] (by rfl) rfl rfl aV ?_
     with_reducible refine (impl_texts.calls k _ _ l4 t221 _ ?side1 ?side2 A8.out).mono ?_
     (case side1 => repeat (first | exact (Kd.C_below HR4.out HB.out) | (with_reducible refine Kd.C_alloc ?_ _) | (with_reducible refine Kd.C_drewN ?_ _) | (with_reducible refine Kd.C_drew ?_)))
     (case side2 => exact HC4.out)
     rintro e w19 ⟨v222, rfl, ho0, hb⟩
     refine ⟨_, rfl, ?_⟩
     have HO223 := zM (Kd.S_lower (Kd.S_new' (Kd.S_new' ho0 (Kd.R_lt (kR HO226.out))) (Kd.R_lt (kR HO220.out))) (below_size bB))
     replace HO226 := zM (Kd.R_below (kR HO226.out) hb)
     replace HO220 := zM (Kd.R_below (kR HO220.out) hb)
     replace BK214 := zM (bK BK214 hb)
     replace HB := zM (below_step bB hb)
     refine hK.out _ _ (h6 BK214) (fun hHeld => ?_)
     clear hK K
     refine nS ?_
     exact norm_ (by simp only [putAll, Act.put, List.setIfInBounds_toArray, List.set_cons_zero, List.set_cons_succ]) (hCont (v216, v219, v222, v225) _ ⟨hHeld, (kR HO220.out), (by refine vS ?_; exact Kd.S_mono HO223.out (fun _ hk => ⟨hk.2, hk.1.2⟩)), (by refine vR ?_; exact Kd.R_mono HO226.out (fun _ hk => hk.2)), (kB BK214.out), bB⟩)
   rintro ⟨v216, v219, v222, v225⟩ w20 ⟨hS_, h0_, h1_, h2_, h3_, h4_⟩
   have n0_ : Aside0 (Kd.R (Kd.int .u8) 5 w20 w.heap.size (fun k_ => some k_ ≠ (v225 : Value).ownBlock) v219 y218) := ⟨h0_⟩
   have n1_ : Aside0 (Kd.S (Kd.slice 5 (Kd.int .u8)) 27 w20 w.heap.size (fun k_ => some k_ ≠ (v219 : Value).ownBlock ∧ some k_ ≠ (v225 : Value).ownBlock) v222 t221) := ⟨h1_⟩
   have n2_ : Aside0 (Kd.R (Kd.int .u8) 5 w20 w.heap.size (fun k_ => some k_ ≠ (v219 : Value).ownBlock) v225 y224) := ⟨h2_⟩
   have n3_ : Aside0 (w20.heap[gb214]? = some (.cells #[.int .i64 a0_0, .int .i64 a0_1, .int .i64 a0_2, .int .u64 a0_3, .int .u64 a0_4, .int .u64 a0_5] 24 (0, 0))) := ⟨h3_⟩
   have n4_ : Aside0 (Below w.heap.size w w20) := ⟨h4_⟩
   clear BK214
   clear HB
   clear h0_ h1_ h2_ h3_ h4_
   have HO220 := n0_
   have HO223 := n1_
   have HO226 := n2_
   have BK214 := n3_
   have HB := n4_
   clear n0_ n1_ n2_ n3_ n4_
   have hHeld : C6 w20 gb214 (.int .i64 a0_0) (.int .i64 a0_1) (.int .i64 a0_2) (.int .u64 a0_3) (.int .u64 a0_4) (.int .u64 a0_5) := hS_
   refine nB ?_
   refine one_ (i := 12) (N := some 26) #[tt,tt,tt,tt,tt,tt,tt,tt,tt,tt,tt,tt,tt,ff,ff,ff,ff,ff,ff] rfl rfl (one_of HT_.out (by kernel_rfl)) (by decide) (fun K hK => ?_)
   refine Kd.R_append_rows_step (Kd.int .u8) (w0 := w) w.heap.size (by rfl) (.tmp 24) (.tmp 25) 27 5 (.int .u8 0) 1 rfl Tryd.underlying27 info5 rfl (by decide) (by omega) v225 y224 l5 _ _ _ (fun k_ => some k_ ≠ (v219 : Value).ownBlock) (fun _ => False) rfl rfl ?aO ?aR (fun _ _ h => h) (fun _ h => h.elim) ?aF ?aB ?aS ?aL ?_
   (case aR => repeat (first | exact (Kd.C_below HR5.out HB.out) | (with_reducible refine Kd.C_alloc ?_ _) | (with_reducible refine Kd.C_drewN ?_ _) | (with_reducible refine Kd.C_drew ?_)))
   (case aB => exact bB)
   (case aF => exact (fun k_ hk => Kd.fresh' (Kd.R_lt (kR HO220.out)) k_ hk))
   (case aO => exact (kR HO226.out))
   (case aS => exact (below_size bB))
   (case aL => have := LMc9.out; omega)
   intro v228 w21 ho hb hg hat
   rw [← Ny227.out] at ho
   replace BK214 := zM (blk_grown (g := gb214) (o := .cells #[.int .i64 a0_0, .int .i64 a0_1, .int .i64 a0_2, .int .u64 a0_3, .int .u64 a0_4, .int .u64 a0_5] 24 (0, 0)) (kB BK214.out) hg (Kd.R_ne HO226.out BK214.out (by decide)))
   replace HO220 := zM (Kd.R_after (ok := (fun _ => True)) (by refine vR ?_; exact Kd.R_mono HO220.out (fun _ hk => ⟨trivial, hk⟩)) hg hat)
   replace HO223 := zM (Kd.S_after (ok := (fun k_ => some k_ ≠ (v219 : Value).ownBlock)) (by refine vS ?_; exact HO223.out) hg hat)
   replace HB := zM (hb)
   have HO229 := zM (ho)
   clear HO226
   clear ho hb hg hat
   obtain ⟨Ao22, co22, eo22⟩ := Kd.R_slice HO220.out
   (first | subst eo22 | (injection eo22 with f1_ f2_ f3_; have f4_ := f1_.symm; have f5_ := f3_.symm; clear f1_ f2_ f3_; subst f4_; subst f5_))
   obtain ⟨Ao23, co23, eo23⟩ := Kd.S_slice HO223.out
   (first | subst eo23 | (injection eo23 with f1_ f2_ f3_; have f4_ := f1_.symm; have f5_ := f3_.symm; clear f1_ f2_ f3_; subst f4_; subst f5_))
   obtain ⟨Ao24, co24, eo24⟩ := Kd.R_slice HO229.out
   (first | subst eo24 | (injection eo24 with f1_ f2_ f3_; have f4_ := f1_.symm; have f5_ := f3_.symm; clear f1_ f2_ f3_; subst f4_; subst f5_))
   refine hK.out _ _ (h6 BK214) (fun hHeld => ?_)
   clear hK K
   refine nS ?_
   refine one_ (i := 13) (N := some 27) #[tt,tt,tt,tt,tt,tt,tt,tt,tt,tt,tt,tt,tt,tt,ff,ff,ff,ff,ff] rfl rfl (one_of HT_.out (by kernel_rfl)) (by decide) (fun K hK => ?_)
   refine goes_ Tryd.func67 (by kernel_rfl) rfl #[.iface 85 (.agg #[.int .i64 a0_0, .int .i64 a0_1, .int .i64 a0_2, .int .u64 a0_3, .int .u64 a0_4, .int .u64 a0_5]), .int .u64 a1, .int .u64 a2, .slice Ao22 y218.length co22, .slice Ao23 t221.length co23, .slice Ao24 y227.length co24] (by rfl) rfl rfl aV ?_
   with_reducible refine (proof_VerifyInclusion.calls k a0_0 a0_1 a0_2 a0_3 a0_4 a0_5 a1 a2 (fun k_ => some k_ = (.slice Ao22 y218.length co22 : Value).ownBlock) _ _ y218 _ _ t221 (fun k_ => some k_ = (.slice Ao24 y227.length co24 : Value).ownBlock) _ _ y227 t230 t231 t234 t237 _ ?side1 ?side2 ?side3 ?side4 A10.out).mono ?_
   (case side1 => first | exact Kd.R_V (Kd.R_tight rfl (Kd.R_types (Kd.R_apart' (HO220.out) (Kd.S_typed HO223.out) (by decide)) BK214.out (by decide))) | exact Kd.V_mono Kd.R_V (Kd.R_tight rfl (Kd.R_types (Kd.R_apart' (HO220.out) (Kd.S_typed HO223.out) (by decide)) BK214.out (by decide))) (fun k_ h_ => by simp only [and_assoc] at h_ ⊢; exact h_))
   (case side2 => repeat (first | exact (Kd.S_reads' HO223.out).2.2 | (with_reducible refine Kd.C_alloc ?_ _) | (with_reducible refine Kd.C_drewN ?_ _) | (with_reducible refine Kd.C_drew ?_)))
   (case side3 => exact (Kd.S_reads' HO223.out).2.1)
   (case side4 => first | exact Kd.R_V (Kd.R_tight rfl (Kd.R_types (Kd.R_apart' (HO229.out) (Kd.S_typed HO223.out) (by decide)) BK214.out (by decide))) | exact Kd.V_mono Kd.R_V (Kd.R_tight rfl (Kd.R_types (Kd.R_apart' (HO229.out) (Kd.S_typed HO223.out) (by decide)) BK214.out (by decide))) (fun k_ h_ => by simp only [and_assoc] at h_ ⊢; exact h_))
   rintro e w25 ⟨v232, v235, v238, rfl, ho0, ho1, ho2, hb⟩
   refine ⟨_, rfl, ?_⟩
   have HO233 := zM (Kd.V_lower (Kd.V_mono (ok' := fun k_ => some k_ ≠ (.slice Ao23 t221.length co23 : Value).ownBlock ∧ k_ ≠ gb214) ho0 (fun k_ hk_ => ⟨Or.elim hk_ (fun hs_ => Or.elim hs_ (fun hs_ => ((Kd.R_types (Kd.R_apart' (HO220.out) (Kd.S_typed HO223.out) (by decide)) BK214.out (by decide)).1 k_ hs_.symm).1.2) (fun hs_ => ((Kd.R_types (Kd.R_apart' (HO229.out) (Kd.S_typed HO223.out) (by decide)) BK214.out (by decide)).1 k_ hs_.symm).1.2)) (fun hn_ => (Kd.fresh' (Kd.S_lt (by refine vS ?_; exact HO223.out)) k_ hn_)), Or.elim hk_ (fun hs_ => Or.elim hs_ (fun hs_ => ((Kd.R_types (Kd.R_apart' (HO220.out) (Kd.S_typed HO223.out) (by decide)) BK214.out (by decide)).1 k_ hs_.symm).2) (fun hs_ => ((Kd.R_types (Kd.R_apart' (HO229.out) (Kd.S_typed HO223.out) (by decide)) BK214.out (by decide)).1 k_ hs_.symm).2)) (fun hn_ => (Kd.freshB (g := gb214) (o := .cells #[.int .i64 a0_0, .int .i64 a0_1, .int .i64 a0_2, .int .u64 a0_3, .int .u64 a0_4, .int .u64 a0_5] 24 (0, 0)) (kB BK214.out) k_ hn_))⟩)) (below_size bB))
   have HO236 := zM (Kd.V_lower (Kd.V_mono (ok' := fun k_ => some k_ ≠ (.slice Ao23 t221.length co23 : Value).ownBlock ∧ k_ ≠ gb214) ho1 (fun k_ hk_ => ⟨Or.elim hk_ (fun hs_ => Or.elim hs_ (fun hs_ => ((Kd.R_types (Kd.R_apart' (HO220.out) (Kd.S_typed HO223.out) (by decide)) BK214.out (by decide)).1 k_ hs_.symm).1.2) (fun hs_ => ((Kd.R_types (Kd.R_apart' (HO229.out) (Kd.S_typed HO223.out) (by decide)) BK214.out (by decide)).1 k_ hs_.symm).1.2)) (fun hn_ => (Kd.fresh' (Kd.S_lt (by refine vS ?_; exact HO223.out)) k_ hn_)), Or.elim hk_ (fun hs_ => Or.elim hs_ (fun hs_ => ((Kd.R_types (Kd.R_apart' (HO220.out) (Kd.S_typed HO223.out) (by decide)) BK214.out (by decide)).1 k_ hs_.symm).2) (fun hs_ => ((Kd.R_types (Kd.R_apart' (HO229.out) (Kd.S_typed HO223.out) (by decide)) BK214.out (by decide)).1 k_ hs_.symm).2)) (fun hn_ => (Kd.freshB (g := gb214) (o := .cells #[.int .i64 a0_0, .int .i64 a0_1, .int .i64 a0_2, .int .u64 a0_3, .int .u64 a0_4, .int .u64 a0_5] 24 (0, 0)) (kB BK214.out) k_ hn_))⟩)) (below_size bB))
   have HO239 := zM (Kd.V_lower (Kd.V_mono (ok' := fun k_ => some k_ ≠ (.slice Ao23 t221.length co23 : Value).ownBlock ∧ k_ ≠ gb214) ho2 (fun k_ hk_ => ⟨Or.elim hk_ (fun hs_ => Or.elim hs_ (fun hs_ => ((Kd.R_types (Kd.R_apart' (HO220.out) (Kd.S_typed HO223.out) (by decide)) BK214.out (by decide)).1 k_ hs_.symm).1.2) (fun hs_ => ((Kd.R_types (Kd.R_apart' (HO229.out) (Kd.S_typed HO223.out) (by decide)) BK214.out (by decide)).1 k_ hs_.symm).1.2)) (fun hn_ => (Kd.fresh' (Kd.S_lt (by refine vS ?_; exact HO223.out)) k_ hn_)), Or.elim hk_ (fun hs_ => Or.elim hs_ (fun hs_ => ((Kd.R_types (Kd.R_apart' (HO220.out) (Kd.S_typed HO223.out) (by decide)) BK214.out (by decide)).1 k_ hs_.symm).2) (fun hs_ => ((Kd.R_types (Kd.R_apart' (HO229.out) (Kd.S_typed HO223.out) (by decide)) BK214.out (by decide)).1 k_ hs_.symm).2)) (fun hn_ => (Kd.freshB (g := gb214) (o := .cells #[.int .i64 a0_0, .int .i64 a0_1, .int .i64 a0_2, .int .u64 a0_3, .int .u64 a0_4, .int .u64 a0_5] 24 (0, 0)) (kB BK214.out) k_ hn_))⟩)) (below_size bB))
   replace HO220 := zM (Kd.R_below (kR HO220.out) hb)
   replace HO223 := zM (Kd.S_below (by refine vS ?_; exact HO223.out) hb)
   replace HO229 := zM (Kd.R_below (kR HO229.out) hb)
   replace BK214 := zM (bK BK214 hb)
   replace HB := zM (below_step bB hb)
   obtain ⟨Ao26, co26, eo26⟩ := Kd.V_slice HO233.out
   (first | subst eo26 | (injection eo26 with f1_ f2_ f3_; have f4_ := f1_.symm; have f5_ := f3_.symm; clear f1_ f2_ f3_; subst f4_; subst f5_))
   obtain ⟨Ao27, co27, eo27⟩ := Kd.V_slice HO236.out
   (first | subst eo27 | (injection eo27 with f1_ f2_ f3_; have f4_ := f1_.symm; have f5_ := f3_.symm; clear f1_ f2_ f3_; subst f4_; subst f5_))
   obtain ⟨Ao28, co28, eo28⟩ := Kd.V_slice HO239.out
   (first | subst eo28 | (injection eo28 with f1_ f2_ f3_; have f4_ := f1_.symm; have f5_ := f3_.symm; clear f1_ f2_ f3_; subst f4_; subst f5_))
   refine hK.out _ _ (h6 BK214) (fun hHeld => ?_)
   clear hK K
   refine nS ?_
   refine one_ (i := 14) (N := some 28) #[tt,tt,tt,tt,tt,tt,tt,tt,tt,tt,tt,tt,tt,tt,tt,ff,ff,ff,ff] rfl rfl (one_of HT_.out (by kernel_rfl)) (by decide) (fun K hK => ?_)
   refine goes_ Tryd.func48 (by kernel_rfl) rfl #[errVc #[.int .i64 t230, .slice Ao26 t231.length co26, .slice Ao27 t234.length co27, .slice Ao28 t237.length co28]] (by rfl) rfl rfl aV ?_
   with_reducible refine (impl_verdict.calls k t230 _ _ t231 _ _ t234 _ _ t237 t240 t241 _ ?side1 ?side2 ?side3 ?side4 ?side5 ?side6 A11.out).mono ?_
   (case side1 => repeat (first | exact (Kd.V_reads' HO233.out).2.2 | (with_reducible refine Kd.C_alloc ?_ _) | (with_reducible refine Kd.C_drewN ?_ _) | (with_reducible refine Kd.C_drew ?_)))
   (case side2 => exact (Kd.V_reads' HO233.out).2.1)
   (case side3 => repeat (first | exact (Kd.V_reads' HO236.out).2.2 | (with_reducible refine Kd.C_alloc ?_ _) | (with_reducible refine Kd.C_drewN ?_ _) | (with_reducible refine Kd.C_drew ?_)))
   (case side4 => exact (Kd.V_reads' HO236.out).2.1)
   (case side5 => repeat (first | exact (Kd.V_reads' HO239.out).2.2 | (with_reducible refine Kd.C_alloc ?_ _) | (with_reducible refine Kd.C_drewN ?_ _) | (with_reducible refine Kd.C_drew ?_)))
   (case side6 => exact (Kd.V_reads' HO239.out).2.1)
   rintro e w29 ⟨v242, rfl, ho0, hb⟩
   refine ⟨_, rfl, ?_⟩
   replace HO223 := zM (Kd.S_elder' (by refine vS ?_; exact HO223.out) (Kd.R_base ho0) hb)
   replace HO233 := zM (Kd.V_elder' (kV HO233.out) (Kd.R_base ho0) hb)
   replace HO236 := zM (Kd.V_elder' (kV HO236.out) (Kd.R_base ho0) hb)
   replace HO239 := zM (Kd.V_elder' (kV HO239.out) (Kd.R_base ho0) hb)
   have HO243 := zM (Kd.R_lower (Kd.R_new' (Kd.R_new' ho0 (Kd.R_lt (kR HO220.out))) (Kd.R_lt (kR HO229.out))) (below_size bB))
   replace HO220 := zM (Kd.R_elder' (kR HO220.out) (Kd.R_base ho0) hb)
   replace HO229 := zM (Kd.R_elder' (kR HO229.out) (Kd.R_base ho0) hb)
   replace BK214 := zM (bK BK214 hb)
   replace HB := zM (below_step bB hb)
   refine hK.out _ _ (h6 BK214) (fun hHeld => ?_)
   clear hK K
   refine nS ?_
   refine pA 15 (some 29) #[tt,tt,tt,tt,tt,tt,tt,tt,tt,tt,tt,tt,tt,tt,tt,tt,ff,ff,ff] HT_ ?_
   refine pA 16 (some 30) #[tt,tt,tt,tt,tt,tt,tt,tt,tt,tt,tt,tt,tt,tt,tt,tt,tt,ff,ff] HT_ ?_
   refine pA 17 (some 12) #[tt,tt,tt,tt,tt,tt,tt,tt,tt,tt,tt,tt,tt,tt,tt,tt,tt,tt,ff] HT_ ?_
   refine pA 18 (some 13) #[tt,tt,tt,tt,tt,tt,tt,tt,tt,tt,tt,tt,tt,tt,tt,tt,tt,tt,tt] HT_ ?_
   refine done_ (done_of HT_.out (by kernel_rfl)) ?_
   try go_wp2
   go_ret2
   exact ⟨_, by first | rfl | (simp [errW_none, errW_some] <;> rfl) | (simp [*, errW_none, errW_some] <;> rfl), by refine vR ?_; exact Kd.R_mono HO243.out (fun _ hk => trivial), bB⟩
  ·rw [if_neg c9] at H
   exact absurd H (by simp)
 ·rw [if_neg c7] at H
  exact absurd H (by simp)
def impl_fromProof.f (k : Nat) (l0_0 : List (S106)) (a0_1 : Int) (a0_2 : Int) (a0_3 : Int) (a0_4 : Int) : Option ((List (S54)) × Int × Int × Int × Int) := (proof_Nodes_Ephem.f l0_0 a0_1 a0_2 a0_3 a0_4).bind fun bt280 => ((impl_fromNodes.f k l0_0).bind fun t285 => ((impl_fromNode.f bt280.1 bt280.2.1).bind fun bt288 => (some (t285, bt288.1, bt288.2, bt280.2.2.1, bt280.2.2.2))))
def impl_fromProof.T2 : Bool × List (List Nat × List Nat) := (true, [([], []), ([0], [0]), ([1], [1]), ([], []), ([3, 2], [3]), ([], []), ([], []), ([2, 4, 5, 6], [2, 4, 5, 6]), ([7, 4, 0, 1, 2, 3, 4, 5, 6, 7], [7])])
def impl_fromProof.B2 : List Nat := [0, 1, 3, 0, 15, 0, 0, 127, 255]
theorem impl_fromProof.tab2 : rtab .any (opsOf Tryd.f70 2) = impl_fromProof.T2 := by kernel_rfl
theorem impl_fromProof.bits2 : waitsOk impl_fromProof.T2.2 impl_fromProof.B2 = true := by kernel_rfl
set_option maxHeartbeats 8000000 in
set_option maxRecDepth 100000 in
theorem impl_fromProof.calls (k : Nat) (A0_0 : Option Addr) (c0_0 : Nat) (l0_0 : List (S106)) (a0_1 : Int) (a0_2 : Int) (a0_3 : Int) (a0_4 : Int) (r1 : List (S54)) (r2 : Int) (r3 : Int) (r4 : Int) (r5 : Int) (w : World) (hr0_0 : Kd.C k106 w A0_0 l0_0.length l0_0) (hc0_0 : l0_0.length ≤ c0_0) (h : impl_fromProof.f k l0_0 a0_1 a0_2 a0_3 a0_4 = some (r1, r2, r3, r4, r5)) :
  Calls Tryd.prog 70 #[.agg #[.slice A0_0 l0_0.length c0_0, .int .i64 a0_1, .int .i64 a0_2, .int .u64 a0_3, .int .u64 a0_4]] w fun e w' => ∃ v0_ : Value, e = .returned (.agg #[v0_, .int .u64 r2, .int .u64 r3, .int .i64 r4, .int .i64 r5]) ∧ Kd.R k54 54 w' w.heap.size (fun _ => True) v0_ r1 ∧ Below w.heap.size w w' := by
 have hu122 := Tryd.underlying122
 have hu68 := Tryd.underlying68
 have hu106 := Tryd.underlying106
 have HR0_0 := zM hr0_0
 have HC0_0 := zM hc0_0
 clear hr0_0 hc0_0
 have HB := zM (Below.refl w.heap.size w)
 have H : ((proof_Nodes_Ephem.f l0_0 a0_1 a0_2 a0_3 a0_4).bind fun bt280 => ((impl_fromNodes.f k l0_0).bind fun t285 => ((impl_fromNode.f bt280.1 bt280.2.1).bind fun bt288 => (some (t285, bt288.1, bt288.2, bt280.2.2.1, bt280.2.2.2))))) = some (r1, r2, r3, r4, r5) := h
 clear h
 replace H := Option.bind_eq_some_iff.mp H
 obtain ⟨⟨t280, t281, t282, t283⟩, A20, H⟩ := H
 replace H : ((impl_fromNodes.f k l0_0).bind fun t285 => ((impl_fromNode.f t280 t281).bind fun bt288 => (some (t285, bt288.1, bt288.2, t282, t283)))) = some (r1, r2, r3, r4, r5) := H
 have A2 := zM A20
 clear A20
 replace H := Option.bind_eq_some_iff.mp H
 obtain ⟨t285, A30, H⟩ := H
 replace H : ((impl_fromNode.f t280 t281).bind fun bt288 => (some (t285, bt288.1, bt288.2, t282, t283))) = some (r1, r2, r3, r4, r5) := H
 have A3 := zM A30
 clear A30
 replace H := Option.bind_eq_some_iff.mp H
 obtain ⟨⟨t288, t289⟩, A40, H⟩ := H
 replace H : (some (t285, t288, t289, t282, t283)) = some (r1, r2, r3, r4, r5) := H
 have A4 := zM A40
 clear A40
 simp only [Option.some.injEq, Prod.mk.injEq] at H
 obtain ⟨rfl, rfl, rfl, rfl, rfl⟩ := H
 go_enter Tryd.func70, Tryd.ntmps70
 try go_wp2_with (first | ((with_reducible refine gate_dst (N := 1) rfl ?_); refine bx 1 #[.slice A0_0 l0_0.length c0_0, .int .i64 a0_1, .int .i64 a0_2, .int .u64 a0_3, .int .u64 a0_4] 122 ?_; intro gb278 hg w5 hbox hb; have BK278 := zM (hbox); have GW278 := zM ((gB hg : w.heap.size ≤ gb278)); have GE278 := zM ((gB hg : w.heap.size ≤ gb278)); replace HB := zM (below_step bB hb); clear hb hbox hg) | ((with_reducible refine gate_dst (N := 2) rfl ?_); refine bx 2 #[.slice none 0 0, .int .u64 0, .int .u64 0, .int .i64 0, .int .i64 0] 68 ?_; intro gb279 hg w6 hbox hb; have BK279 := zM (hbox); have GW279 := zM ((gB hg : w.heap.size ≤ gb279)); have GE279 := zM ((gB hg : w.heap.size ≤ gb279)); replace HB := zM (below_step bB hb); have NB278_279 := zM ((by rw [hg]; exact Nat.ne_of_lt (blk_lt (g := gb278) (o := .cells #[.slice A0_0 l0_0.length c0_0, .int .i64 a0_1, .int .i64 a0_2, .int .u64 a0_3, .int .u64 a0_4] 122 (0, 0)) (kB BK278.out)) : gb278 ≠ gb279)); have NB279_278 := zM ((by rw [hg]; exact Nat.ne_of_gt (blk_lt (g := gb278) (o := .cells #[.slice A0_0 l0_0.length c0_0, .int .i64 a0_1, .int .i64 a0_2, .int .u64 a0_3, .int .u64 a0_4] 122 (0, 0)) (kB BK278.out)) : gb279 ≠ gb278)); replace BK278 := zM (bK BK278 hb); clear hb hbox hg; have hnb7 := NB278_279.out; have hnc7 := NB279_278.out; obtain ⟨hcz8_0, hcz8_1, hcz8_2, hcz8_3, hcz8_4⟩ := h5 BK278; obtain ⟨hfz8_0, hfz8_1, hfz8_2, hfz8_3, hfz8_4⟩ := f5 BK278) | ((with_reducible refine gate_callee (f := 104) rfl ?_); refine goesL_ (some 8) rfl rfl Tryd.func104 (by kernel_rfl) rfl #[.agg #[.slice A0_0 l0_0.length c0_0, .int .i64 a0_1, .int .i64 a0_2, .int .u64 a0_3, .int .u64 a0_4]] rfl aV ?_; (with_reducible refine (proof_Nodes_Ephem.calls _ _ l0_0 a0_1 a0_2 a0_3 a0_4 t280 t281 t282 t283 _ ?side1 ?side2 A2.out).mono ?_); (case side1 => repeat (first | exact (Kd.C_below HR0_0.out HB.out) | (with_reducible refine Kd.C_alloc ?_ _) | (with_reducible refine Kd.C_drewN ?_ _) | (with_reducible refine Kd.C_drew ?_))); (case side2 => exact HC0_0.out); rintro e w9 ⟨rfl, hb⟩; refine ⟨_, rfl, ?_⟩; replace BK278 := zM (bK BK278 hb); replace BK279 := zM (bK BK279 hb); replace HB := zM (below_step bB hb); (try clear hb); (try clear hb2); (try clear hk); (try clear hi)) | ((with_reducible refine gate_dst (N := 3) rfl ?_); refine bx 3 #[.int .u64 0, .int .u64 0] 106 ?_; intro gb284 hg w10 hbox hb; have BK284 := zM (hbox); have GW284 := zM ((gB hg : w.heap.size ≤ gb284)); have GE284 := zM ((gB hg : w.heap.size ≤ gb284)); replace HB := zM (below_step bB hb); have NB278_284 := zM ((by rw [hg]; exact Nat.ne_of_lt (blk_lt (g := gb278) (o := .cells #[.slice A0_0 l0_0.length c0_0, .int .i64 a0_1, .int .i64 a0_2, .int .u64 a0_3, .int .u64 a0_4] 122 (0, 0)) (kB BK278.out)) : gb278 ≠ gb284)); have NB284_278 := zM ((by rw [hg]; exact Nat.ne_of_gt (blk_lt (g := gb278) (o := .cells #[.slice A0_0 l0_0.length c0_0, .int .i64 a0_1, .int .i64 a0_2, .int .u64 a0_3, .int .u64 a0_4] 122 (0, 0)) (kB BK278.out)) : gb284 ≠ gb278)); replace BK278 := zM (bK BK278 hb); have NB279_284 := zM ((by rw [hg]; exact Nat.ne_of_lt (blk_lt (g := gb279) (o := .cells #[.slice none 0 0, .int .u64 0, .int .u64 0, .int .i64 0, .int .i64 0] 68 (0, 0)) (kB BK279.out)) : gb279 ≠ gb284)); have NB284_279 := zM ((by rw [hg]; exact Nat.ne_of_gt (blk_lt (g := gb279) (o := .cells #[.slice none 0 0, .int .u64 0, .int .u64 0, .int .i64 0, .int .i64 0] 68 (0, 0)) (kB BK279.out)) : gb284 ≠ gb279)); replace BK279 := zM (bK BK279 hb); clear hb hbox hg; have hnb11 := NB284_278.out; have hnc11 := NB278_284.out; have hnb12 := NB284_279.out; have hnc12 := NB279_284.out; obtain ⟨hcz13_0, hcz13_1⟩ := h2 BK284; obtain ⟨hfz13_0, hfz13_1⟩ := f2 BK284))
 have n0_ : Aside0 (((w10.setCell ⟨gb284, 0, none⟩ (.int .u64 t280)).setCell ⟨gb284, 1, none⟩ (.int .u64 t281)).heap[gb278]? = some (.cells #[.slice A0_0 l0_0.length c0_0, .int .i64 a0_1, .int .i64 a0_2, .int .u64 a0_3, .int .u64 a0_4] 122 (0, 0))) := ⟨by refine kU ?_; refine blk_far ?_ NB278_284.out _; refine kU ?_; refine blk_far ?_ NB278_284.out _; refine kU ?_; exact BK278.out⟩
 have n1_ : Aside0 (((w10.setCell ⟨gb284, 0, none⟩ (.int .u64 t280)).setCell ⟨gb284, 1, none⟩ (.int .u64 t281)).heap[gb279]? = some (.cells #[.slice none 0 0, .int .u64 0, .int .u64 0, .int .i64 0, .int .i64 0] 68 (0, 0))) := ⟨by refine kU ?_; refine blk_far ?_ NB279_284.out _; refine kU ?_; refine blk_far ?_ NB279_284.out _; refine kU ?_; exact BK279.out⟩
 have n2_ : Aside0 (((w10.setCell ⟨gb284, 0, none⟩ (.int .u64 t280)).setCell ⟨gb284, 1, none⟩ (.int .u64 t281)).heap[gb284]? = some (.cells #[.int .u64 t280, .int .u64 t281] 106 (0, 0))) := ⟨by refine kU ?_; refine blk_put (cs := #[.int .u64 t280, .int .u64 0]) ?_ 1 _ rfl; refine kU ?_; refine blk_put (cs := #[.int .u64 0, .int .u64 0]) ?_ 0 _ rfl; refine kU ?_; exact BK284.out⟩
 have n3_ : Aside0 (Below w.heap.size w ((w10.setCell ⟨gb284, 0, none⟩ (.int .u64 t280)).setCell ⟨gb284, 1, none⟩ (.int .u64 t281))) := ⟨bB⟩
 (try clear BK278)
 (try clear BK279)
 (try clear BK284)
 (try clear HB)
 generalize ((w10.setCell ⟨gb284, 0, none⟩ (.int .u64 t280)).setCell ⟨gb284, 1, none⟩ (.int .u64 t281)) = w14 at n0_ n1_ n2_ n3_ ⊢
 have BK278 := n0_
 have BK279 := n1_
 have BK284 := n2_
 have HB := n3_
 clear n0_ n1_ n2_ n3_
 replace BK278 := zM (blk_drew BK278.out)
 replace BK279 := zM (blk_drew BK279.out)
 replace BK284 := zM (blk_drew BK284.out)
 replace HB := zM (below_drew1 HB.out)
 refine start_ (n := 9) (S := fun w' => w'.cell? ⟨gb278, 0, none⟩ = some (.slice A0_0 l0_0.length c0_0) ∧ w'.cell? ⟨gb278, 1, none⟩ = some (.int .i64 a0_1) ∧ w'.cell? ⟨gb278, 2, none⟩ = some (.int .i64 a0_2) ∧ w'.cell? ⟨gb278, 3, none⟩ = some (.int .u64 a0_3) ∧ w'.cell? ⟨gb278, 4, none⟩ = some (.int .u64 a0_4) ∧ w'.cell? ⟨gb284, 0, none⟩ = some (.int .u64 t280) ∧ w'.cell? ⟨gb284, 1, none⟩ = some (.int .u64 t281)) (ds := []) #[ff,ff,ff,ff,ff,ff,ff,ff,ff] (by kernel_rfl) rfl rfl ⟨(blk_cell BK278.out 0).trans rfl, (blk_cell BK278.out 1).trans rfl, (blk_cell BK278.out 2).trans rfl, (blk_cell BK278.out 3).trans rfl, (blk_cell BK278.out 4).trans rfl, (blk_cell BK284.out 0).trans rfl, (blk_cell BK284.out 1).trans rfl⟩ (fun hHeld => ?_); refine with_tabW impl_fromProof.tab2 impl_fromProof.bits2 (fun HT_ HW_ => ?_)
 generalize w14.drew = w15 at BK278 BK279 BK284 HB hHeld ⊢
 refine pA 0 (some 12) #[tt,ff,ff,ff,ff,ff,ff,ff,ff] HT_ ?_
 refine pA 5 (some 17) #[tt,ff,ff,ff,ff,tt,ff,ff,ff] HT_ ?_
 refine pA 6 (some 18) #[tt,ff,ff,ff,ff,tt,tt,ff,ff] HT_ ?_
 refine tA 1 (some 13) #[tt,tt,ff,ff,ff,tt,tt,ff,ff] rfl rfl HT_ HW_ hHeld (by rintro w' ⟨s0, s1, s2, s3, s4, s5, s6⟩; go_simp; with_reducible rfl) ?_
 refine tA 3 (some 15) #[tt,tt,ff,tt,ff,tt,tt,ff,ff] rfl rfl HT_ HW_ hHeld (by rintro w' ⟨s0, s1, s2, s3, s4, s5, s6⟩; go_simp; with_reducible rfl) ?_
 refine one_ (i := 2) (N := some 14) #[tt,tt,tt,tt,ff,tt,tt,ff,ff] rfl rfl (one_of HT_.out (by kernel_rfl)) (by decide) (fun K hK => ?_)
 refine goes_ Tryd.func105 (by kernel_rfl) rfl #[.slice A0_0 l0_0.length c0_0] (by rfl) rfl rfl aV ?_
 with_reducible refine (impl_fromNodes.calls k _ _ l0_0 t285 _ ?side1 ?side2 A3.out).mono ?_
 (case side1 => repeat (first | exact (Kd.C_below HR0_0.out HB.out) | (with_reducible refine Kd.C_alloc ?_ _) | (with_reducible refine Kd.C_drewN ?_ _) | (with_reducible refine Kd.C_drew ?_)))
 (case side2 => exact HC0_0.out)
 rintro e w16 ⟨v286, rfl, ho0, hb⟩
 refine ⟨_, rfl, ?_⟩
 have HO287 := zM (Kd.R_lower ho0 (below_size bB))
 replace BK278 := zM (bK BK278 hb)
 replace BK279 := zM (bK BK279 hb)
 replace BK284 := zM (bK BK284 hb)
 replace HB := zM (below_step bB hb)
 (try clear hb)
 (try clear hb2)
 (try clear hk)
 (try clear hi)
 (try clear ho0)
 refine hK.out _ _ ⟨(blk_cell BK278.out 0).trans rfl, (blk_cell BK278.out 1).trans rfl, (blk_cell BK278.out 2).trans rfl, (blk_cell BK278.out 3).trans rfl, (blk_cell BK278.out 4).trans rfl, (blk_cell BK284.out 0).trans rfl, (blk_cell BK284.out 1).trans rfl⟩ (fun hHeld => ?_)
 clear hK K
 refine nS ?_
 refine one_ (i := 4) (N := some 16) #[tt,tt,tt,tt,tt,tt,tt,ff,ff] rfl rfl (one_of HT_.out (by kernel_rfl)) (by decide) (fun K hK => ?_)
 refine goes_ Tryd.func56 (by kernel_rfl) rfl #[.agg #[.int .u64 t280, .int .u64 t281]] (by rfl) rfl rfl aV ?_
 with_reducible refine (impl_fromNode.calls t280 t281 t288 t289 _ A4.out).mono ?_
 rintro e w17 ⟨rfl, hb⟩
 refine ⟨_, rfl, ?_⟩
 replace HO287 := zM (Kd.R_below (kR HO287.out) hb)
 replace BK278 := zM (bK BK278 hb)
 replace BK279 := zM (bK BK279 hb)
 replace BK284 := zM (bK BK284 hb)
 replace HB := zM (below_step bB hb)
 (try clear hb)
 (try clear hb2)
 (try clear hk)
 (try clear hi)
 obtain ⟨Ao18, co18, eo18⟩ := Kd.R_slice HO287.out
 (first | subst eo18 | (injection eo18 with f1_ f2_ f3_; have f4_ := f1_.symm; have f5_ := f3_.symm; clear f1_ f2_ f3_; subst f4_; subst f5_))
 refine hK.out _ _ ⟨(blk_cell BK278.out 0).trans rfl, (blk_cell BK278.out 1).trans rfl, (blk_cell BK278.out 2).trans rfl, (blk_cell BK278.out 3).trans rfl, (blk_cell BK278.out 4).trans rfl, (blk_cell BK284.out 0).trans rfl, (blk_cell BK284.out 1).trans rfl⟩ (fun hHeld => ?_)
 clear hK K
 refine nS ?_
 refine pA 7 (some 19) #[tt,tt,tt,tt,tt,tt,tt,tt,ff] HT_ ?_
 refine one_ (i := 8) (N := none) #[tt,tt,tt,tt,tt,tt,tt,tt,tt] rfl rfl (one_of HT_.out (by kernel_rfl)) (by decide) (fun K hK => ?_)
 have hs19 : w17.cell? ⟨gb279, 0, none⟩ = some (.slice none 0 0) := (blk_cell BK279.out 0).trans rfl
 have hfs19 := blk_frozen BK279.out 0
 have hns19_0 := NB278_279.out
 have hns19_2 := NB284_279.out
 have hms19_0 := NB279_278.out
 have hms19_2 := NB279_284.out
 have hs20 : w17.cell? ⟨gb279, 1, none⟩ = some (.int .u64 0) := (blk_cell BK279.out 1).trans rfl
 have hfs20 := blk_frozen BK279.out 1
 have hns20_0 := NB278_279.out
 have hns20_2 := NB284_279.out
 have hms20_0 := NB279_278.out
 have hms20_2 := NB279_284.out
 have hs21 : w17.cell? ⟨gb279, 2, none⟩ = some (.int .u64 0) := (blk_cell BK279.out 2).trans rfl
 have hfs21 := blk_frozen BK279.out 2
 have hns21_0 := NB278_279.out
 have hns21_2 := NB284_279.out
 have hms21_0 := NB279_278.out
 have hms21_2 := NB279_284.out
 have hs22 : w17.cell? ⟨gb279, 3, none⟩ = some (.int .i64 0) := (blk_cell BK279.out 3).trans rfl
 have hfs22 := blk_frozen BK279.out 3
 have hns22_0 := NB278_279.out
 have hns22_2 := NB284_279.out
 have hms22_0 := NB279_278.out
 have hms22_2 := NB279_284.out
 have hs23 : w17.cell? ⟨gb279, 4, none⟩ = some (.int .i64 0) := (blk_cell BK279.out 4).trans rfl
 have hfs23 := blk_frozen BK279.out 4
 have hns23_0 := NB278_279.out
 have hns23_2 := NB284_279.out
 have hms23_0 := NB279_278.out
 have hms23_2 := NB279_284.out
 refine skip_ (w1 := ?_) (by rfl) rfl ?_ ?_
 rotate_left
 ·go_simp
  rfl
 refine hK.out _ _ ⟨((cell_far (p := ⟨gb279, _, none⟩) NB278_279.out _).trans (((cell_far (p := ⟨gb279, _, none⟩) NB278_279.out _).trans (((cell_far (p := ⟨gb279, _, none⟩) NB278_279.out _).trans (((cell_far (p := ⟨gb279, _, none⟩) NB278_279.out _).trans (((cell_far (p := ⟨gb279, _, none⟩) NB278_279.out _).trans (hHeld.1)))))))))), ((cell_far (p := ⟨gb279, _, none⟩) NB278_279.out _).trans (((cell_far (p := ⟨gb279, _, none⟩) NB278_279.out _).trans (((cell_far (p := ⟨gb279, _, none⟩) NB278_279.out _).trans (((cell_far (p := ⟨gb279, _, none⟩) NB278_279.out _).trans (((cell_far (p := ⟨gb279, _, none⟩) NB278_279.out _).trans (hHeld.2.1)))))))))), ((cell_far (p := ⟨gb279, _, none⟩) NB278_279.out _).trans (((cell_far (p := ⟨gb279, _, none⟩) NB278_279.out _).trans (((cell_far (p := ⟨gb279, _, none⟩) NB278_279.out _).trans (((cell_far (p := ⟨gb279, _, none⟩) NB278_279.out _).trans (((cell_far (p := ⟨gb279, _, none⟩) NB278_279.out _).trans (hHeld.2.2.1)))))))))), ((cell_far (p := ⟨gb279, _, none⟩) NB278_279.out _).trans (((cell_far (p := ⟨gb279, _, none⟩) NB278_279.out _).trans (((cell_far (p := ⟨gb279, _, none⟩) NB278_279.out _).trans (((cell_far (p := ⟨gb279, _, none⟩) NB278_279.out _).trans (((cell_far (p := ⟨gb279, _, none⟩) NB278_279.out _).trans (hHeld.2.2.2.1)))))))))), ((cell_far (p := ⟨gb279, _, none⟩) NB278_279.out _).trans (((cell_far (p := ⟨gb279, _, none⟩) NB278_279.out _).trans (((cell_far (p := ⟨gb279, _, none⟩) NB278_279.out _).trans (((cell_far (p := ⟨gb279, _, none⟩) NB278_279.out _).trans (((cell_far (p := ⟨gb279, _, none⟩) NB278_279.out _).trans (hHeld.2.2.2.2.1)))))))))), ((cell_far (p := ⟨gb279, _, none⟩) NB284_279.out _).trans (((cell_far (p := ⟨gb279, _, none⟩) NB284_279.out _).trans (((cell_far (p := ⟨gb279, _, none⟩) NB284_279.out _).trans (((cell_far (p := ⟨gb279, _, none⟩) NB284_279.out _).trans (((cell_far (p := ⟨gb279, _, none⟩) NB284_279.out _).trans (hHeld.2.2.2.2.2.1)))))))))), ((cell_far (p := ⟨gb279, _, none⟩) NB284_279.out _).trans (((cell_far (p := ⟨gb279, _, none⟩) NB284_279.out _).trans (((cell_far (p := ⟨gb279, _, none⟩) NB284_279.out _).trans (((cell_far (p := ⟨gb279, _, none⟩) NB284_279.out _).trans (((cell_far (p := ⟨gb279, _, none⟩) NB284_279.out _).trans (hHeld.2.2.2.2.2.2))))))))))⟩ (fun hHeld => ?_)
 clear hK K
 refine done_ (done_of HT_.out (by kernel_rfl)) ?_
 try go_wp2
 refine bodyPost_ret (results_cell_row rfl _ _ gb279 68 #[.slice Ao18 t285.length co18, .int .u64 t288, .int .u64 t289, .int .i64 t282, .int .i64 t283] (0, 0) _ rfl (by refine kU ?_; refine blk_put (cs := #[.slice Ao18 t285.length co18, .int .u64 t288, .int .u64 t289, .int .i64 t282, .int .i64 0]) ?_ 4 _ rfl; refine kU ?_; refine blk_put (cs := #[.slice Ao18 t285.length co18, .int .u64 t288, .int .u64 t289, .int .i64 0, .int .i64 0]) ?_ 3 _ rfl; refine kU ?_; refine blk_put (cs := #[.slice Ao18 t285.length co18, .int .u64 t288, .int .u64 0, .int .i64 0, .int .i64 0]) ?_ 2 _ rfl; refine kU ?_; refine blk_put (cs := #[.slice Ao18 t285.length co18, .int .u64 0, .int .u64 0, .int .i64 0, .int .i64 0]) ?_ 1 _ rfl; refine kU ?_; refine blk_put (cs := #[.slice none 0 0, .int .u64 0, .int .u64 0, .int .i64 0, .int .i64 0]) ?_ 0 _ rfl; refine kU ?_; exact BK279.out) Tryd.underlying68 rfl (by kernel_rfl)) rfl ?_
 exact ⟨_, by first | rfl | (simp [errW_none, errW_some] <;> rfl) | (simp [*, errW_none, errW_some] <;> rfl), by refine vR ?_; exact Kd.R_mono (Kd.R_far (p := ⟨gb279, 4, none⟩) (Kd.R_far (p := ⟨gb279, 3, none⟩) (Kd.R_far (p := ⟨gb279, 2, none⟩) (Kd.R_far (p := ⟨gb279, 1, none⟩) (Kd.R_far (p := ⟨gb279, 0, none⟩) (Kd.R_types HO287.out BK279.out (by decide)) (fun _ hk => hk.2) (.slice Ao18 t285.length co18)) (fun _ hk => hk.2) (.int .u64 t288)) (fun _ hk => hk.2) (.int .u64 t289)) (fun _ hk => hk.2) (.int .i64 t282)) (fun _ hk => hk.2) (.int .i64 t283)) (fun _ hk => trivial), bB⟩
end Go.Proofs.YtkmdkmlgahfcpaaDoor.M
