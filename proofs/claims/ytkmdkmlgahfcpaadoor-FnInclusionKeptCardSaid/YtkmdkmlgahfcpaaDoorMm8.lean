import Derived.Test.YtkmdkmlgahfcpaaDoorSr
import Derived.Test.YtkmdkmlgahfcpaaDoorMm1
import Derived.Test.YtkmdkmlgahfcpaaDoorMm5
import Derived.Test.YtkmdkmlgahfcpaaDoorMm2
import Derived.Test.YtkmdkmlgahfcpaaDoorMm6
import Derived.Test.YtkmdkmlgahfcpaaDoorMm4
import Derived.Test.YtkmdkmlgahfcpaaDoorMm3
namespace Go.Proofs.YtkmdkmlgahfcpaaDoor.M
open Go.RowKit Go.Proofs.YtkmdkmlgahfcpaaDoorW.PrintWords Go.Proofs.YtkmdkmlgahfcpaaDoorW.PrintLast Go.Proofs.YtkmdkmlgahfcpaaDoorW.PrintMore
attribute [local go_sem] max2_int min2_int max_two min_two max_three min_three max_four min_four
set_option linter.unusedVariables false
set_option linter.unusedSimpArgs false
def spec_proofIn.f : Nat → Int → Int → Int → Bool → Option ((List (S57)))
 | 0, _, _, _, _ => none
 | k + 1, a0, a1_0, a1_1, a2 => if a0 = a1_1 then (if a2 = true then (some ([] : List (S57))) else (some (([(⟨a1_0, a1_1⟩ : S57)] : List (S57))))) else ((spec_split.f k (IntKind.u64.wrap (a1_1 - a1_0))).bind fun t462 => (if a0 ≤ (IntKind.u64.wrap (a1_0 + t462)) then ((spec_proofIn.f k a0 a1_0 (IntKind.u64.wrap (a1_0 + t462)) a2).bind fun t463 => ((some (([(⟨IntKind.u64.wrap (a1_0 + t462), a1_1⟩ : S57)] : List (S57)) : List (S57))).bind fun y466 => (if t463.length + y466.length < 8796093022208 then (some (t463 ++ y466)) else (none)))) else ((spec_proofIn.f k a0 (IntKind.u64.wrap (a1_0 + t462)) a1_1 false).bind fun t472 => ((some (([(⟨a1_0, IntKind.u64.wrap (a1_0 + t462)⟩ : S57)] : List (S57)) : List (S57))).bind fun y475 => (if t472.length + y475.length < 8796093022208 then (some (t472 ++ y475)) else (none))))))
def spec_proofIn.T5 : Bool × List (List Nat × List Nat) := (true, [([], []), ([0], [0]), ([], []), ([2], [2]), ([], []), ([4], [4]), ([3, 5], [3, 5]), ([6], [6]), ([1, 7], [1, 7]), ([8, 7, 0, 1, 2, 3, 4, 5, 6, 7, 8], [8])])
def spec_proofIn.B5 : List Nat := [0, 1, 0, 4, 0, 16, 60, 124, 255, 511]
theorem spec_proofIn.tab5 : rtab .any (opsOf Tryd.f87 5) = spec_proofIn.T5 := by kernel_rfl
theorem spec_proofIn.bits5 : waitsOk spec_proofIn.T5.2 spec_proofIn.B5 = true := by kernel_rfl
def spec_proofIn.T7 : Bool × List (List Nat × List Nat) := (true, [([], []), ([], []), ([1], [1]), ([], []), ([2, 3], [2, 3]), ([], []), ([0, 4, 5], [0, 4, 5]), ([], []), ([], []), ([8], [8]), ([7, 9], [7, 9]), ([10], [10]), ([6, 11, 6], [6, 11]), ([12, 12, 0, 1, 2, 3, 4, 5, 6, 7, 8, 9, 10, 11, 12], [12])])
def spec_proofIn.B7 : List Nat := [0, 0, 2, 0, 14, 0, 63, 0, 0, 256, 896, 1920, 4095, 8191]
theorem spec_proofIn.tab7 : rtab .any (opsOf Tryd.f87 7) = spec_proofIn.T7 := by kernel_rfl
theorem spec_proofIn.bits7 : waitsOk spec_proofIn.T7.2 spec_proofIn.B7 = true := by kernel_rfl
def spec_proofIn.T8 : Bool × List (List Nat × List Nat) := (true, [([], []), ([], []), ([], []), ([2], [2]), ([1, 3], [1, 3]), ([0, 4], [0, 4]), ([], []), ([6], [6]), ([], []), ([7, 8], [7, 8]), ([9], [9]), ([5, 10, 5], [5, 10]), ([11, 11, 0, 1, 2, 3, 4, 5, 6, 7, 8, 9, 10, 11], [11])])
def spec_proofIn.B8 : List Nat := [0, 0, 0, 4, 14, 31, 0, 64, 0, 448, 960, 2047, 4095]
theorem spec_proofIn.tab8 : rtab .any (opsOf Tryd.f87 8) = spec_proofIn.T8 := by kernel_rfl
theorem spec_proofIn.bits8 : waitsOk spec_proofIn.T8.2 spec_proofIn.B8 = true := by kernel_rfl
set_option maxHeartbeats 8000000 in
set_option maxRecDepth 100000 in
theorem spec_proofIn.calls (k : Nat) : ∀ (a0 : Int) (a1_0 : Int) (a1_1 : Int) (a2 : Bool) (r : List (S57)) (w : World) (h : spec_proofIn.f k a0 a1_0 a1_1 a2 = some r),
  Calls Tryd.prog 87 #[.int .u64 a0, .agg #[.int .u64 a1_0, .int .u64 a1_1], .bool a2] w fun e w' => ∃ v0_ : Value, e = .returned (v0_) ∧ Kd.R k57 57 w' w.heap.size (fun _ => True) v0_ r ∧ Below w.heap.size w w' := by
 induction k using Nat.strongRecOn with
 | _ k ih =>
 intro a0 a1_0 a1_1 a2 r w h
 cases k with
 | zero => exact absurd h (by simp [spec_proofIn.f])
 | succ k =>
 simp only [spec_proofIn.f] at h
 have hu57 := Tryd.underlying57
 have HB := zM (Below.refl w.heap.size w)
 have H : (if a0 = a1_1 then (if a2 = true then (some ([] : List (S57))) else (some (([(⟨a1_0, a1_1⟩ : S57)] : List (S57))))) else ((spec_split.f k (IntKind.u64.wrap (a1_1 - a1_0))).bind fun t462 => (if a0 ≤ (IntKind.u64.wrap (a1_0 + t462)) then ((spec_proofIn.f k a0 a1_0 (IntKind.u64.wrap (a1_0 + t462)) a2).bind fun t463 => ((some (([(⟨IntKind.u64.wrap (a1_0 + t462), a1_1⟩ : S57)] : List (S57)) : List (S57))).bind fun y466 => (if t463.length + y466.length < 8796093022208 then (some (t463 ++ y466)) else (none)))) else ((spec_proofIn.f k a0 (IntKind.u64.wrap (a1_0 + t462)) a1_1 false).bind fun t472 => ((some (([(⟨a1_0, IntKind.u64.wrap (a1_0 + t462)⟩ : S57)] : List (S57)) : List (S57))).bind fun y475 => (if t472.length + y475.length < 8796093022208 then (some (t472 ++ y475)) else (none))))))) = some r := h
 clear h
 by_cases c4 : a0 = a1_1
 ·rw [if_pos c4] at H
  have c4b0 : (a0 == a1_1) = true := beq_iff_eq.mpr c4
  have c4b1 : (a0 != a1_1) = false := bne_eq_false_iff_eq.mpr c4
  clear c4
  by_cases c5 : a2 = true
  ·subst c5
   have H1 : (some ([] : List (S57))) = some r := by rw [if_pos rfl] at H; exact H
   clear H
   have H := H1
   clear H1
   obtain rfl := Option.some.inj H
   go_enter Tryd.func87, Tryd.ntmps87
   go_wp2_with (first | ((with_reducible refine gate_dst (N := 4) rfl ?_); refine bx 4 #[.int .u64 a1_0, .int .u64 a1_1] 57 ?_; intro gb458 hg w6 hbox hb; have BK458 := zM (hbox); have GW458 := zM ((gB hg : w.heap.size ≤ gb458)); have GE458 := zM ((gB hg : w.heap.size ≤ gb458)); replace HB := zM (below_step bB hb); clear hb hbox hg; obtain ⟨hcz7_0, hcz7_1⟩ := h2 BK458; obtain ⟨hfz7_0, hfz7_1⟩ := f2 BK458))
   go_ret
   exact ⟨(.slice none 0 0), by first | rfl | (simp [errW_none, errW_some] <;> rfl) | (simp [*, errW_none, errW_some] <;> rfl), by first | exact Kd.V_nil _ _ _ _ _ | exact Kd.R_nil _ _ _ _ _ | exact Kd.S_nil _ _ _ _ _ | exact Kd.N_nil _ _ _ _ _ | exact Kd.Q_nil _ _ _ _ _, bB⟩
  ·replace c5 := Bool.eq_false_iff.mpr c5
   subst c5
   have H1 : (some (([(⟨a1_0, a1_1⟩ : S57)] : List (S57)))) = some r := by rw [if_neg (show ¬ (false = true) by decide)] at H; exact H
   clear H
   have H := H1
   clear H1
   obtain ⟨y459, hy459⟩ : ∃ y_ : List (S57), y_ = (([(⟨a1_0, a1_1⟩ : S57)] : List (S57))) := ⟨_, rfl⟩
   replace H : (some y459) = some r := by first | (rw [hy459]; with_reducible exact H) | (have H := (Option.bind_some _ _).symm.trans H; first | (rw [hy459]; with_reducible exact H) | with_reducible exact H) | (rw [hy459]; exact H) | exact H
   have Ny459 := zM hy459
   clear hy459
   obtain rfl := Option.some.inj H
   go_enter Tryd.func87, Tryd.ntmps87
   go_wp2_with (first | ((with_reducible refine gate_dst (N := 4) rfl ?_); refine bx 4 #[.int .u64 a1_0, .int .u64 a1_1] 57 ?_; intro gb458 hg w8 hbox hb; have BK458 := zM (hbox); have GW458 := zM ((gB hg : w.heap.size ≤ gb458)); have GE458 := zM ((gB hg : w.heap.size ≤ gb458)); replace HB := zM (below_step bB hb); clear hb hbox hg; obtain ⟨hcz9_0, hcz9_1⟩ := h2 BK458; obtain ⟨hfz9_0, hfz9_1⟩ := f2 BK458) | ((with_reducible refine gate_dst (N := 14) rfl ?_); refine Kd.R_lit k57 _ 57 ?hg (N := 14) ?hd (xs := ([(⟨a1_0, a1_1⟩ : S57)] : List (S57))) (inner := [.int .u64 a1_0, .int .u64 a1_1]) (ok := fun _ => True) (okp := fun _ => True) ?hr ?hp (fun _ hk => hk) trivial (Below.refl _ _) (Nat.le_refl _) (by simp) ?_; (case hd => rfl); (case hg => rfl); (case hr => first | (go_simp; done) | (go_simp; rfl)); (case hp => exact (Reps.c2 (show Kd.M k57 _ _ _ (⟨a1_0, a1_1⟩ : S57) [.int .u64 a1_0, .int .u64 a1_1] from (k57_mkM _ _ _ (⟨a1_0, a1_1⟩ : S57) )) (Reps.none _ _))); intro v460 w10 ho11 hb hg_ hnew_; clear hg_ hnew_; (first | rw [← Ny459.out] at ho11 | (simp only [Int.reduceToNat] at ho11; rw [← Ny459.out] at ho11)); have HO461 := zM (Kd.R_lower (Kd.R_newB ho11 (g := gb458) (o := .cells #[.int .u64 a1_0, .int .u64 a1_1] 57 (0, 0)) (kB BK458.out)) (below_size bB)); replace BK458 := zM (bK BK458 hb); replace HB := zM (below_step bB hb); clear hb ho11))
   go_ret
   exact ⟨_, by first | rfl | (simp [errW_none, errW_some] <;> rfl) | (simp [*, errW_none, errW_some] <;> rfl), by refine vR ?_; exact Kd.R_mono HO461.out (fun _ hk => trivial), bB⟩
 ·rw [if_neg c4] at H
  have c4b0 : (a0 == a1_1) = false := beq_eq_false_iff_ne.mpr c4
  have c4b1 : (a0 != a1_1) = true := bne_iff_ne.mpr c4
  replace H := Option.bind_eq_some_iff.mp H
  obtain ⟨t462, A120, H⟩ := H
  (try dsimp only at H)
  have A12 := zM A120
  clear A120
  by_cases c13 : a0 ≤ (IntKind.u64.wrap (a1_0 + t462))
  ·rw [if_pos c13] at H
   have c13b0 : decide (a0 ≤ (IntKind.u64.wrap (a1_0 + t462))) = true := decide_eq_true c13
   clear c13
   replace H := Option.bind_eq_some_iff.mp H
   obtain ⟨t463, A140, H⟩ := H
   (try dsimp only at H)
   have A14 := zM A140
   clear A140
   obtain ⟨y466, hy466⟩ : ∃ y_ : List (S57), y_ = (([(⟨IntKind.u64.wrap (a1_0 + t462), a1_1⟩ : S57)] : List (S57))) := ⟨_, rfl⟩
   replace H : (if t463.length + y466.length < 8796093022208 then (some (t463 ++ y466)) else (none)) = some r := by first | (rw [hy466]; with_reducible exact H) | (have H := (Option.bind_some _ _).symm.trans H; first | (rw [hy466]; with_reducible exact H) | with_reducible exact H) | (rw [hy466]; exact H) | exact H
   have Ny466 := zM hy466
   clear hy466
   by_cases c15 : t463.length + y466.length < 8796093022208
   ·rw [if_pos c15] at H
    have LMc15 := zM c15
    clear c15
    obtain ⟨y469, hy469⟩ : ∃ y_ : List (S57), y_ = (t463 ++ y466) := ⟨_, rfl⟩
    replace H : (some y469) = some r := by first | (rw [hy469]; with_reducible exact H) | (have H := (Option.bind_some _ _).symm.trans H; first | (rw [hy469]; with_reducible exact H) | with_reducible exact H) | (rw [hy469]; exact H) | exact H
    have Ny469 := zM hy469
    clear hy469
    obtain rfl := Option.some.inj H
    go_enter Tryd.func87, Tryd.ntmps87
    try go_wp2_with (first | ((with_reducible refine gate_dst (N := 4) rfl ?_); refine bx 4 #[.int .u64 a1_0, .int .u64 a1_1] 57 ?_; intro gb458 hg w16 hbox hb; have BK458 := zM (hbox); have GW458 := zM ((gB hg : w.heap.size ≤ gb458)); have GE458 := zM ((gB hg : w.heap.size ≤ gb458)); replace HB := zM (below_step bB hb); clear hb hbox hg; obtain ⟨hcz17_0, hcz17_1⟩ := h2 BK458; obtain ⟨hfz17_0, hfz17_1⟩ := f2 BK458))
    replace BK458 := zM (blk_drew BK458.out)
    replace HB := zM (below_drew1 HB.out)
    refine start_ (n := 10) (S := fun w' => C2 w' gb458 (.int .u64 a1_0) (.int .u64 a1_1)) (ds := []) #[ff,ff,ff,ff,ff,ff,ff,ff,ff,ff] (by kernel_rfl) rfl rfl (h2 BK458) (fun hHeld => ?_); refine with_tabW spec_proofIn.tab5 spec_proofIn.bits5 (fun HT_ HW_ => ?_)
    generalize w16.drew = w18 at BK458 HB hHeld ⊢
    refine pA 0 (some 15) #[tt,ff,ff,ff,ff,ff,ff,ff,ff,ff] HT_ ?_
    refine pA 2 (some 17) #[tt,ff,tt,ff,ff,ff,ff,ff,ff,ff] HT_ ?_
    refine pA 4 (some 19) #[tt,ff,tt,ff,tt,ff,ff,ff,ff,ff] HT_ ?_
    refine tA 1 (some 16) #[tt,tt,tt,ff,tt,ff,ff,ff,ff,ff] rfl rfl HT_ HW_ hHeld (by rintro w' ⟨s0, s1⟩; go_simp; with_reducible rfl) ?_
    refine tA 3 (some 18) #[tt,tt,tt,tt,tt,ff,ff,ff,ff,ff] rfl rfl HT_ HW_ hHeld (by rintro w' ⟨s0, s1⟩; go_simp; with_reducible rfl) ?_
    refine tA 5 (some 20) #[tt,tt,tt,tt,tt,tt,ff,ff,ff,ff] rfl rfl HT_ HW_ hHeld (by rintro w' ⟨s0, s1⟩; go_simp; with_reducible rfl) ?_
    refine pA 6 (some 21) #[tt,tt,tt,tt,tt,tt,tt,ff,ff,ff] HT_ ?_
    refine one_ (i := 7) (N := some 22) #[tt,tt,tt,tt,tt,tt,tt,tt,ff,ff] rfl rfl (one_of HT_.out (by kernel_rfl)) (by decide) (fun K hK => ?_)
    refine goes_ Tryd.func99 (by kernel_rfl) rfl #[.int .u64 (IntKind.u64.wrap (a1_1 - a1_0))] (by rfl) rfl rfl aV ?_
    with_reducible refine (spec_split.calls k (IntKind.u64.wrap (a1_1 - a1_0)) t462 _ A12.out).mono ?_
    rintro e w' ⟨rfl, ⟨nd, rfl⟩⟩
    refine ⟨_, rfl, ?_⟩
    refine hK.out _ _ (h2 BK458) (fun hHeld => ?_)
    clear hK K
    refine nS ?_
    refine pA 8 (some 23) #[tt,tt,tt,tt,tt,tt,tt,tt,tt,ff] HT_ ?_
    refine pA 9 (some 7) #[tt,tt,tt,tt,tt,tt,tt,tt,tt,tt] HT_ ?_
    refine done_ (done_of HT_.out (by kernel_rfl)) ?_
    try go_wp2
    (try (rw [drewN_self w18]; generalize hq_ : World.drewN w18 _ = w18; have n0_ : Aside0 (w18.heap[gb458]? = some (.cells #[.int .u64 a1_0, .int .u64 a1_1] 57 (0, 0))) := ⟨by rw [← hq_]; exact (kB BK458.out)⟩; have n1_ : Aside0 (Below w.heap.size w w18) := ⟨by rw [← hq_]; exact bB⟩; clear BK458 HB hq_; have BK458 := n0_; have HB := n1_; clear n0_ n1_))
    replace BK458 := zM (blk_drew BK458.out)
    replace HB := zM (below_drew1 HB.out)
    refine start_ (n := 14) (S := fun w' => C2 w' gb458 (.int .u64 a1_0) (.int .u64 a1_1)) (ds := []) #[ff,ff,ff,ff,ff,ff,ff,ff,ff,ff,ff,ff,ff,ff] (by kernel_rfl) rfl rfl (h2 BK458) (fun hHeld => ?_); refine with_tabW spec_proofIn.tab7 spec_proofIn.bits7 (fun HT_ HW_ => ?_)
    generalize w18.drew = w19 at BK458 HB hHeld ⊢
    refine pA 0 (some 27) #[tt,ff,ff,ff,ff,ff,ff,ff,ff,ff,ff,ff,ff,ff] HT_ ?_
    refine pA 1 (some 28) #[tt,tt,ff,ff,ff,ff,ff,ff,ff,ff,ff,ff,ff,ff] HT_ ?_
    refine pA 3 (some 30) #[tt,tt,ff,tt,ff,ff,ff,ff,ff,ff,ff,ff,ff,ff] HT_ ?_
    refine pA 5 (some 32) #[tt,tt,ff,tt,ff,tt,ff,ff,ff,ff,ff,ff,ff,ff] HT_ ?_
    refine pA 7 (some 34) #[tt,tt,ff,tt,ff,tt,ff,tt,ff,ff,ff,ff,ff,ff] HT_ ?_
    refine pA 8 (some 35) #[tt,tt,ff,tt,ff,tt,ff,tt,tt,ff,ff,ff,ff,ff] HT_ ?_
    refine tA 2 (some 29) #[tt,tt,tt,tt,ff,tt,ff,tt,tt,ff,ff,ff,ff,ff] rfl rfl HT_ HW_ hHeld (by rintro w' ⟨s0, s1⟩; go_simp; with_reducible rfl) ?_
    refine pA 4 (some 31) #[tt,tt,tt,tt,tt,tt,ff,tt,tt,ff,ff,ff,ff,ff] HT_ ?_
    refine tA 9 (some 36) #[tt,tt,tt,tt,tt,tt,ff,tt,tt,tt,ff,ff,ff,ff] rfl rfl HT_ HW_ hHeld (by rintro w' ⟨s0, s1⟩; go_simp; with_reducible rfl) ?_
    refine pA 10 (some 37) #[tt,tt,tt,tt,tt,tt,ff,tt,tt,tt,tt,ff,ff,ff] HT_ ?_
    refine join_ (σ := Value × Value) 2 #[tt,tt,tt,tt,tt,tt,tt,tt,tt,tt,tt,tt,ff,ff] (fun s_ => [(33, s_.1), (38, s_.2)]) (fun s_ w' => (C2 w' gb458 (.int .u64 a1_0) (.int .u64 a1_1)) ∧ (Kd.R k57 57 w' w.heap.size (fun k_ => some k_ ≠ (s_.2 : Value).ownBlock ∧ k_ ≠ gb458) s_.1 t463) ∧ (Kd.R k57 57 w' w.heap.size (fun k_ => some k_ ≠ (s_.1 : Value).ownBlock ∧ k_ ≠ gb458) s_.2 y466) ∧ (w'.heap[gb458]? = some (.cells #[.int .u64 a1_0, .int .u64 a1_1] 57 (0, 0))) ∧ (Below w.heap.size w w')) ?_ ?_
    rotate_left
    ·intro hCont
     refine two_ (i := 6) (j := 11) (Ni := some 33) (Nj := some 38) #[tt,tt,tt,tt,tt,tt,tt,tt,tt,tt,tt,ff,ff,ff] #[tt,tt,tt,tt,tt,tt,ff,tt,tt,tt,tt,tt,ff,ff] rfl rfl rfl rfl (two_of HT_.out (by kernel_rfl)) (by decide) (by decide) (fun K hK => ?_) (fun K hK => ?_)
     ·skip
      refine goes_ Tryd.func87 (by kernel_rfl) rfl #[.int .u64 a0, .agg #[.int .u64 a1_0, .int .u64 (IntKind.u64.wrap (a1_0 + t462))], .bool a2] (by rfl) rfl rfl aV ?_
      with_reducible refine (ih k (by omega) a0 a1_0 (IntKind.u64.wrap (a1_0 + t462)) a2 t463 _ A14.out).mono ?_
      rintro e w20 ⟨v464, rfl, ho0, hb⟩
      refine ⟨_, rfl, ?_⟩
      have HO465 := zM (Kd.R_lower (Kd.R_newB ho0 (g := gb458) (o := .cells #[.int .u64 a1_0, .int .u64 a1_1] 57 (0, 0)) (kB BK458.out)) (below_size bB))
      replace BK458 := zM (bK BK458 hb)
      replace HB := zM (below_step bB hb)
      refine hK.out _ _ (h2 BK458) (fun hHeld => ?_)
      clear hK K
      refine nS ?_
      refine one_ (i := 11) (N := some 38) #[tt,tt,tt,tt,tt,tt,tt,tt,tt,tt,tt,tt,ff,ff] rfl rfl (one_of HT_.out (by kernel_rfl)) (by decide) (fun K hK => ?_)
      refine Kd.R_lit_step k57 _ 57 ?hg (N := 38) ?hd (xs := ([(⟨IntKind.u64.wrap (a1_0 + t462), a1_1⟩ : S57)] : List (S57))) (inner := [.int .u64 (IntKind.u64.wrap (a1_0 + t462)), .int .u64 a1_1]) (ok := fun _ => True) (okp := fun _ => True) ?hr ?hp (fun _ hk => hk) trivial (Below.refl _ _) (Nat.le_refl _) (by simp) ?_; (case hd => rfl); (case hg => rfl); (case hr => first | (go_simp; done) | (go_simp; rfl)); (case hp => exact (Reps.c2 (show Kd.M k57 _ _ _ (⟨IntKind.u64.wrap (a1_0 + t462), a1_1⟩ : S57) [.int .u64 (IntKind.u64.wrap (a1_0 + t462)), .int .u64 a1_1] from (k57_mkM _ _ _ (⟨IntKind.u64.wrap (a1_0 + t462), a1_1⟩ : S57) )) (Reps.none _ _)))
      intro v467 w21 ho22 hb hg_ hnew_
      clear hg_ hnew_
      (first | rw [← Ny466.out] at ho22 | (simp only [Int.reduceToNat] at ho22; rw [← Ny466.out] at ho22))
      have HO468 := zM (Kd.R_lower (Kd.R_newB (Kd.R_new' ho22 (Kd.R_lt (kR HO465.out))) (g := gb458) (o := .cells #[.int .u64 a1_0, .int .u64 a1_1] 57 (0, 0)) (kB BK458.out)) (below_size bB))
      replace HO465 := zM (Kd.R_elder' (kR HO465.out) (Kd.R_base ho22) hb)
      replace BK458 := zM (bK BK458 hb)
      replace HB := zM (below_step bB hb)
      clear hb ho22
      refine hK.out _ _ (h2 BK458) (fun hHeld => ?_)
      clear hK K
      refine nS ?_
      exact norm_ (by simp only [putAll, Act.put, List.setIfInBounds_toArray, List.set_cons_zero, List.set_cons_succ]) (hCont (v464, v467) _ ⟨hHeld, (by refine vR ?_; exact Kd.R_mono HO465.out (fun _ hk => ⟨hk.2, hk.1.2⟩)), (by refine vR ?_; exact Kd.R_mono HO468.out (fun _ hk => ⟨hk.1.2, hk.2⟩)), (kB BK458.out), bB⟩)
     ·skip
      refine Kd.R_lit_step k57 _ 57 ?hg (N := 38) ?hd (xs := ([(⟨IntKind.u64.wrap (a1_0 + t462), a1_1⟩ : S57)] : List (S57))) (inner := [.int .u64 (IntKind.u64.wrap (a1_0 + t462)), .int .u64 a1_1]) (ok := fun _ => True) (okp := fun _ => True) ?hr ?hp (fun _ hk => hk) trivial (Below.refl _ _) (Nat.le_refl _) (by simp) ?_; (case hd => rfl); (case hg => rfl); (case hr => first | (go_simp; done) | (go_simp; rfl)); (case hp => exact (Reps.c2 (show Kd.M k57 _ _ _ (⟨IntKind.u64.wrap (a1_0 + t462), a1_1⟩ : S57) [.int .u64 (IntKind.u64.wrap (a1_0 + t462)), .int .u64 a1_1] from (k57_mkM _ _ _ (⟨IntKind.u64.wrap (a1_0 + t462), a1_1⟩ : S57) )) (Reps.none _ _)))
      intro v467 w20 ho21 hb hg_ hnew_
      clear hg_ hnew_
      (first | rw [← Ny466.out] at ho21 | (simp only [Int.reduceToNat] at ho21; rw [← Ny466.out] at ho21))
      have HO468 := zM (Kd.R_lower (Kd.R_newB ho21 (g := gb458) (o := .cells #[.int .u64 a1_0, .int .u64 a1_1] 57 (0, 0)) (kB BK458.out)) (below_size bB))
      replace BK458 := zM (bK BK458 hb)
      replace HB := zM (below_step bB hb)
      clear hb ho21
      refine hK.out _ _ (h2 BK458) (fun hHeld => ?_)
      clear hK K
      refine nS ?_
      refine one_ (i := 6) (N := some 33) #[tt,tt,tt,tt,tt,tt,tt,tt,tt,tt,tt,tt,ff,ff] rfl rfl (one_of HT_.out (by kernel_rfl)) (by decide) (fun K hK => ?_)
      refine goes_ Tryd.func87 (by kernel_rfl) rfl #[.int .u64 a0, .agg #[.int .u64 a1_0, .int .u64 (IntKind.u64.wrap (a1_0 + t462))], .bool a2] (by rfl) rfl rfl aV ?_
      with_reducible refine (ih k (by omega) a0 a1_0 (IntKind.u64.wrap (a1_0 + t462)) a2 t463 _ A14.out).mono ?_
      rintro e w22 ⟨v464, rfl, ho0, hb⟩
      refine ⟨_, rfl, ?_⟩
      have HO465 := zM (Kd.R_lower (Kd.R_newB (Kd.R_new' ho0 (Kd.R_lt (kR HO468.out))) (g := gb458) (o := .cells #[.int .u64 a1_0, .int .u64 a1_1] 57 (0, 0)) (kB BK458.out)) (below_size bB))
      replace HO468 := zM (Kd.R_elder' (kR HO468.out) (Kd.R_base ho0) hb)
      replace BK458 := zM (bK BK458 hb)
      replace HB := zM (below_step bB hb)
      refine hK.out _ _ (h2 BK458) (fun hHeld => ?_)
      clear hK K
      refine nS ?_
      exact norm_ (by simp only [putAll, Act.put, List.setIfInBounds_toArray, List.set_cons_zero, List.set_cons_succ]) (hCont (v464, v467) _ ⟨hHeld, (by refine vR ?_; exact Kd.R_mono HO465.out (fun _ hk => ⟨hk.1.2, hk.2⟩)), (by refine vR ?_; exact Kd.R_mono HO468.out (fun _ hk => ⟨hk.2, hk.1.2⟩)), (kB BK458.out), bB⟩)
    rintro ⟨v464, v467⟩ w23 ⟨hS_, h0_, h1_, h2_, h3_⟩
    have n0_ : Aside0 (Kd.R k57 57 w23 w.heap.size (fun k_ => some k_ ≠ (v467 : Value).ownBlock ∧ k_ ≠ gb458) v464 t463) := ⟨h0_⟩
    have n1_ : Aside0 (Kd.R k57 57 w23 w.heap.size (fun k_ => some k_ ≠ (v464 : Value).ownBlock ∧ k_ ≠ gb458) v467 y466) := ⟨h1_⟩
    have n2_ : Aside0 (w23.heap[gb458]? = some (.cells #[.int .u64 a1_0, .int .u64 a1_1] 57 (0, 0))) := ⟨h2_⟩
    have n3_ : Aside0 (Below w.heap.size w w23) := ⟨h3_⟩
    clear BK458
    clear HB
    clear h0_ h1_ h2_ h3_
    have HO465 := n0_
    have HO468 := n1_
    have BK458 := n2_
    have HB := n3_
    clear n0_ n1_ n2_ n3_
    have hHeld : C2 w23 gb458 (.int .u64 a1_0) (.int .u64 a1_1) := hS_
    obtain ⟨Ao25, co25, eo25⟩ := Kd.R_slice HO468.out
    (first | subst eo25 | (injection eo25 with f1_ f2_ f3_; have f4_ := f1_.symm; have f5_ := f3_.symm; clear f1_ f2_ f3_; subst f4_; subst f5_))
    refine nB ?_
    refine one_ (i := 12) (N := some 39) #[tt,tt,tt,tt,tt,tt,tt,tt,tt,tt,tt,tt,tt,ff] rfl rfl (one_of HT_.out (by kernel_rfl)) (by decide) (fun K hK => ?_)
    refine Kd.R_append_rows_step k57 (w0 := w) w.heap.size (by rfl) (.tmp 33) (.tmp 38) 93 57 (.agg #[(.int .u64 0), (.int .u64 0)]) 16 rfl Tryd.underlying93 info57 rfl (by decide) (by omega) v464 t463 y466 _ _ _ (fun k_ => some k_ ≠ (.slice Ao25 y466.length co25 : Value).ownBlock ∧ k_ ≠ gb458) (fun _ => False) rfl rfl ?aO ?aR (fun _ _ h => h) (fun _ h => h.elim) ?aF ?aB ?aS ?aL ?_
    (case aR => repeat (first | exact (Kd.R_reads' HO468.out).2.2 | (with_reducible refine Kd.C_alloc ?_ _) | (with_reducible refine Kd.C_drewN ?_ _) | (with_reducible refine Kd.C_drew ?_)))
    (case aB => exact bB)
    (case aF => exact (fun k_ hk => ⟨Kd.fresh' (Kd.R_lt (kR HO468.out)) k_ hk, Kd.freshB (g := gb458) (o := .cells #[.int .u64 a1_0, .int .u64 a1_1] 57 (0, 0)) (kB BK458.out) k_ hk⟩))
    (case aO => exact (kR HO465.out))
    (case aS => exact (below_size bB))
    (case aL => have := LMc15.out; omega)
    intro v470 w24 ho hb hg hat
    rw [← Ny469.out] at ho
    replace BK458 := zM (blk_grown (g := gb458) (o := .cells #[.int .u64 a1_0, .int .u64 a1_1] 57 (0, 0)) (kB BK458.out) hg (Kd.R_away HO465.out (fun _ hk => hk.2)))
    replace HO468 := zM (Kd.R_after (ok := (fun k_ => k_ ≠ gb458)) (by refine vR ?_; exact Kd.R_mono HO468.out (fun _ hk => ⟨hk.2, hk.1⟩)) hg hat)
    replace HB := zM (hb)
    have HO471 := zM (ho)
    clear HO465
    clear ho hb hg hat
    refine hK.out _ _ (h2 BK458) (fun hHeld => ?_)
    clear hK K
    refine nS ?_
    refine pA 13 (some 6) #[tt,tt,tt,tt,tt,tt,tt,tt,tt,tt,tt,tt,tt,tt] HT_ ?_
    refine done_ (done_of HT_.out (by kernel_rfl)) ?_
    try go_wp2
    go_ret
    exact ⟨_, by first | rfl | (simp [errW_none, errW_some] <;> rfl) | (simp [*, errW_none, errW_some] <;> rfl), by refine vR ?_; exact Kd.R_mono HO471.out (fun _ hk => trivial), bB⟩
   ·rw [if_neg c15] at H
    exact absurd H (by simp)
  ·rw [if_neg c13] at H
   have c13b0 : decide (a0 ≤ (IntKind.u64.wrap (a1_0 + t462))) = false := decide_eq_false c13
   clear c13
   replace H := Option.bind_eq_some_iff.mp H
   obtain ⟨t472, A260, H⟩ := H
   (try dsimp only at H)
   have A26 := zM A260
   clear A260
   obtain ⟨y475, hy475⟩ : ∃ y_ : List (S57), y_ = (([(⟨a1_0, IntKind.u64.wrap (a1_0 + t462)⟩ : S57)] : List (S57))) := ⟨_, rfl⟩
   replace H : (if t472.length + y475.length < 8796093022208 then (some (t472 ++ y475)) else (none)) = some r := by first | (rw [hy475]; with_reducible exact H) | (have H := (Option.bind_some _ _).symm.trans H; first | (rw [hy475]; with_reducible exact H) | with_reducible exact H) | (rw [hy475]; exact H) | exact H
   have Ny475 := zM hy475
   clear hy475
   by_cases c27 : t472.length + y475.length < 8796093022208
   ·rw [if_pos c27] at H
    have LMc27 := zM c27
    clear c27
    obtain ⟨y478, hy478⟩ : ∃ y_ : List (S57), y_ = (t472 ++ y475) := ⟨_, rfl⟩
    replace H : (some y478) = some r := by first | (rw [hy478]; with_reducible exact H) | (have H := (Option.bind_some _ _).symm.trans H; first | (rw [hy478]; with_reducible exact H) | with_reducible exact H) | (rw [hy478]; exact H) | exact H
    have Ny478 := zM hy478
    clear hy478
    obtain rfl := Option.some.inj H
    go_enter Tryd.func87, Tryd.ntmps87
    try go_wp2_with (first | ((with_reducible refine gate_dst (N := 4) rfl ?_); refine bx 4 #[.int .u64 a1_0, .int .u64 a1_1] 57 ?_; intro gb458 hg w28 hbox hb; have BK458 := zM (hbox); have GW458 := zM ((gB hg : w.heap.size ≤ gb458)); have GE458 := zM ((gB hg : w.heap.size ≤ gb458)); replace HB := zM (below_step bB hb); clear hb hbox hg; obtain ⟨hcz29_0, hcz29_1⟩ := h2 BK458; obtain ⟨hfz29_0, hfz29_1⟩ := f2 BK458))
    replace BK458 := zM (blk_drew BK458.out)
    replace HB := zM (below_drew1 HB.out)
    refine start_ (n := 10) (S := fun w' => C2 w' gb458 (.int .u64 a1_0) (.int .u64 a1_1)) (ds := []) #[ff,ff,ff,ff,ff,ff,ff,ff,ff,ff] (by kernel_rfl) rfl rfl (h2 BK458) (fun hHeld => ?_); refine with_tabW spec_proofIn.tab5 spec_proofIn.bits5 (fun HT_ HW_ => ?_)
    generalize w28.drew = w30 at BK458 HB hHeld ⊢
    refine pA 0 (some 15) #[tt,ff,ff,ff,ff,ff,ff,ff,ff,ff] HT_ ?_
    refine pA 2 (some 17) #[tt,ff,tt,ff,ff,ff,ff,ff,ff,ff] HT_ ?_
    refine pA 4 (some 19) #[tt,ff,tt,ff,tt,ff,ff,ff,ff,ff] HT_ ?_
    refine tA 1 (some 16) #[tt,tt,tt,ff,tt,ff,ff,ff,ff,ff] rfl rfl HT_ HW_ hHeld (by rintro w' ⟨s0, s1⟩; go_simp; with_reducible rfl) ?_
    refine tA 3 (some 18) #[tt,tt,tt,tt,tt,ff,ff,ff,ff,ff] rfl rfl HT_ HW_ hHeld (by rintro w' ⟨s0, s1⟩; go_simp; with_reducible rfl) ?_
    refine tA 5 (some 20) #[tt,tt,tt,tt,tt,tt,ff,ff,ff,ff] rfl rfl HT_ HW_ hHeld (by rintro w' ⟨s0, s1⟩; go_simp; with_reducible rfl) ?_
    refine pA 6 (some 21) #[tt,tt,tt,tt,tt,tt,tt,ff,ff,ff] HT_ ?_
    refine one_ (i := 7) (N := some 22) #[tt,tt,tt,tt,tt,tt,tt,tt,ff,ff] rfl rfl (one_of HT_.out (by kernel_rfl)) (by decide) (fun K hK => ?_)
    refine goes_ Tryd.func99 (by kernel_rfl) rfl #[.int .u64 (IntKind.u64.wrap (a1_1 - a1_0))] (by rfl) rfl rfl aV ?_
    with_reducible refine (spec_split.calls k (IntKind.u64.wrap (a1_1 - a1_0)) t462 _ A12.out).mono ?_
    rintro e w' ⟨rfl, ⟨nd, rfl⟩⟩
    refine ⟨_, rfl, ?_⟩
    refine hK.out _ _ (h2 BK458) (fun hHeld => ?_)
    clear hK K
    refine nS ?_
    refine pA 8 (some 23) #[tt,tt,tt,tt,tt,tt,tt,tt,tt,ff] HT_ ?_
    refine pA 9 (some 7) #[tt,tt,tt,tt,tt,tt,tt,tt,tt,tt] HT_ ?_
    refine done_ (done_of HT_.out (by kernel_rfl)) ?_
    try go_wp2
    (try (rw [drewN_self w30]; generalize hq_ : World.drewN w30 _ = w30; have n0_ : Aside0 (w30.heap[gb458]? = some (.cells #[.int .u64 a1_0, .int .u64 a1_1] 57 (0, 0))) := ⟨by rw [← hq_]; exact (kB BK458.out)⟩; have n1_ : Aside0 (Below w.heap.size w w30) := ⟨by rw [← hq_]; exact bB⟩; clear BK458 HB hq_; have BK458 := n0_; have HB := n1_; clear n0_ n1_))
    replace BK458 := zM (blk_drew BK458.out)
    replace HB := zM (below_drew1 HB.out)
    refine start_ (n := 13) (S := fun w' => C2 w' gb458 (.int .u64 a1_0) (.int .u64 a1_1)) (ds := []) #[ff,ff,ff,ff,ff,ff,ff,ff,ff,ff,ff,ff,ff] (by kernel_rfl) rfl rfl (h2 BK458) (fun hHeld => ?_); refine with_tabW spec_proofIn.tab8 spec_proofIn.bits8 (fun HT_ HW_ => ?_)
    generalize w30.drew = w31 at BK458 HB hHeld ⊢
    refine pA 0 (some 40) #[tt,ff,ff,ff,ff,ff,ff,ff,ff,ff,ff,ff,ff] HT_ ?_
    refine pA 1 (some 41) #[tt,tt,ff,ff,ff,ff,ff,ff,ff,ff,ff,ff,ff] HT_ ?_
    refine pA 2 (some 42) #[tt,tt,tt,ff,ff,ff,ff,ff,ff,ff,ff,ff,ff] HT_ ?_
    refine pA 6 (some 46) #[tt,tt,tt,ff,ff,ff,tt,ff,ff,ff,ff,ff,ff] HT_ ?_
    refine pA 8 (some 48) #[tt,tt,tt,ff,ff,ff,tt,ff,tt,ff,ff,ff,ff] HT_ ?_
    refine tA 3 (some 43) #[tt,tt,tt,tt,ff,ff,tt,ff,tt,ff,ff,ff,ff] rfl rfl HT_ HW_ hHeld (by rintro w' ⟨s0, s1⟩; go_simp; with_reducible rfl) ?_
    refine pA 4 (some 44) #[tt,tt,tt,tt,tt,ff,tt,ff,tt,ff,ff,ff,ff] HT_ ?_
    refine tA 7 (some 47) #[tt,tt,tt,tt,tt,ff,tt,tt,tt,ff,ff,ff,ff] rfl rfl HT_ HW_ hHeld (by rintro w' ⟨s0, s1⟩; go_simp; with_reducible rfl) ?_
    refine pA 9 (some 49) #[tt,tt,tt,tt,tt,ff,tt,tt,tt,tt,ff,ff,ff] HT_ ?_
    refine join_ (σ := Value × Value) 2 #[tt,tt,tt,tt,tt,tt,tt,tt,tt,tt,tt,ff,ff] (fun s_ => [(45, s_.1), (50, s_.2)]) (fun s_ w' => (C2 w' gb458 (.int .u64 a1_0) (.int .u64 a1_1)) ∧ (Kd.R k57 57 w' w.heap.size (fun k_ => some k_ ≠ (s_.2 : Value).ownBlock ∧ k_ ≠ gb458) s_.1 t472) ∧ (Kd.R k57 57 w' w.heap.size (fun k_ => some k_ ≠ (s_.1 : Value).ownBlock ∧ k_ ≠ gb458) s_.2 y475) ∧ (w'.heap[gb458]? = some (.cells #[.int .u64 a1_0, .int .u64 a1_1] 57 (0, 0))) ∧ (Below w.heap.size w w')) ?_ ?_
    rotate_left
    ·intro hCont
     refine two_ (i := 5) (j := 10) (Ni := some 45) (Nj := some 50) #[tt,tt,tt,tt,tt,tt,tt,tt,tt,tt,ff,ff,ff] #[tt,tt,tt,tt,tt,ff,tt,tt,tt,tt,tt,ff,ff] rfl rfl rfl rfl (two_of HT_.out (by kernel_rfl)) (by decide) (by decide) (fun K hK => ?_) (fun K hK => ?_)
     ·skip
      refine goes_ Tryd.func87 (by kernel_rfl) rfl #[.int .u64 a0, .agg #[.int .u64 (IntKind.u64.wrap (a1_0 + t462)), .int .u64 a1_1], .bool false] (by rfl) rfl rfl aV ?_
      with_reducible refine (ih k (by omega) a0 (IntKind.u64.wrap (a1_0 + t462)) a1_1 false t472 _ A26.out).mono ?_
      rintro e w32 ⟨v473, rfl, ho0, hb⟩
      refine ⟨_, rfl, ?_⟩
      have HO474 := zM (Kd.R_lower (Kd.R_newB ho0 (g := gb458) (o := .cells #[.int .u64 a1_0, .int .u64 a1_1] 57 (0, 0)) (kB BK458.out)) (below_size bB))
      replace BK458 := zM (bK BK458 hb)
      replace HB := zM (below_step bB hb)
      refine hK.out _ _ (h2 BK458) (fun hHeld => ?_)
      clear hK K
      refine nS ?_
      refine one_ (i := 10) (N := some 50) #[tt,tt,tt,tt,tt,tt,tt,tt,tt,tt,tt,ff,ff] rfl rfl (one_of HT_.out (by kernel_rfl)) (by decide) (fun K hK => ?_)
      refine Kd.R_lit_step k57 _ 57 ?hg (N := 50) ?hd (xs := ([(⟨a1_0, IntKind.u64.wrap (a1_0 + t462)⟩ : S57)] : List (S57))) (inner := [.int .u64 a1_0, .int .u64 (IntKind.u64.wrap (a1_0 + t462))]) (ok := fun _ => True) (okp := fun _ => True) ?hr ?hp (fun _ hk => hk) trivial (Below.refl _ _) (Nat.le_refl _) (by simp) ?_; (case hd => rfl); (case hg => rfl); (case hr => first | (go_simp; done) | (go_simp; rfl)); (case hp => exact (Reps.c2 (show Kd.M k57 _ _ _ (⟨a1_0, IntKind.u64.wrap (a1_0 + t462)⟩ : S57) [.int .u64 a1_0, .int .u64 (IntKind.u64.wrap (a1_0 + t462))] from (k57_mkM _ _ _ (⟨a1_0, IntKind.u64.wrap (a1_0 + t462)⟩ : S57) )) (Reps.none _ _)))
      intro v476 w33 ho34 hb hg_ hnew_
      clear hg_ hnew_
      (first | rw [← Ny475.out] at ho34 | (simp only [Int.reduceToNat] at ho34; rw [← Ny475.out] at ho34))
      have HO477 := zM (Kd.R_lower (Kd.R_newB (Kd.R_new' ho34 (Kd.R_lt (kR HO474.out))) (g := gb458) (o := .cells #[.int .u64 a1_0, .int .u64 a1_1] 57 (0, 0)) (kB BK458.out)) (below_size bB))
      replace HO474 := zM (Kd.R_elder' (kR HO474.out) (Kd.R_base ho34) hb)
      replace BK458 := zM (bK BK458 hb)
      replace HB := zM (below_step bB hb)
      clear hb ho34
      refine hK.out _ _ (h2 BK458) (fun hHeld => ?_)
      clear hK K
      refine nS ?_
      exact norm_ (by simp only [putAll, Act.put, List.setIfInBounds_toArray, List.set_cons_zero, List.set_cons_succ]) (hCont (v473, v476) _ ⟨hHeld, (by refine vR ?_; exact Kd.R_mono HO474.out (fun _ hk => ⟨hk.2, hk.1.2⟩)), (by refine vR ?_; exact Kd.R_mono HO477.out (fun _ hk => ⟨hk.1.2, hk.2⟩)), (kB BK458.out), bB⟩)
     ·skip
      refine Kd.R_lit_step k57 _ 57 ?hg (N := 50) ?hd (xs := ([(⟨a1_0, IntKind.u64.wrap (a1_0 + t462)⟩ : S57)] : List (S57))) (inner := [.int .u64 a1_0, .int .u64 (IntKind.u64.wrap (a1_0 + t462))]) (ok := fun _ => True) (okp := fun _ => True) ?hr ?hp (fun _ hk => hk) trivial (Below.refl _ _) (Nat.le_refl _) (by simp) ?_; (case hd => rfl); (case hg => rfl); (case hr => first | (go_simp; done) | (go_simp; rfl)); (case hp => exact (Reps.c2 (show Kd.M k57 _ _ _ (⟨a1_0, IntKind.u64.wrap (a1_0 + t462)⟩ : S57) [.int .u64 a1_0, .int .u64 (IntKind.u64.wrap (a1_0 + t462))] from (k57_mkM _ _ _ (⟨a1_0, IntKind.u64.wrap (a1_0 + t462)⟩ : S57) )) (Reps.none _ _)))
      intro v476 w32 ho33 hb hg_ hnew_
      clear hg_ hnew_
      (first | rw [← Ny475.out] at ho33 | (simp only [Int.reduceToNat] at ho33; rw [← Ny475.out] at ho33))
      have HO477 := zM (Kd.R_lower (Kd.R_newB ho33 (g := gb458) (o := .cells #[.int .u64 a1_0, .int .u64 a1_1] 57 (0, 0)) (kB BK458.out)) (below_size bB))
      replace BK458 := zM (bK BK458 hb)
      replace HB := zM (below_step bB hb)
      clear hb ho33
      refine hK.out _ _ (h2 BK458) (fun hHeld => ?_)
      clear hK K
      refine nS ?_
      refine one_ (i := 5) (N := some 45) #[tt,tt,tt,tt,tt,tt,tt,tt,tt,tt,tt,ff,ff] rfl rfl (one_of HT_.out (by kernel_rfl)) (by decide) (fun K hK => ?_)
      refine goes_ Tryd.func87 (by kernel_rfl) rfl #[.int .u64 a0, .agg #[.int .u64 (IntKind.u64.wrap (a1_0 + t462)), .int .u64 a1_1], .bool false] (by rfl) rfl rfl aV ?_
      with_reducible refine (ih k (by omega) a0 (IntKind.u64.wrap (a1_0 + t462)) a1_1 false t472 _ A26.out).mono ?_
      rintro e w34 ⟨v473, rfl, ho0, hb⟩
      refine ⟨_, rfl, ?_⟩
      have HO474 := zM (Kd.R_lower (Kd.R_newB (Kd.R_new' ho0 (Kd.R_lt (kR HO477.out))) (g := gb458) (o := .cells #[.int .u64 a1_0, .int .u64 a1_1] 57 (0, 0)) (kB BK458.out)) (below_size bB))
      replace HO477 := zM (Kd.R_elder' (kR HO477.out) (Kd.R_base ho0) hb)
      replace BK458 := zM (bK BK458 hb)
      replace HB := zM (below_step bB hb)
      refine hK.out _ _ (h2 BK458) (fun hHeld => ?_)
      clear hK K
      refine nS ?_
      exact norm_ (by simp only [putAll, Act.put, List.setIfInBounds_toArray, List.set_cons_zero, List.set_cons_succ]) (hCont (v473, v476) _ ⟨hHeld, (by refine vR ?_; exact Kd.R_mono HO474.out (fun _ hk => ⟨hk.1.2, hk.2⟩)), (by refine vR ?_; exact Kd.R_mono HO477.out (fun _ hk => ⟨hk.2, hk.1.2⟩)), (kB BK458.out), bB⟩)
    rintro ⟨v473, v476⟩ w35 ⟨hS_, h0_, h1_, h2_, h3_⟩
    have n0_ : Aside0 (Kd.R k57 57 w35 w.heap.size (fun k_ => some k_ ≠ (v476 : Value).ownBlock ∧ k_ ≠ gb458) v473 t472) := ⟨h0_⟩
    have n1_ : Aside0 (Kd.R k57 57 w35 w.heap.size (fun k_ => some k_ ≠ (v473 : Value).ownBlock ∧ k_ ≠ gb458) v476 y475) := ⟨h1_⟩
    have n2_ : Aside0 (w35.heap[gb458]? = some (.cells #[.int .u64 a1_0, .int .u64 a1_1] 57 (0, 0))) := ⟨h2_⟩
    have n3_ : Aside0 (Below w.heap.size w w35) := ⟨h3_⟩
    clear BK458
    clear HB
    clear h0_ h1_ h2_ h3_
    have HO474 := n0_
    have HO477 := n1_
    have BK458 := n2_
    have HB := n3_
    clear n0_ n1_ n2_ n3_
    have hHeld : C2 w35 gb458 (.int .u64 a1_0) (.int .u64 a1_1) := hS_
    obtain ⟨Ao37, co37, eo37⟩ := Kd.R_slice HO477.out
    (first | subst eo37 | (injection eo37 with f1_ f2_ f3_; have f4_ := f1_.symm; have f5_ := f3_.symm; clear f1_ f2_ f3_; subst f4_; subst f5_))
    refine nB ?_
    refine one_ (i := 11) (N := some 51) #[tt,tt,tt,tt,tt,tt,tt,tt,tt,tt,tt,tt,ff] rfl rfl (one_of HT_.out (by kernel_rfl)) (by decide) (fun K hK => ?_)
    refine Kd.R_append_rows_step k57 (w0 := w) w.heap.size (by rfl) (.tmp 45) (.tmp 50) 93 57 (.agg #[(.int .u64 0), (.int .u64 0)]) 16 rfl Tryd.underlying93 info57 rfl (by decide) (by omega) v473 t472 y475 _ _ _ (fun k_ => some k_ ≠ (.slice Ao37 y475.length co37 : Value).ownBlock ∧ k_ ≠ gb458) (fun _ => False) rfl rfl ?aO ?aR (fun _ _ h => h) (fun _ h => h.elim) ?aF ?aB ?aS ?aL ?_
    (case aR => repeat (first | exact (Kd.R_reads' HO477.out).2.2 | (with_reducible refine Kd.C_alloc ?_ _) | (with_reducible refine Kd.C_drewN ?_ _) | (with_reducible refine Kd.C_drew ?_)))
    (case aB => exact bB)
    (case aF => exact (fun k_ hk => ⟨Kd.fresh' (Kd.R_lt (kR HO477.out)) k_ hk, Kd.freshB (g := gb458) (o := .cells #[.int .u64 a1_0, .int .u64 a1_1] 57 (0, 0)) (kB BK458.out) k_ hk⟩))
    (case aO => exact (kR HO474.out))
    (case aS => exact (below_size bB))
    (case aL => have := LMc27.out; omega)
    intro v479 w36 ho hb hg hat
    rw [← Ny478.out] at ho
    replace BK458 := zM (blk_grown (g := gb458) (o := .cells #[.int .u64 a1_0, .int .u64 a1_1] 57 (0, 0)) (kB BK458.out) hg (Kd.R_away HO474.out (fun _ hk => hk.2)))
    replace HO477 := zM (Kd.R_after (ok := (fun k_ => k_ ≠ gb458)) (by refine vR ?_; exact Kd.R_mono HO477.out (fun _ hk => ⟨hk.2, hk.1⟩)) hg hat)
    replace HB := zM (hb)
    have HO480 := zM (ho)
    clear HO474
    clear ho hb hg hat
    refine hK.out _ _ (h2 BK458) (fun hHeld => ?_)
    clear hK K
    refine nS ?_
    refine pA 12 (some 6) #[tt,tt,tt,tt,tt,tt,tt,tt,tt,tt,tt,tt,tt] HT_ ?_
    refine done_ (done_of HT_.out (by kernel_rfl)) ?_
    try go_wp2
    go_ret
    exact ⟨_, by first | rfl | (simp [errW_none, errW_some] <;> rfl) | (simp [*, errW_none, errW_some] <;> rfl), by refine vR ?_; exact Kd.R_mono HO480.out (fun _ hk => trivial), bB⟩
   ·rw [if_neg c27] at H
    exact absurd H (by simp)
def spec_ProofParts.f (k : Nat) (a0 : Int) (a1 : Int) : Option ((List (S57))) := (spec_proofIn.f k a0 0 a1 true).bind fun t481 => (some t481)
set_option maxHeartbeats 8000000 in
set_option maxRecDepth 100000 in
theorem spec_ProofParts.calls (k : Nat) (a0 : Int) (a1 : Int) (r : List (S57)) (w : World) (h : spec_ProofParts.f k a0 a1 = some r) :
  Calls Tryd.prog 50 #[.int .u64 a0, .int .u64 a1] w fun e w' => ∃ v0_ : Value, e = .returned (v0_) ∧ Kd.R k57 57 w' w.heap.size (fun _ => True) v0_ r ∧ Below w.heap.size w w' := by
 have hu57 := Tryd.underlying57
 have HB := zM (Below.refl w.heap.size w)
 have H : ((spec_proofIn.f k a0 0 a1 true).bind fun t481 => (some t481)) = some r := h
 clear h
 replace H := Option.bind_eq_some_iff.mp H
 obtain ⟨t481, A30, H⟩ := H
 (try dsimp only at H)
 have A3 := zM A30
 clear A30
 obtain rfl := Option.some.inj H
 go_enter Tryd.func50, Tryd.ntmps50
 go_wp2_with (first | ((with_reducible refine gate_callee (f := 87) rfl ?_); refine goesL_ (some 8) rfl rfl Tryd.func87 (by kernel_rfl) rfl #[.int .u64 a0, .agg #[.int .u64 0, .int .u64 a1], .bool true] rfl aV ?_; (with_reducible refine (spec_proofIn.calls k a0 0 a1 true t481 _ A3.out).mono ?_); rintro e w4 ⟨v482, rfl, ho0, hb⟩; refine ⟨_, rfl, ?_⟩; have HO483 := zM (Kd.R_lower ho0 (below_size bB)); replace HB := zM (below_step bB hb)))
 go_ret
 exact ⟨_, by first | rfl | (simp [errW_none, errW_some] <;> rfl) | (simp [*, errW_none, errW_some] <;> rfl), by refine vR ?_; exact HO483.out, bB⟩
def spec_Named.l0 : Nat → List (S60) → List (S54) → Int → Int → Int → Int → List (List Int) → Option ((List (S60)))
 | 0, _, _, _, _, _, _, _ => none
 | k + 1, x3, x11, x12, x13, x355000, x355001, x355002 => if x13 < x12 then (if 0 ≤ x13 then (if x13 < (x11.length : Int) then (if x13 < (x355002.length : Int) then (if x3.length < 3518437208883 then (spec_Named.l0 k (x3 ++ [(⟨(⟨(rd_T54 x11 x13).f0, (rd_T54 x11 x13).f1⟩ : S54), rd_L1 x355002 x13⟩ : S60)]) x11 x12 (wrap64 (x13 + 1)) x355000 x355001 x355002) else (none)) else (none)) else (none)) else (none)) else (some x3)
def spec_Named.f (k : Nat) (a0_0 : Int) (a0_1 : Int) (l0_2 : List (List Int)) : Option ((List (S60))) := (spec_Nodes.f k a0_0 a0_1).bind fun t355 => (spec_Named.l0 k ([] : List (S60)) t355 (t355.length : Int) 0 a0_0 a0_1 l0_2)
def spec_Named.T5 : Bool × List (List Nat × List Nat) := (true, [([], []), ([], []), ([], []), ([2], [2]), ([], []), ([3, 4], [3, 4]), ([5], [5]), ([1, 6], [1, 6]), ([7], [7]), ([0, 8], [0, 8]), ([9, 9, 0, 1, 2, 3, 4, 5, 6, 7, 8, 9], [0, 9])])
def spec_Named.B5 : List Nat := [0, 0, 0, 4, 0, 28, 60, 126, 254, 511, 1023]
theorem spec_Named.tab5 : rtab .any (opsOf Tryd.f58 5) = spec_Named.T5 := by kernel_rfl
theorem spec_Named.bits5 : waitsOk spec_Named.T5.2 spec_Named.B5 = true := by kernel_rfl
set_option maxHeartbeats 8000000 in
set_option maxRecDepth 100000 in
theorem spec_Named.calls (k : Nat) (a0_0 : Int) (a0_1 : Int) (P0_2_ : Nat → Prop) (A0_2 : Option Addr) (c0_2 : Nat) (l0_2 : List (List Int)) (r : List (S60)) (w : World) (hs0_2 : Kd.V (Kd.slice 5 (Kd.int .u8)) 27 w w.heap.size (fun k_ => P0_2_ k_) (.slice A0_2 l0_2.length c0_2) l0_2) (h : spec_Named.f k a0_0 a0_1 l0_2 = some r) :
  Calls Tryd.prog 58 #[.agg #[.int .u64 a0_0, .int .u64 a0_1, .slice A0_2 l0_2.length c0_2]] w fun e w' => ∃ v0_ : Value, e = .returned (v0_) ∧ Kd.N k60 60 w' w.heap.size (fun k_ => (P0_2_ k_ ∨ w.heap.size ≤ k_)) v0_ r ∧ Below w.heap.size w w' := by
 have hu39 := Tryd.underlying39
 have hu57 := Tryd.underlying57
 have hu54 := Tryd.underlying54
 have hu60 := Tryd.underlying60
 have HO0_2 := zM (show Kd.V (Kd.slice 5 (Kd.int .u8)) 27 w w.heap.size (fun k_ => (P0_2_ k_ ∨ w.heap.size ≤ k_)) (.slice A0_2 l0_2.length c0_2) l0_2 from Kd.V_mono hs0_2 (fun k_ hk => .inl hk))
 have HB := zM (Below.refl w.heap.size w)
 have H : ((spec_Nodes.f k a0_0 a0_1).bind fun t355 => (spec_Named.l0 k ([] : List (S60)) t355 (t355.length : Int) 0 a0_0 a0_1 l0_2)) = some r := h
 clear h
 replace H := Option.bind_eq_some_iff.mp H
 obtain ⟨t355, A20, H⟩ := H
 replace H : (spec_Named.l0 k ([] : List (S60)) t355 (t355.length : Int) 0 a0_0 a0_1 l0_2) = some r := H
 have A2 := zM A20
 clear A20
 have H' := zM H
 clear H
 go_enter Tryd.func58, Tryd.ntmps58
 go_wp2_with (first | ((with_reducible refine gate_dst (N := 1) rfl ?_); refine bx 1 #[.int .u64 a0_0, .int .u64 a0_1, .slice A0_2 l0_2.length c0_2] 39 ?_; intro gb354 hg w3 hbox hb; replace HO0_2 := zM (Kd.V_below (Kd.V_elderB (kV HO0_2.out) gb354 (Nat.le_of_eq hg.symm)) hb); have BK354 := zM (hbox); have GW354 := zM ((gB hg : w.heap.size ≤ gb354)); have GE354 := zM ((gB hg : w.heap.size ≤ gb354)); replace HB := zM (below_step bB hb); clear hb hbox hg; obtain ⟨hcz4_0, hcz4_1, hcz4_2⟩ := h3 BK354; obtain ⟨hfz4_0, hfz4_1, hfz4_2⟩ := f3 BK354) | ((with_reducible refine gate_callee (f := 63) rfl ?_); refine goesL_ (some 11) rfl rfl Tryd.func63 (by kernel_rfl) rfl #[.agg #[.int .u64 a0_0, .int .u64 a0_1]] rfl aV ?_; (with_reducible refine (spec_Nodes.calls k a0_0 a0_1 t355 _ A2.out).mono ?_); rintro e w5 ⟨v356, rfl, ho0, hb⟩; refine ⟨_, rfl, ?_⟩; replace HO0_2 := zM (Kd.V_elder' (kV HO0_2.out) (Kd.R_base ho0) hb); have HO357 := zM (Kd.R_lower (Kd.R_newM (M := fun k_ => (w.heap.size ≤ k_)) ho0 (below_size bB) (fun k_ h_ => h_)) (below_size bB)); replace BK354 := zM (bK BK354 hb); replace HB := zM (below_step bB hb); (try clear hb); (try clear hb2); (try clear hk); (try clear hi); (try clear ho0); obtain ⟨Ao6, co6, eo6⟩ := Kd.R_slice HO357.out; subst eo6))
 go_loopg [3, 13] k (fun kq v3 v13 w' => ∃ (x3_1 : List (S60)) (x13_1 : Int), v13 = .int .i64 x13_1 ∧ Aside0 (spec_Named.l0 kq x3_1 t355 (t355.length : Int) x13_1 a0_0 a0_1 l0_2 = some r) ∧ Aside0 (kq ≤ k) ∧ Aside0 (Kd.N k60 60 w' w.heap.size (fun k_ => (P0_2_ k_ ∨ w.heap.size ≤ k_) ∧ some k_ ≠ ((.slice Ao6 t355.length co6) : Value).ownBlock ∧ k_ ≠ gb354) v3 x3_1) ∧ Aside0 (Kd.R k54 54 w' w.heap.size (fun k_ => (w.heap.size ≤ k_)) (.slice Ao6 t355.length co6) t355) ∧ Aside0 (Kd.V (Kd.slice 5 (Kd.int .u8)) 27 w' w.heap.size (fun k_ => (P0_2_ k_ ∨ w.heap.size ≤ k_) ∧ some k_ ≠ (v3 : Value).ownBlock ∧ some k_ ≠ ((.slice Ao6 t355.length co6) : Value).ownBlock ∧ k_ ≠ gb354) (.slice A0_2 l0_2.length c0_2) l0_2) ∧ Aside0 (w'.heap[gb354]? = some (.cells #[.int .u64 a0_0, .int .u64 a0_1, (.slice A0_2 l0_2.length c0_2)] 39 (0, 0))) ∧ Aside0 (Below w.heap.size w w'))
 case atStart => exact ⟨(([] : List (S60))), (0), sR, H', ⟨Nat.le_refl _⟩, ⟨by first | exact Kd.S_nil _ _ _ _ _ | exact Kd.N_nil _ _ _ _ _ | exact Kd.V_nil _ _ _ _ _ | exact Kd.Q_nil _ _ _ _ _ | exact Kd.R_nil _ _ _ _ _⟩, ⟨by refine vR ?_; exact Kd.R_mono HO357.out (fun _ hk => hk.1)⟩, ⟨by refine vV ?_; exact Kd.V_mono HO0_2.out (fun _ hk => ⟨hk.1.1, ⟨(by simp [Value.ownBlock]), ⟨hk.2, hk.1.2⟩⟩⟩)⟩, ⟨by refine kU ?_; exact BK354.out⟩, ⟨bB⟩⟩
 case round =>
  clear H'
  try clear p2
  try clear c5
  try clear c6
  try clear hcz4_0
  try clear hcz4_1
  try clear hcz4_2
  try clear hfz4_0
  try clear hfz4_1
  try clear hfz4_2
  obtain ⟨x3_1, x13_1, rfl, HA, HK1, HO_3, HO_11, HO_355002, BK354, HB⟩ := hrel
  cases gk with
  | zero => exact absurd HA.out (by simp [spec_Named.l0])
  | succ k1 =>
   have H := HA.out
   clear HA
   simp only [spec_Named.l0] at H
   by_cases c7 : x13_1 < (t355.length : Int)
   ·rw [if_pos c7] at H
    have c7b0 : decide (x13_1 < (t355.length : Int)) = true := decide_eq_true c7
    clear c7
    by_cases c8 : 0 ≤ x13_1
    ·rw [if_pos c8] at H
     have c8b0 : decide (0 ≤ x13_1) = true := decide_eq_true c8
     clear c8
     by_cases c9 : x13_1 < (t355.length : Int)
     ·rw [if_pos c9] at H
      have c9b0 : decide (x13_1 < (t355.length : Int)) = true := decide_eq_true c9
      clear c9
      by_cases c10 : x13_1 < (l0_2.length : Int)
      ·rw [if_pos c10] at H
       have c10b0 : decide (x13_1 < (l0_2.length : Int)) = true := decide_eq_true c10
       clear c10
       by_cases c11 : x3_1.length < 3518437208883
       ·rw [if_pos c11] at H
        have LMc11 := zM c11
        clear c11
        obtain ⟨y361, hy361⟩ : ∃ y_ : List (S60), y_ = (x3_1 ++ [(⟨(⟨(rd_T54 t355 x13_1).f0, (rd_T54 t355 x13_1).f1⟩ : S54), rd_L1 l0_2 x13_1⟩ : S60)]) := ⟨_, rfl⟩
        replace H : (spec_Named.l0 k1 y361 t355 (t355.length : Int) (wrap64 (x13_1 + 1)) a0_0 a0_1 l0_2) = some r := by first | (rw [hy361]; with_reducible exact H) | (have H := (Option.bind_some _ _).symm.trans H; first | (rw [hy361]; with_reducible exact H) | with_reducible exact H) | (rw [hy361]; exact H) | exact H
        have Ny361 := zM hy361
        clear hy361
        have H' := zM H
        clear H
        have p358 : 0 ≤ (x13_1 : Int) := dA
        have q358 : x13_1 < (t355.length : Int) := dA
        obtain ⟨ad358, e358, hx358_0, hx358_1⟩ := at_T54 (Kd.R_reads' HO_11.out).2.2 x13_1 p358 q358
        cases e358
        replace p358 := eq_true p358
        replace q358 := eq_true q358
        try go_wp2_with (first | ((with_reducible refine gate_dst (N := 5) rfl ?_); refine bx 5 #[.int .u64 0, .int .u64 0] 54 ?_; intro gb359 hg w12 hbox hb; replace HO_3 := zM (Kd.N_below (Kd.N_elderB (by refine vN ?_; exact HO_3.out) gb359 (Nat.le_of_eq hg.symm)) hb); replace HO_11 := zM (Kd.R_below (Kd.R_elderB (kR HO_11.out) gb359 (Nat.le_of_eq hg.symm)) hb); replace HO_355002 := zM (Kd.V_below (Kd.V_elderB (kV HO_355002.out) gb359 (Nat.le_of_eq hg.symm)) hb); have BK359 := zM (hbox); have GW359 := zM ((gB hg : w.heap.size ≤ gb359)); have GE359 := zM ((gB hg : w.heap.size ≤ gb359)); replace HB := zM (below_step bB hb); have NB354_359 := zM ((by rw [hg]; exact Nat.ne_of_lt (blk_lt (g := gb354) (o := .cells #[.int .u64 a0_0, .int .u64 a0_1, .slice A0_2 l0_2.length c0_2] 39 (0, 0)) (kB BK354.out)) : gb354 ≠ gb359)); have NB359_354 := zM ((by rw [hg]; exact Nat.ne_of_gt (blk_lt (g := gb354) (o := .cells #[.int .u64 a0_0, .int .u64 a0_1, .slice A0_2 l0_2.length c0_2] 39 (0, 0)) (kB BK354.out)) : gb359 ≠ gb354)); replace BK354 := zM (bK BK354 hb); clear hb hbox hg; have hnb13 := NB359_354.out; have hnc13 := NB354_359.out; obtain ⟨hcz14_0, hcz14_1⟩ := h2 BK359; obtain ⟨hfz14_0, hfz14_1⟩ := f2 BK359))
        have n0_ : Aside0 (Kd.N k60 60 ((w12.setCell ⟨gb359, 0, none⟩ (.int .u64 ((rd_T54 t355 x13_1).f0))).setCell ⟨gb359, 1, none⟩ (.int .u64 ((rd_T54 t355 x13_1).f1))) w.heap.size (fun k_ => (P0_2_ k_ ∨ w.heap.size ≤ k_) ∧ some k_ ≠ (.slice (some ad358) t355.length co6 : Value).ownBlock ∧ k_ ≠ gb354 ∧ k_ ≠ gb359) u3 x3_1) := ⟨by refine vN ?_; exact Kd.N_mono (Kd.N_far (p := ⟨gb359, 1, none⟩) (Kd.N_far (p := ⟨gb359, 0, none⟩) (Kd.N_mono HO_3.out (fun k_ hk => (⟨hk, hk.2⟩ : _ ∧ k_ ≠ gb359))) (fun _ hk => hk.2) (.int .u64 ((rd_T54 t355 x13_1).f0))) (fun _ hk => hk.2) (.int .u64 ((rd_T54 t355 x13_1).f1))) (fun _ hk => ⟨hk.1.1.1, ⟨hk.1.1.2.1, ⟨hk.1.1.2.2, hk.1.2⟩⟩⟩)⟩
        have n1_ : Aside0 (Kd.R k54 54 ((w12.setCell ⟨gb359, 0, none⟩ (.int .u64 ((rd_T54 t355 x13_1).f0))).setCell ⟨gb359, 1, none⟩ (.int .u64 ((rd_T54 t355 x13_1).f1))) w.heap.size (fun k_ => (w.heap.size ≤ k_) ∧ k_ ≠ gb359) (.slice (some ad358) t355.length co6) t355) := ⟨by refine vR ?_; exact Kd.R_mono (Kd.R_far (p := ⟨gb359, 1, none⟩) (Kd.R_far (p := ⟨gb359, 0, none⟩) (Kd.R_mono HO_11.out (fun k_ hk => (⟨hk, hk.2⟩ : _ ∧ k_ ≠ gb359))) (fun _ hk => hk.2) (.int .u64 ((rd_T54 t355 x13_1).f0))) (fun _ hk => hk.2) (.int .u64 ((rd_T54 t355 x13_1).f1))) (fun _ hk => ⟨hk.1.1, hk.1.2⟩)⟩
        have n2_ : Aside0 (Kd.V (Kd.slice 5 (Kd.int .u8)) 27 ((w12.setCell ⟨gb359, 0, none⟩ (.int .u64 ((rd_T54 t355 x13_1).f0))).setCell ⟨gb359, 1, none⟩ (.int .u64 ((rd_T54 t355 x13_1).f1))) w.heap.size (fun k_ => (P0_2_ k_ ∨ w.heap.size ≤ k_) ∧ some k_ ≠ (u3 : Value).ownBlock ∧ some k_ ≠ (.slice (some ad358) t355.length co6 : Value).ownBlock ∧ k_ ≠ gb354 ∧ k_ ≠ gb359) (.slice A0_2 l0_2.length c0_2) l0_2) := ⟨by refine vV ?_; exact Kd.V_mono (Kd.V_far (p := ⟨gb359, 1, none⟩) (Kd.V_far (p := ⟨gb359, 0, none⟩) (Kd.V_mono HO_355002.out (fun k_ hk => (⟨hk, hk.2⟩ : _ ∧ k_ ≠ gb359))) (fun _ hk => hk.2) (.int .u64 ((rd_T54 t355 x13_1).f0))) (fun _ hk => hk.2) (.int .u64 ((rd_T54 t355 x13_1).f1))) (fun _ hk => ⟨hk.1.1.1, ⟨hk.1.1.2.1, ⟨hk.1.1.2.2.1, ⟨hk.1.1.2.2.2, hk.1.2⟩⟩⟩⟩)⟩
        have n3_ : Aside0 (((w12.setCell ⟨gb359, 0, none⟩ (.int .u64 ((rd_T54 t355 x13_1).f0))).setCell ⟨gb359, 1, none⟩ (.int .u64 ((rd_T54 t355 x13_1).f1))).heap[gb354]? = some (.cells #[.int .u64 a0_0, .int .u64 a0_1, .slice A0_2 l0_2.length c0_2] 39 (0, 0))) := ⟨by refine kU ?_; refine blk_far ?_ NB354_359.out _; refine kU ?_; refine blk_far ?_ NB354_359.out _; refine kU ?_; exact BK354.out⟩
        have n4_ : Aside0 (((w12.setCell ⟨gb359, 0, none⟩ (.int .u64 ((rd_T54 t355 x13_1).f0))).setCell ⟨gb359, 1, none⟩ (.int .u64 ((rd_T54 t355 x13_1).f1))).heap[gb359]? = some (.cells #[.int .u64 ((rd_T54 t355 x13_1).f0), .int .u64 ((rd_T54 t355 x13_1).f1)] 54 (0, 0))) := ⟨by refine kU ?_; refine blk_put (cs := #[.int .u64 ((rd_T54 t355 x13_1).f0), .int .u64 0]) ?_ 1 _ rfl; refine kU ?_; refine blk_put (cs := #[.int .u64 0, .int .u64 0]) ?_ 0 _ rfl; refine kU ?_; exact BK359.out⟩
        have n5_ : Aside0 (Below w.heap.size w ((w12.setCell ⟨gb359, 0, none⟩ (.int .u64 ((rd_T54 t355 x13_1).f0))).setCell ⟨gb359, 1, none⟩ (.int .u64 ((rd_T54 t355 x13_1).f1)))) := ⟨bB⟩
        (try clear HO_3)
        (try clear HO_11)
        (try clear HO_355002)
        (try clear BK354)
        (try clear BK359)
        (try clear HB)
        generalize ((w12.setCell ⟨gb359, 0, none⟩ (.int .u64 ((rd_T54 t355 x13_1).f0))).setCell ⟨gb359, 1, none⟩ (.int .u64 ((rd_T54 t355 x13_1).f1))) = w15 at n0_ n1_ n2_ n3_ n4_ n5_ ⊢
        have HO_3 := n0_
        have HO_11 := n1_
        have HO_355002 := n2_
        have BK354 := n3_
        have BK359 := n4_
        have HB := n5_
        clear n0_ n1_ n2_ n3_ n4_ n5_
        replace HO_3 := zM (Kd.N_drew HO_3.out)
        replace HO_11 := zM (Kd.R_drew HO_11.out)
        replace HO_355002 := zM (Kd.V_drew HO_355002.out)
        replace BK354 := zM (blk_drew BK354.out)
        replace BK359 := zM (blk_drew BK359.out)
        replace HB := zM (below_drew1 HB.out)
        have p360 : 0 ≤ (x13_1 : Int) := dA
        have q360 : x13_1 < (l0_2.length : Int) := dA
        obtain ⟨ad360, A360_0, c360_0, e360, hx360_0, hl360_0, hi360_0⟩ := at_L1 (Kd.V_reads' HO_355002.out).2.2 x13_1 p360 q360
        cases e360
        obtain ⟨ce360, hce360, hMe360, hcc360⟩ := Kd.V_get HO_355002.out [] x13_1 p360 (by first | exact q360 | exact dA | (have e_ := (Kd.V_reads' HO_355002.out).1; omega))
        obtain ⟨ua360_0, uc360_0, rfl, ul360_0, ge360_0⟩ := Kd.FK_slice_open hMe360
        have hv360_0 := hcc360 0 _ rfl
        rw [Nat.add_zero, show ((Kd.slice 5 (Kd.int .u8))).sz = 1 from rfl, Nat.mul_one] at hv360_0
        replace hv360_0 := Option.some.inj (hv360_0.symm.trans hx360_0)
        injection hv360_0 with hva_ hvn_ hvc_
        rw [hva_] at ge360_0
        rw [hvc_] at ul360_0
        have HL360_0 := zM (show Kd.V (Kd.int .u8) 5 _ w.heap.size _ _ (rd_L1 l0_2 x13_1) from Kd.V_mk ul360_0 ge360_0)
        clear hva_ hvn_ hvc_ ge360_0 ul360_0
        clear hcc360 hce360
        have HR360_0 := zM hi360_0
        have HC360_0 := zM hl360_0
        clear hi360_0 hl360_0
        replace p360 := eq_true p360
        replace q360 := eq_true q360
        refine start_ (n := 11) (S := fun w' => w'.cell? ⟨gb359, 0, none⟩ = some (.int .u64 ((rd_T54 t355 x13_1).f0)) ∧ w'.cell? ⟨gb359, 1, none⟩ = some (.int .u64 ((rd_T54 t355 x13_1).f1)) ∧ w'.cell? ⟨gb354, 0, none⟩ = some (.int .u64 a0_0) ∧ w'.cell? ⟨gb354, 1, none⟩ = some (.int .u64 a0_1) ∧ w'.cell? ⟨gb354, 2, none⟩ = some (.slice (some ad360) l0_2.length c0_2) ∧ w'.cell? (ad360.add (x13_1).toNat) = some (.slice A360_0 (rd_L1 l0_2 x13_1).length c360_0)) (ds := [8, 9]) #[ff,ff,ff,ff,ff,ff,ff,ff,ff,ff,ff] (by kernel_rfl) rfl rfl ⟨(blk_cell BK359.out 0).trans rfl, (blk_cell BK359.out 1).trans rfl, (blk_cell BK354.out 0).trans rfl, (blk_cell BK354.out 1).trans rfl, (blk_cell BK354.out 2).trans rfl, hx360_0⟩ (fun hHeld => ?_); refine with_tabW spec_Named.tab5 spec_Named.bits5 (fun HT_ HW_ => ?_)
        generalize w15.drew = w16 at HO_3 HO_11 HO_355002 BK354 BK359 HB HL360_0 HR360_0 hx360_0 hHeld ⊢
        refine pA 0 (some 18) #[tt,ff,ff,ff,ff,ff,ff,ff,ff,ff,ff] HT_ ?_
        refine pA 2 (some 20) #[tt,ff,tt,ff,ff,ff,ff,ff,ff,ff,ff] HT_ ?_
        refine pA 4 (some 22) #[tt,ff,tt,ff,tt,ff,ff,ff,ff,ff,ff] HT_ ?_
        refine tA 1 (some 19) #[tt,tt,tt,ff,tt,ff,ff,ff,ff,ff,ff] rfl rfl HT_ HW_ hHeld (by rintro w' ⟨s0, s1, s2, s3, s4, s5⟩; go_simp; with_reducible rfl) ?_
        refine tA 3 (some 21) #[tt,tt,tt,tt,tt,ff,ff,ff,ff,ff,ff] rfl rfl HT_ HW_ hHeld (by rintro w' ⟨s0, s1, s2, s3, s4, s5⟩; go_simp; with_reducible rfl) ?_
        refine pA 5 (some 23) #[tt,tt,tt,tt,tt,tt,ff,ff,ff,ff,ff] HT_ ?_
        refine tA 6 (some 24) #[tt,tt,tt,tt,tt,tt,tt,ff,ff,ff,ff] rfl rfl HT_ HW_ hHeld (by rintro w' ⟨s0, s1, s2, s3, s4, s5⟩; go_simp; with_reducible rfl) ?_
        refine pA 7 (some 25) #[tt,tt,tt,tt,tt,tt,tt,tt,ff,ff,ff] HT_ ?_
        refine last_ (i := 8) (N := some 26) #[tt,tt,tt,tt,tt,tt,tt,tt,tt,ff,ff] rfl rfl (one_of HT_.out (by kernel_rfl)) (by decide) (fun K hK => ?_)
        refine value_ (w1 := ?_) (v := ?_) (by rfl) rfl ?_ ?_
        rotate_left 2
        ·go_simp
         constructor
         ·rfl
         ·rfl
        refine hK.out _ _ ?_
        clear hK K
        refine nS ?_
        refine last_ (i := 9) (N := some 27) #[tt,tt,tt,tt,tt,tt,tt,tt,tt,tt,ff] rfl rfl (one_of HT_.out (by kernel_rfl)) (by decide) (fun K hK => ?_)
        refine Kd.N_append_step k60 (w0 := w) w.heap.size (by rfl) (.tmp 18) (.tmp 26) 42 60 (.agg #[(.int .u64 0), (.int .u64 0), (.slice none 0 0)]) 40 rfl Tryd.underlying42 info60 rfl (by decide) (by omega) u3 x3_1 (⟨(⟨(rd_T54 t355 x13_1).f0, (rd_T54 t355 x13_1).f1⟩ : S54), rd_L1 l0_2 x13_1⟩ : S60) [.int .u64 ((rd_T54 t355 x13_1).f0), .int .u64 ((rd_T54 t355 x13_1).f1), .slice A360_0 (rd_L1 l0_2 x13_1).length c360_0] (fun k_ => (P0_2_ k_ ∨ w.heap.size ≤ k_) ∧ some k_ ≠ (.slice (some ad358) t355.length co6 : Value).ownBlock ∧ k_ ≠ gb354 ∧ k_ ≠ gb359) (fun k_ => ((fun k_ => (P0_2_ k_ ∨ w.heap.size ≤ k_) ∧ some k_ ≠ (.slice (some ad358) t355.length co6 : Value).ownBlock ∧ k_ ≠ gb354 ∧ k_ ≠ gb359)) k_ ∧ some k_ ≠ (u3 : Value).ownBlock) rfl rfl ?aP (fun _ hk => hk) ?aF ?aO ?aB ?aS ?aL ?_
        (case aP => exact (k60_mkF _ _ (⟨(⟨(rd_T54 t355 x13_1).f0, (rd_T54 t355 x13_1).f1⟩ : S54), rd_L1 l0_2 x13_1⟩ : S60) (Kd.V_reads' (Kd.V_mono (ok' := (fun k_ => ((fun k_ => (P0_2_ k_ ∨ w.heap.size ≤ k_) ∧ some k_ ≠ (.slice (some ad358) t355.length co6 : Value).ownBlock ∧ k_ ≠ gb354 ∧ k_ ≠ gb359)) k_ ∧ some k_ ≠ (u3 : Value).ownBlock)) (HL360_0.out) (fun k_ hk => ⟨⟨hk.1, ⟨hk.2.2.1, ⟨hk.2.2.2.1, hk.2.2.2.2⟩⟩⟩, hk.2.1⟩))).2.1 (Kd.V_F (Kd.V_mono (ok' := (fun k_ => ((fun k_ => (P0_2_ k_ ∨ w.heap.size ≤ k_) ∧ some k_ ≠ (.slice (some ad358) t355.length co6 : Value).ownBlock ∧ k_ ≠ gb354 ∧ k_ ≠ gb359)) k_ ∧ some k_ ≠ (u3 : Value).ownBlock)) (HL360_0.out) (fun k_ hk => ⟨⟨hk.1, ⟨hk.2.2.1, ⟨hk.2.2.2.1, hk.2.2.2.2⟩⟩⟩, hk.2.1⟩)))))
        (case aB => exact bB)
        (case aF => exact (fun k_ hk => ⟨(.inr (Nat.le_trans (below_size bB) hk)), Kd.fresh' (Kd.R_lt (kR HO_11.out)) k_ hk, Kd.freshB (g := gb354) (o := .cells #[.int .u64 a0_0, .int .u64 a0_1, .slice (some ad360) l0_2.length c0_2] 39 (0, 0)) (kB BK354.out) k_ hk, Kd.freshB (g := gb359) (o := .cells #[.int .u64 ((rd_T54 t355 x13_1).f0), .int .u64 ((rd_T54 t355 x13_1).f1)] 54 (0, 0)) (kB BK359.out) k_ hk⟩))
        (case aO => exact (by refine vN ?_; exact HO_3.out))
        (case aS => exact (below_size bB))
        (case aL => have := LMc11.out; omega)
        intro v362 w17 ho hb hg hat
        rw [← Ny361.out] at ho
        replace HO_11 := zM (Kd.R_over' (kR HO_11.out) (Kd.N_typed (by refine vN ?_; exact HO_3.out)) (by decide) hg)
        replace HO_355002 := zM (Kd.V_afterv (ok := (fun k_ => (P0_2_ k_ ∨ w.heap.size ≤ k_) ∧ some k_ ≠ (.slice (some ad358) t355.length co6 : Value).ownBlock ∧ k_ ≠ gb354 ∧ k_ ≠ gb359)) (by refine vV ?_; exact Kd.V_mono HO_355002.out (fun _ hk => ⟨⟨hk.1, ⟨hk.2.2.1, ⟨hk.2.2.2.1, hk.2.2.2.2⟩⟩⟩, hk.2.1⟩)) hg hat)
        replace BK354 := zM (blk_grown (g := gb354) (o := .cells #[.int .u64 a0_0, .int .u64 a0_1, .slice (some ad360) l0_2.length c0_2] 39 (0, 0)) (kB BK354.out) hg (Kd.N_ne HO_3.out BK354.out (by decide)))
        replace BK359 := zM (blk_grown (g := gb359) (o := .cells #[.int .u64 ((rd_T54 t355 x13_1).f0), .int .u64 ((rd_T54 t355 x13_1).f1)] 54 (0, 0)) (kB BK359.out) hg (Kd.N_ne HO_3.out BK359.out (by decide)))
        replace HL360_0 := zM (Kd.V_afterv (ok := (fun k_ => (P0_2_ k_ ∨ w.heap.size ≤ k_) ∧ some k_ ≠ (.slice (some ad358) t355.length co6 : Value).ownBlock ∧ k_ ≠ gb354 ∧ k_ ≠ gb359)) (by refine vV ?_; exact Kd.V_mono HL360_0.out (fun _ hk => ⟨⟨hk.1, ⟨hk.2.2.1, ⟨hk.2.2.2.1, hk.2.2.2.2⟩⟩⟩, hk.2.1⟩)) hg hat)
        replace HB := zM (hb)
        have HO363 := zM (ho)
        clear HO_3
        clear ho hb hg hat
        refine hK.out _ _ ?_
        clear hK K
        refine nS ?_
        refine pA 10 (some 3) #[tt,tt,tt,tt,tt,tt,tt,tt,tt,tt,tt] HT_ ?_
        refine done_ (done_of HT_.out (by kernel_rfl)) ?_
        try go_wp2
        go_roundg k1
        case measure => have := HK1.out; omega
        case rel => exact ⟨(y361), (wrap64 (x13_1 + 1)), sR, H', ⟨by have := HK1.out; omega⟩, ⟨by refine vN ?_; exact Kd.N_mono HO363.out (fun _ hk => ⟨hk.1, ⟨hk.2.1, hk.2.2.1⟩⟩)⟩, ⟨by refine vR ?_; exact Kd.R_mono HO_11.out (fun _ hk => hk.1)⟩, ⟨by refine vV ?_; exact Kd.V_mono HO_355002.out (fun _ hk => ⟨hk.1.1, ⟨hk.2, ⟨hk.1.2.1, hk.1.2.2.1⟩⟩⟩)⟩, ⟨by refine kU ?_; exact BK354.out⟩, ⟨bB⟩⟩
       ·rw [if_neg c11] at H
        exact absurd H (by simp)
      ·rw [if_neg c10] at H
       exact absurd H (by simp)
     ·rw [if_neg c9] at H
      exact absurd H (by simp)
    ·rw [if_neg c8] at H
     exact absurd H (by simp)
   ·rw [if_neg c7] at H
    have c7b0 : decide (x13_1 < (t355.length : Int)) = false := decide_eq_false c7
    clear c7
    obtain rfl := Option.some.inj H
    go_wp2
    go_ret
    exact ⟨_, by first | rfl | (simp [errW_none, errW_some] <;> rfl) | (simp [*, errW_none, errW_some] <;> rfl), by refine vN ?_; exact Kd.N_mono HO_3.out (fun _ hk => hk.1), bB⟩
def spec_PathParts.f (k : Nat) (a0 : Int) (a1 : Int) : Option ((List (S57))) := (spec_pathIn.f k a0 0 a1).bind fun t264 => (some t264)
set_option maxHeartbeats 8000000 in
set_option maxRecDepth 100000 in
theorem spec_PathParts.calls (k : Nat) (a0 : Int) (a1 : Int) (r : List (S57)) (w : World) (h : spec_PathParts.f k a0 a1 = some r) :
  Calls Tryd.prog 68 #[.int .u64 a0, .int .u64 a1] w fun e w' => ∃ v0_ : Value, e = .returned (v0_) ∧ Kd.R k57 57 w' w.heap.size (fun _ => True) v0_ r ∧ Below w.heap.size w w' := by
 have hu57 := Tryd.underlying57
 have HB := zM (Below.refl w.heap.size w)
 have H : ((spec_pathIn.f k a0 0 a1).bind fun t264 => (some t264)) = some r := h
 clear h
 replace H := Option.bind_eq_some_iff.mp H
 obtain ⟨t264, A30, H⟩ := H
 (try dsimp only at H)
 have A3 := zM A30
 clear A30
 obtain rfl := Option.some.inj H
 go_enter Tryd.func68, Tryd.ntmps68
 go_wp2_with (first | ((with_reducible refine gate_callee (f := 101) rfl ?_); refine goesL_ (some 8) rfl rfl Tryd.func101 (by kernel_rfl) rfl #[.int .u64 a0, .agg #[.int .u64 0, .int .u64 a1]] rfl aV ?_; (with_reducible refine (spec_pathIn.calls k a0 0 a1 t264 _ A3.out).mono ?_); rintro e w4 ⟨v265, rfl, ho0, hb⟩; refine ⟨_, rfl, ?_⟩; have HO266 := zM (Kd.R_lower ho0 (below_size bB)); replace HB := zM (below_step bB hb)))
 go_ret
 exact ⟨_, by first | rfl | (simp [errW_none, errW_some] <;> rfl) | (simp [*, errW_none, errW_some] <;> rfl), by refine vR ?_; exact HO266.out, bB⟩
theorem info_rng39 : (Tryd.prog.info? 39).map (fun i => (i.zero, i.size, i.bytes)) = some (some (.agg #[(.int .u64 0), (.int .u64 0), (.slice none 0 0)]), 3, 40) := by kernel_rfl
def Mx {α : Type} (w : World) (d : Kd α) (e : Nat) (W : World) (base : Nat) (ok : Nat → Prop) (v : Value) (xs : List α) : Prop := (∃ A c, v = .slice A xs.length c ∧ xs.length ≤ c ∧ d.C w A xs.length xs) ∨ Kd.S d e W base ok v xs
section
variable {α : Type} {w W W' : World} {d : Kd α} {e base : Nat} {ok ok' : Nat → Prop} {v : Value} {xs : List α}
theorem Mx_below (h : Mx w d e W base ok v xs) (hb : Below W.heap.size W W') : Mx w d e W' base ok v xs := h.imp_right (Kd.S_below · hb)
theorem Mx_set (h : Mx w d e W base ok v xs) {g t : Nat} {cells : Array Value} (hb : W.heap[g]? = some (.cells cells t (0, 0))) (ht : ∀ q, q ∈ e :: d.E → q ≠ t) (j : Nat) (u : Value) : Mx w d e (W.setCell ⟨g, j, none⟩ u) base ok v xs := h.imp_right (Kd.S_set · hb ht j u)
theorem Mx_slice (h : Mx w d e W base ok v xs) : ∃ A c, v = .slice A xs.length c := by
 rcases h with ⟨A, c, hv, _, _⟩ | h
 ·exact ⟨A, c, hv⟩
 ·exact Kd.S_slice h
theorem Mx_reads {A : Option Addr} {n c : Nat} (h : Mx w d e W base ok (.slice A n c) xs) (hb : Below w.heap.size w W) : n = xs.length ∧ n ≤ c ∧ d.C W A xs.length xs := by
 rcases h with ⟨A', c', hv, hc, hC⟩ | h
 ·injection hv with h1 h2 h3
  subst h1 h2 h3
  exact ⟨rfl, hc, Kd.C_below hC hb⟩
 ·exact Kd.S_reads' h
end
theorem blk_put3 {w : World} {g t : Nat} {a b c : Value} (h : w.heap[g]? = some (.cells #[a, b, c] t (0, 0))) (x y z : Value) : (((w.setCell ⟨g, 0, none⟩ x).setCell ⟨g, 1, none⟩ y).setCell ⟨g, 2, none⟩ z).heap[g]? = some (.cells #[x, y, z] t (0, 0)) := blk_put (blk_put (blk_put h 0 _ rfl) 1 _ rfl) 2 _ rfl
theorem blk_far3 {w : World} {g g' : Nat} {cs : Array Value} {t : Nat} (h : w.heap[g']? = some (.cells cs t (0, 0))) (hne : g' ≠ g) (x y z : Value) : (((w.setCell ⟨g, 0, none⟩ x).setCell ⟨g, 1, none⟩ y).setCell ⟨g, 2, none⟩ z).heap[g']? = some (.cells cs t (0, 0)) := blk_far (blk_far (blk_far h hne _) hne _) hne _
theorem below_set3 {w w' : World} {B g : Nat} (h : Below B w w') (hg : B ≤ g) (x y z : Value) : Below B w (((w'.setCell ⟨g, 0, none⟩ x).setCell ⟨g, 1, none⟩ y).setCell ⟨g, 2, none⟩ z) := ((h.setCell hg _).setCell hg _).setCell hg _
theorem Mx_set3 {α : Type} {w W : World} {d : Kd α} {e base : Nat} {ok : Nat → Prop} {v : Value} {xs : List α} (h : Mx w d e W base ok v xs) {g t : Nat} {a b c : Value} (hb : W.heap[g]? = some (.cells #[a, b, c] t (0, 0))) (ht : ∀ q, q ∈ e :: d.E → q ≠ t) (x y z : Value) : Mx w d e (((W.setCell ⟨g, 0, none⟩ x).setCell ⟨g, 1, none⟩ y).setCell ⟨g, 2, none⟩ z) base ok v xs :=
 Mx_set (Mx_set (Mx_set h hb ht 0 x) (blk_put hb 0 _ rfl) ht 1 y) (blk_put (blk_put hb 0 _ rfl) 1 _ rfl) ht 2 z
theorem rest_C {w : World} {ad : Addr} {c : Nat} {s : S39} {rest : List S39} (h : Kd.C k39 w (some ad) (s :: rest).length (s :: rest)) (hc : (s :: rest).length ≤ c) : Kd.C k39 w (if c = 1 then some ad else (some ad).map (·.add 3)) rest.length rest := by
 refine ⟨rfl, by have := h.2.1; rw [List.length_cons] at this; omega, fun hp => ?_⟩
 rw [List.length_cons] at hc
 obtain ⟨ad', e, hcell⟩ := h.2.2 (by rw [List.length_cons]; omega)
 injection e with e
 subst e
 refine ⟨ad.add 3, by rw [if_neg (by omega)]; rfl, fun j p hj => ?_⟩
 obtain ⟨cs, h1, h2, h3⟩ := hcell (j + 1) p (by rw [List.getElem?_cons_succ]; exact hj)
 refine ⟨cs, h1, h2, fun i u hu => ?_⟩
 have := h3 i u hu
 have e1 : (j + 1) * (k39).sz + i = 3 + (j * (k39).sz + i) := by
  have : (k39).sz = 3 := rfl
  rw [this]
  omega
 rw [e1] at this
 rw [add_add]
 exact this
def grGo (k : Nat) (a0 a1 a2 a3 a4 a5 : Int) : List S39 → Int → Int → List (List Int) → Option (Int × Int × List (List Int))
 | [], b, e, L => some (b, e, L)
 | r :: rest, b, e, L => (impl_AppendRange.f k a0 a1 a2 a3 a4 a5 b e L r.f0 r.f1 r.f2).bind fun q => if q.2.2.2.2 = true then grGo k a0 a1 a2 a3 a4 a5 rest q.1 q.2.1 q.2.2.1 else none
def laws_growthRoot.f (k : Nat) (a0 a1 a2 a3 a4 a5 : Int) : List S39 → Option (List Int × Bool)
 | [] => none
 | r :: rest => if rest.length < 1000000 then (grGo k a0 a1 a2 a3 a4 a5 rest r.f0 r.f1 r.f2).bind fun q => (impl_RootHash.f k a0 a1 a2 a3 a4 a5 q.1 q.2.1 q.2.2).bind fun t => some (t, true) else none
set_option maxHeartbeats 16000000 in
set_option maxRecDepth 100000 in
theorem laws_growthRoot.calls (k : Nat) (a0 a1 a2 a3 a4 a5 : Int) (A : Option Addr) (c : Nat) (l : List S39) (r1 : List Int) (r2 : Bool) (w : World) (hT : TabOK w) (hr : Kd.C k39 w A l.length l) (hc : l.length ≤ c) (h : laws_growthRoot.f k a0 a1 a2 a3 a4 a5 l = some (r1, r2)) :
  Calls Tryd.prog 73 #[.agg #[.int .i64 a0, .int .i64 a1, .int .i64 a2, .int .u64 a3, .int .u64 a4, .int .u64 a5], .slice A l.length c] w fun e w' => ∃ v0, e = .returned (.tuple #[v0, .bool r2]) ∧ (Kd.int .u8).R 5 w' w.heap.size (fun _ => True) v0 r1 ∧ Below w.heap.size w w' := by
 cases l with
 | nil => exact absurd h (by simp [laws_growthRoot.f])
 | cons s rest =>
 dsimp only [laws_growthRoot.f] at h
 by_cases hlen : rest.length < 1000000
 case neg => rw [if_neg hlen] at h; exact absurd h (by simp)
 rw [if_pos hlen] at h
 obtain ⟨⟨qb, qe, qL⟩, hq, h2⟩ := Option.bind_eq_some_iff.mp h
 obtain ⟨t, ht, h3⟩ := Option.bind_eq_some_iff.mp h2
 obtain ⟨rfl, rfl⟩ : t = r1 ∧ true = r2 := by simpa using h3
 clear h h2 h3
 dsimp only at ht
 obtain ⟨ad, A2, c2, rfl, hx0, hx1, hx2, hl2, hi2⟩ := at_T39 hr 0 (by omega) (by rw [List.length_cons]; omega)
 have es : rd_T39 (s :: rest) 0 = s := rfl
 rw [es] at hx0 hx1 hx2 hl2 hi2
 have ez : ad.add ((0 : Int).toNat * 3) = ad.add 0 := rfl
 rw [ez] at hx0 hx1 hx2
 replace hx0 : w.cell? ad = some (.int .u64 s.f0) := hx0
 replace hx1 : w.cell? ⟨ad.block, ad.off + 1, none⟩ = some (.int .u64 s.f1) := hx1
 replace hx2 : w.cell? ⟨ad.block, ad.off + 2, none⟩ = some (.slice A2 s.f2.length c2) := hx2
 have hrest := rest_C hr hc
 have hc1 : rest.length + 1 ≤ c := by rw [List.length_cons] at hc; exact hc
 obtain ⟨i0, hi0, hz0⟩ := Option.map_eq_some_iff.1 info_rng39
 simp only [Prod.mk.injEq] at hz0
 have hcut := cut_from (P := Tryd.prog) 129 39 .i64 Tryd.underlying129 hi0 3 hz0.2.1 (some ad) (rest.length + 1) c (1 : Int) (by omega) (by omega)
 have e1 : (1 : Int).toNat = 1 := rfl
 rw [e1] at hcut
 simp only [Nat.one_mul] at hcut
 generalize hA' : (if c = 1 then some ad else (some ad).map (·.add 3)) = A' at hcut hrest
 rw [Nat.add_sub_cancel] at hcut
 have HRest := zM hrest
 have HQ := zM hq
 have HTT := zM ht
 have HC2 := zM hl2
 have HI2 := zM hi2
 have HT := zM hT
 have HLEN := zM hlen
 have h0l : (0 : Int) < ((rest.length + 1 : Nat) : Int) := by omega
 clear hrest hq ht hl2 hi2 hT hr hc hA' hi0 hz0 e1 es ez hlen
 obtain ⟨i9, hi9, hz9, hsz9, hby9⟩ := info_parts info_rng39
 go_enter Tryd.func73, Tryd.ntmps73
 go_upto_region 1 with (fail)
 obtain ⟨w1, hw1⟩ : ∃ w1, w1 = w.alloc (.cells #[.int .i64 a0, .int .i64 a1, .int .i64 a2, .int .u64 a3, .int .u64 a4, .int .u64 a5] 24) := ⟨_, rfl⟩
 have hb1 : Below w.heap.size w w1 := by rw [hw1]; exact below_alloc (Below.refl _ _) _
 have hk1 : w1.heap[w.heap.size]? = some (.cells #[.int .i64 a0, .int .i64 a1, .int .i64 a2, .int .u64 a3, .int .u64 a4, .int .u64 a5] 24 (0, 0)) := by rw [hw1]; exact blk_new w _
 rw [← hw1]
 clear hw1
 have HB1 := zM hb1
 have HK1 := zM hk1
 replace hx0 := (hb1.cell (World.block_lt_of_cell? w _ hx0)).trans hx0
 replace hx1 := (hb1.cell (World.block_lt_of_cell? w _ hx1)).trans hx1
 replace hx2 := (hb1.cell (World.block_lt_of_cell? w _ hx2)).trans hx2
 clear hb1 hk1
 go_upto_region 2 with (((with_reducible refine gate_dst (N := 6) rfl ?_); refine bx 6 #[.int .u64 0, .int .u64 0, .slice none 0 0] 39 ?_; intro gA hg_gA w2 hbox_gA hb_gA; have fzgA0 := blk_frozen hbox_gA 0; have clgA0 : w2.cell? ⟨gA, 0, none⟩ = some (.int .u64 0) := (blk_cell hbox_gA 0).trans rfl; have fzgA1 := blk_frozen hbox_gA 1; have clgA1 : w2.cell? ⟨gA, 1, none⟩ = some (.int .u64 0) := (blk_cell hbox_gA 1).trans rfl; have fzgA2 := blk_frozen hbox_gA 2; have clgA2 : w2.cell? ⟨gA, 2, none⟩ = some (.slice none 0 0) := (blk_cell hbox_gA 2).trans rfl;have HB2 := zM hb_gA; have BK2 := zM hbox_gA; have GE2 := zM (Nat.le_of_eq hg_gA.symm); clear hb_gA hbox_gA hg_gA))
 obtain ⟨w3, hw3⟩ : ∃ w3, w3 = ((w2.setCell ⟨gA, 0, none⟩ (.int .u64 s.f0)).setCell ⟨gA, 1, none⟩ (.int .u64 s.f1)).setCell ⟨gA, 2, none⟩ (.slice A2 s.f2.length c2) := ⟨_, rfl⟩
 have hge1 : w.heap.size ≤ gA := Nat.le_trans HB1.out.size GE2.out
 have HKA := zM (show w3.heap[gA]? = some (.cells #[.int .u64 s.f0, .int .u64 s.f1, .slice A2 s.f2.length c2] 39 (0, 0)) by rw [hw3]; exact blk_put3 BK2.out _ _ _)
 have HKH := zM (show w3.heap[w.heap.size]? = some (.cells #[.int .i64 a0, .int .i64 a1, .int .i64 a2, .int .u64 a3, .int .u64 a4, .int .u64 a5] 24 (0, 0)) by rw [hw3]; exact blk_far3 (blk_below HK1.out HB2.out) (Nat.ne_of_lt (Nat.lt_of_lt_of_le (blk_lt HK1.out) GE2.out)) _ _ _)
 have HB3 := zM (show Below w.heap.size w w3 by rw [hw3]; exact below_set3 (below_step HB1.out HB2.out) hge1 _ _ _)
 have HM3 := zM (show Mx w (Kd.slice 5 (Kd.int .u8)) 27 w3 w.heap.size (fun _ => True) (.slice A2 s.f2.length c2) s.f2 from .inl ⟨A2, c2, rfl, HC2.out, HI2.out⟩)
 have HGE := zM hge1
 have HGL := zM (show w.heap.size < gA from Nat.lt_of_lt_of_le (blk_lt HK1.out) GE2.out)
 rw [← hw3]
 clear hw3 hge1 fzgA0 fzgA1 fzgA2 clgA0 clgA1 clgA2 hx0 hx1 hx2 h0l HB2 BK2 GE2 HC2 HI2 HK1
 have HL1 := zM (show (rest.length : Int) < 9223372036854775807 by have := HLEN.out; omega)
 generalize hb_ : s.f0 = b0 at *
 generalize he_ : s.f1 = e0 at *
 generalize hl_ : s.f2 = L0 at *
 clear hb_ he_ hl_
 go_wp2
 go_loopg [7, 22] (rest.length + 1) (fun kq v7 v22 w' => ∃ (i : Nat) (b e : Int) (L : List (List Int)) (v : Value), v7 = .bool true ∧ v22 = .int .i64 (i : Int) ∧ Aside0 (kq + i = rest.length + 1 ∧ i ≤ rest.length) ∧ Aside0 (grGo k a0 a1 a2 a3 a4 a5 (rest.drop i) b e L = some (qb, qe, qL)) ∧ Aside0 (w'.heap[gA]? = some (.cells #[.int .u64 b, .int .u64 e, v] 39 (0, 0))) ∧ Aside0 (w'.heap[w.heap.size]? = some (.cells #[.int .i64 a0, .int .i64 a1, .int .i64 a2, .int .u64 a3, .int .u64 a4, .int .u64 a5] 24 (0, 0))) ∧ Aside0 (Mx w (Kd.slice 5 (Kd.int .u8)) 27 w' w.heap.size (fun _ => True) v L) ∧ Aside0 (Below w.heap.size w w'))
 case atStart => exact ⟨0, _, _, _, _, rfl, rfl, ⟨by omega, Nat.zero_le _⟩, ⟨by rw [List.drop_zero]; exact HQ.out⟩, HKA, HKH, HM3, HB3⟩
 case round =>
  clear HKA HKH HM3 HB3 HQ
  obtain ⟨i, b, e, L, v, rfl, rfl, HN, HG, HKA, HKH, HM, HB⟩ := hrel
  obtain ⟨AL, cL, rfl⟩ := Mx_slice HM.out
  have hkA := HKA.out
  have hkH := HKH.out
  have qA0 : wr.cell? ⟨gA, 0, none⟩ = some (.int .u64 b) := (blk_cell hkA 0).trans rfl
  have qA1 : wr.cell? ⟨gA, 1, none⟩ = some (.int .u64 e) := (blk_cell hkA 1).trans rfl
  have qA2 : wr.cell? ⟨gA, 2, none⟩ = some (.slice AL L.length cL) := (blk_cell hkA 2).trans rfl
  have qH0 : wr.cell? ⟨w.heap.size, 0, none⟩ = some (.int .i64 a0) := (blk_cell hkH 0).trans rfl
  have qH1 : wr.cell? ⟨w.heap.size, 1, none⟩ = some (.int .i64 a1) := (blk_cell hkH 1).trans rfl
  have qH2 : wr.cell? ⟨w.heap.size, 2, none⟩ = some (.int .i64 a2) := (blk_cell hkH 2).trans rfl
  have qH3 : wr.cell? ⟨w.heap.size, 3, none⟩ = some (.int .u64 a3) := (blk_cell hkH 3).trans rfl
  have qH4 : wr.cell? ⟨w.heap.size, 4, none⟩ = some (.int .u64 a4) := (blk_cell hkH 4).trans rfl
  have qH5 : wr.cell? ⟨w.heap.size, 5, none⟩ = some (.int .u64 a5) := (blk_cell hkH 5).trans rfl
  by_cases hi : i < rest.length
  ·obtain ⟨ad2, Ae, ce, eA2, hx0, hx1, hx2, hle, hie⟩ := at_T39 (Kd.C_below HRest.out HB.out) (i : Int) (by omega) (by omega)
   rw [Int.toNat_natCast] at hx0 hx1 hx2
   have hd : rest.drop i = rd_T39 rest (i : Int) :: rest.drop (i + 1) := by
    unfold rd_T39
    rw [List.drop_eq_getElem_cons hi, Int.toNat_natCast, List.getD_eq_getElem?_getD, List.getElem?_eq_getElem hi, Option.getD_some]
   subst eA2
   generalize rd_T39 rest (i : Int) = r at hx0 hx1 hx2 hle hie hd
   have hg := HG.out
   rw [hd, grGo] at hg
   obtain ⟨⟨x0, x1, xL, xv, xb⟩, hap, hg2⟩ := Option.bind_eq_some_iff.mp hg
   dsimp only at hg2
   by_cases hxb : xb = true
   case neg => rw [if_neg hxb] at hg2; exact absurd hg2 (by simp)
   subst hxb
   rw [if_pos rfl] at hg2
   have HAP := zM hap
   have HG2 := zM hg2
   have HLE := zM hle
   have HIE := zM hie
   have j0 : (0 : Int) ≤ (i : Int) := by omega
   have j1 : (i : Int) < (rest.length : Int) := by omega
   have hwi : wrap64 ((i : Int) + 1) = (i : Int) + 1 := by unfold wrap64; have := HLEN.out; omega
   clear hd hg hap hg2 hle hie hi
   go_upto_region 5 with (((with_reducible refine gate_dst (N := 9) rfl ?_); refine bx 9 #[.int .u64 0, .int .u64 0, .slice none 0 0] 39 ?_; intro gR hg_gR w4 hbox_gR hb_gR; have fzgR0 := blk_frozen hbox_gR 0; have clgR0 : w4.cell? ⟨gR, 0, none⟩ = some (.int .u64 0) := (blk_cell hbox_gR 0).trans rfl; have fzgR1 := blk_frozen hbox_gR 1; have clgR1 : w4.cell? ⟨gR, 1, none⟩ = some (.int .u64 0) := (blk_cell hbox_gR 1).trans rfl; have fzgR2 := blk_frozen hbox_gR 2; have clgR2 : w4.cell? ⟨gR, 2, none⟩ = some (.slice none 0 0) := (blk_cell hbox_gR 2).trans rfl;have HB4 := zM hb_gR; have BK4 := zM hbox_gR; have GE4 := zM (Nat.le_of_eq hg_gR.symm); clear hb_gR hbox_gR hg_gR))
   obtain ⟨w5, hw5⟩ : ∃ w5, w5 = ((w4.setCell ⟨gR, 0, none⟩ (.int .u64 r.f0)).setCell ⟨gR, 1, none⟩ (.int .u64 r.f1)).setCell ⟨gR, 2, none⟩ (.slice Ae r.f2.length ce) := ⟨_, rfl⟩
   have hA4 := Nat.ne_of_lt (Nat.lt_of_lt_of_le (blk_lt HKA.out) GE4.out)
   have hH4 := Nat.ne_of_lt (Nat.lt_of_lt_of_le (blk_lt HKH.out) GE4.out)
   have HK5 := zM (show w5.heap[gR]? = some (.cells #[.int .u64 r.f0, .int .u64 r.f1, .slice Ae r.f2.length ce] 39 (0, 0)) by rw [hw5]; exact blk_put3 BK4.out _ _ _)
   have HKA5 := zM (show w5.heap[gA]? = some (.cells #[.int .u64 b, .int .u64 e, .slice AL L.length cL] 39 (0, 0)) by rw [hw5]; exact blk_far3 (blk_below HKA.out HB4.out) hA4 _ _ _)
   have HKH5 := zM (show w5.heap[w.heap.size]? = some (.cells #[.int .i64 a0, .int .i64 a1, .int .i64 a2, .int .u64 a3, .int .u64 a4, .int .u64 a5] 24 (0, 0)) by rw [hw5]; exact blk_far3 (blk_below HKH.out HB4.out) hH4 _ _ _)
   have HB5 := zM (show Below wr.heap.size wr w5 by rw [hw5]; exact below_set3 HB4.out GE4.out _ _ _)
   rw [← hw5]
   clear hw5 fzgR0 fzgR1 fzgR2 clgR0 clgR1 clgR2 hx0 hx1 hx2 HB4 BK4 GE4 hkA hkH hA4 hH4 qA0 qA1 qA2 qH0 qH1 qH2 qH3 qH4 qH5
   have hkA := HKA5.out
   have hkH := HKH5.out
   have hkR := HK5.out
   have qA0 : w5.cell? ⟨gA, 0, none⟩ = some (.int .u64 b) := (blk_cell hkA 0).trans rfl
   have qA1 : w5.cell? ⟨gA, 1, none⟩ = some (.int .u64 e) := (blk_cell hkA 1).trans rfl
   have qA2 : w5.cell? ⟨gA, 2, none⟩ = some (.slice AL L.length cL) := (blk_cell hkA 2).trans rfl
   have qH0 : w5.cell? ⟨w.heap.size, 0, none⟩ = some (.int .i64 a0) := (blk_cell hkH 0).trans rfl
   have qH1 : w5.cell? ⟨w.heap.size, 1, none⟩ = some (.int .i64 a1) := (blk_cell hkH 1).trans rfl
   have qH2 : w5.cell? ⟨w.heap.size, 2, none⟩ = some (.int .i64 a2) := (blk_cell hkH 2).trans rfl
   have qH3 : w5.cell? ⟨w.heap.size, 3, none⟩ = some (.int .u64 a3) := (blk_cell hkH 3).trans rfl
   have qH4 : w5.cell? ⟨w.heap.size, 4, none⟩ = some (.int .u64 a4) := (blk_cell hkH 4).trans rfl
   have qH5 : w5.cell? ⟨w.heap.size, 5, none⟩ = some (.int .u64 a5) := (blk_cell hkH 5).trans rfl
   have qR0 : w5.cell? ⟨gR, 0, none⟩ = some (.int .u64 r.f0) := (blk_cell hkR 0).trans rfl
   have qR1 : w5.cell? ⟨gR, 1, none⟩ = some (.int .u64 r.f1) := (blk_cell hkR 1).trans rfl
   have qR2 : w5.cell? ⟨gR, 2, none⟩ = some (.slice Ae r.f2.length ce) := (blk_cell hkR 2).trans rfl
   have HBW := zM (HB.out.trans (HB5.out.mono HB.out.size))
   clear hkA hkH hkR
   go_upto_region 6 with (first
    | (go_at_call 27; (with_reducible refine (impl_AppendRange.calls k a0 a1 a2 a3 a4 a5 b e AL cL L r.f0 r.f1 Ae ce r.f2 x0 x1 xL xv true w5 ?s1 ?s2 ?s3 ?s4 HLE.out HAP.out).mono ?_); (case s1 => exact TabOK.below HT.out HBW.out); (case s2 => exact (Mx_reads (Mx_below HM.out HB5.out) HBW.out).2.2); (case s3 => exact (Mx_reads HM.out HB.out).2.1); (case s4 => exact Kd.C_below HIE.out HB5.out); rintro e' w6 ⟨v6, v61, rfl, hS6, hR61, hB6⟩; obtain ⟨A6, c6, rfl⟩ := Kd.S_slice hS6; have HS6 := zM hS6; have HB6 := zM hB6; clear hS6 hR61 hB6)
    | ((with_reducible refine gate_dst (N := 10) rfl ?_); refine bx 10 #[.int .u64 0, .int .u64 0, .slice none 0 0] 39 ?_; intro gT hg_gT w7 hbox_gT hb_gT; have fzgT0 := blk_frozen hbox_gT 0; have clgT0 : w7.cell? ⟨gT, 0, none⟩ = some (.int .u64 0) := (blk_cell hbox_gT 0).trans rfl; have fzgT1 := blk_frozen hbox_gT 1; have clgT1 : w7.cell? ⟨gT, 1, none⟩ = some (.int .u64 0) := (blk_cell hbox_gT 1).trans rfl; have fzgT2 := blk_frozen hbox_gT 2; have clgT2 : w7.cell? ⟨gT, 2, none⟩ = some (.slice none 0 0) := (blk_cell hbox_gT 2).trans rfl;have HB7 := zM hb_gT; have BK7 := zM hbox_gT; have GE7 := zM (Nat.le_of_eq hg_gT.symm); clear hb_gT hbox_gT hg_gT))
   obtain ⟨w8, hw8⟩ : ∃ w8, w8 = ((w7.setCell ⟨gT, 0, none⟩ (.int .u64 x0)).setCell ⟨gT, 1, none⟩ (.int .u64 x1)).setCell ⟨gT, 2, none⟩ (.slice A6 xL.length c6) := ⟨_, rfl⟩
   have HB57 := zM (show Below w5.heap.size w5 w7 from HB6.out.trans (HB7.out.mono HB6.out.size))
   have hgt : w5.heap.size ≤ gT := Nat.le_trans HB6.out.size GE7.out
   have hA7 := Nat.ne_of_lt (Nat.lt_of_lt_of_le (blk_lt HKA5.out) hgt)
   have hH7 := Nat.ne_of_lt (Nat.lt_of_lt_of_le (blk_lt HKH5.out) hgt)
   have hsz6 : w.heap.size ≤ w6.heap.size := Nat.le_trans HBW.out.size HB6.out.size
   have HK8 := zM (show w8.heap[gT]? = some (.cells #[.int .u64 x0, .int .u64 x1, .slice A6 xL.length c6] 39 (0, 0)) by rw [hw8]; exact blk_put3 BK7.out _ _ _)
   have HKA8 := zM (show w8.heap[gA]? = some (.cells #[.int .u64 b, .int .u64 e, .slice AL L.length cL] 39 (0, 0)) by rw [hw8]; exact blk_far3 (blk_below HKA5.out HB57.out) hA7 _ _ _)
   have HKH8 := zM (show w8.heap[w.heap.size]? = some (.cells #[.int .i64 a0, .int .i64 a1, .int .i64 a2, .int .u64 a3, .int .u64 a4, .int .u64 a5] 24 (0, 0)) by rw [hw8]; exact blk_far3 (blk_below HKH5.out HB57.out) hH7 _ _ _)
   have HB8 := zM (show Below w.heap.size w w8 by rw [hw8]; exact below_set3 (HBW.out.trans (HB57.out.mono HBW.out.size)) (Nat.le_trans hsz6 GE7.out) _ _ _)
   have HM8 := zM (show Mx w (Kd.slice 5 (Kd.int .u8)) 27 w8 w.heap.size (fun _ => True) (.slice A6 xL.length c6) xL by rw [hw8]; exact Mx_set3 (Mx_below (.inr (Kd.S_lower HS6.out HBW.out.size)) HB7.out) BK7.out (by decide) _ _ _)
   rw [← hw8]
   clear hw8 fzgT0 fzgT1 fzgT2 clgT0 clgT1 clgT2 HB7 BK7 GE7 hA7 hH7 hgt hsz6 qA0 qA1 qA2 qH0 qH1 qH2 qH3 qH4 qH5 qR0 qR1 qR2
   have hkA := HKA8.out
   have hkT := HK8.out
   have qA0 : w8.cell? ⟨gA, 0, none⟩ = some (.int .u64 b) := (blk_cell hkA 0).trans rfl
   have qA1 : w8.cell? ⟨gA, 1, none⟩ = some (.int .u64 e) := (blk_cell hkA 1).trans rfl
   have qA2 : w8.cell? ⟨gA, 2, none⟩ = some (.slice AL L.length cL) := (blk_cell hkA 2).trans rfl
   have fA0 := blk_frozen hkA 0
   have fA1 := blk_frozen hkA 1
   have fA2 := blk_frozen hkA 2
   have qT0 : w8.cell? ⟨gT, 0, none⟩ = some (.int .u64 x0) := (blk_cell hkT 0).trans rfl
   have qT1 : w8.cell? ⟨gT, 1, none⟩ = some (.int .u64 x1) := (blk_cell hkT 1).trans rfl
   have qT2 : w8.cell? ⟨gT, 2, none⟩ = some (.slice A6 xL.length c6) := (blk_cell hkT 2).trans rfl
   clear hkA hkT
   go_wp2
   go_roundg (rest.length - i)
   case measure => have := HN.out; omega
   case rel => exact ⟨i + 1, x0, x1, xL, _, rfl, by rw [hwi]; rfl, ⟨by have := HN.out; omega, by have := HN.out; omega⟩, HG2, ⟨blk_put3 HKA8.out _ _ _⟩, ⟨blk_far3 HKH8.out (Nat.ne_of_lt HGL.out) _ _ _⟩, ⟨Mx_set3 HM8.out HKA8.out (by decide) _ _ _⟩, ⟨below_set3 HB8.out HGE.out _ _ _⟩⟩
  ·have hd : rest.drop i = [] := List.drop_eq_nil_of_le (by omega)
   have hg := HG.out
   rw [hd] at hg
   obtain ⟨rfl, rfl, rfl⟩ : b = qb ∧ e = qe ∧ L = qL := by simpa [grGo] using hg
   have hni : ¬ ((i : Int) < (rest.length : Int)) := by omega
   clear hd hg hkA hkH
   go_wp2_with (go_at_call 107; (with_reducible refine (impl_RootHash.calls k a0 a1 a2 a3 a4 a5 b e AL cL L t wr ?s1 ?s2 ?s3 HTT.out).mono ?_); (case s1 => exact TabOK.below HT.out HB.out); (case s2 => exact (Mx_reads HM.out HB.out).2.2); (case s3 => exact (Mx_reads HM.out HB.out).2.1); rintro e' w9 ⟨v0, v1, rfl, hR9, hB9⟩; have HR9 := zM hR9; have HB9 := zM hB9; clear hR9 hB9)
   go_ret2
   exact ⟨_, rfl, Kd.R_lower HR9.out HB.out.size, HB.out.trans (HB9.out.mono HB.out.size)⟩
def impl_Inclusion.f (k : Nat) (a0 : Int) (a1 : Int) : Option ((List (S54)) × Int × Int × Int × Int × Bool) := (proof_Inclusion.f k a0 a1).bind fun bt337 => (if bt337.2.2.2.2.2.isNone = true then ((impl_fromProof.f k bt337.1 bt337.2.1 bt337.2.2.1 bt337.2.2.2.1 bt337.2.2.2.2.1).bind fun bt347 => (some (bt347.1, bt347.2.1, bt347.2.2.1, bt347.2.2.2.1, bt347.2.2.2.2, true))) else none)
set_option maxHeartbeats 8000000 in
set_option maxRecDepth 100000 in
theorem impl_Inclusion.calls (k : Nat) (a0 : Int) (a1 : Int) (r1 : List (S54)) (r2 : Int) (r3 : Int) (r4 : Int) (r5 : Int) (r6 : Bool) (w : World) (hT : TabOK w) (h : impl_Inclusion.f k a0 a1 = some (r1, r2, r3, r4, r5, r6)) :
  Calls Tryd.prog 74 #[.int .u64 a0, .int .u64 a1] w fun e w' => ∃ v0_ : Value, e = .returned (.tuple #[.agg #[v0_, .int .u64 r2, .int .u64 r3, .int .i64 r4, .int .i64 r5], .bool r6]) ∧ Kd.R k54 54 w' w.heap.size (fun _ => True) v0_ r1 ∧ Below w.heap.size w w' := by
 have hu68 := Tryd.underlying68
 have hu122 := Tryd.underlying122
 have hu91 := Tryd.underlying91
 have HT := zM hT
 clear hT
 have HB := zM (Below.refl w.heap.size w)
 have H : ((proof_Inclusion.f k a0 a1).bind fun bt337 => (if bt337.2.2.2.2.2.isNone = true then ((impl_fromProof.f k bt337.1 bt337.2.1 bt337.2.2.1 bt337.2.2.2.1 bt337.2.2.2.2.1).bind fun bt347 => (some (bt347.1, bt347.2.1, bt347.2.2.1, bt347.2.2.2.1, bt347.2.2.2.2, true))) else none)) = some (r1, r2, r3, r4, r5, r6) := h
 clear h
 replace H := Option.bind_eq_some_iff.mp H
 obtain ⟨⟨t337, t340, t341, t342, t343, t344⟩, A30, H⟩ := H
 (try dsimp only at H)
 have A3 := zM A30
 clear A30
 rcases t344 with _ | q346
 ·have H1 : ((impl_fromProof.f k t337 t340 t341 t342 t343).bind fun bt347 => (some (bt347.1, bt347.2.1, bt347.2.2.1, bt347.2.2.2.1, bt347.2.2.2.2, true))) = some (r1, r2, r3, r4, r5, r6) := by rw [if_pos (show (none : Option Int).isNone = true by rfl)] at H; exact H
  clear H
  have H := H1
  clear H1
  try simp only [errW_none, errW_some]
  replace H := Option.bind_eq_some_iff.mp H
  obtain ⟨⟨t347, t350, t351, t352, t353⟩, A40, H⟩ := H
  (try dsimp only at H)
  have A4 := zM A40
  clear A40
  simp only [Option.some.injEq, Prod.mk.injEq] at H
  obtain ⟨rfl, rfl, rfl, rfl, rfl, rfl⟩ := H
  go_enter Tryd.func74, Tryd.ntmps74
  go_wp2_with (first | ((with_reducible refine gate_dst (N := 4) rfl ?_); refine bx 4 #[.slice none 0 0, .int .u64 0, .int .u64 0, .int .i64 0, .int .i64 0] 68 ?_; intro gb336 hg w5 hbox hb; have BK336 := zM (hbox); have GW336 := zM ((gB hg : w.heap.size ≤ gb336)); have GE336 := zM ((gB hg : w.heap.size ≤ gb336)); replace HB := zM (below_step bB hb); clear hb hbox hg) | ((with_reducible refine gate_callee (f := 106) rfl ?_); refine goesL_ (some 11) rfl rfl Tryd.func106 (by kernel_rfl) rfl #[.int .u64 a0, .int .u64 a1] rfl aV ?_; (with_reducible refine (proof_Inclusion.calls k a0 a1 t337 t340 t341 t342 t343 none _ ?side1 A3.out).mono ?_); (case side1 => exact TabOK.below HT.out bB); rintro e w6 ⟨Tt344, Xt344, v338, rfl, ho0, hb⟩; refine ⟨_, rfl, ?_⟩; have HO339 := zM (Kd.V_lower (Kd.V_mono (ok' := fun k_ => k_ ≠ gb336) ho0 (fun k_ hk_ => (Kd.freshB (g := gb336) (o := .cells #[.slice none 0 0, .int .u64 0, .int .u64 0, .int .i64 0, .int .i64 0] 68 (0, 0)) (kB BK336.out) k_ hk_))) (below_size bB)); replace BK336 := zM (bK BK336 hb); replace HB := zM (below_step bB hb); (try simp only [errW_none, errW_some])) | ((with_reducible refine gate_dst (N := 6) rfl ?_); refine bx 6 #[.slice none 0 0, .int .i64 0, .int .i64 0, .int .u64 0, .int .u64 0] 122 ?_; intro gb345 hg w7 hbox hb; replace HO339 := zM (Kd.V_below (Kd.V_elderB (kV HO339.out) gb345 (Nat.le_of_eq hg.symm)) hb); have BK345 := zM (hbox); have GW345 := zM ((gB hg : w.heap.size ≤ gb345)); have GE345 := zM ((gB hg : w.heap.size ≤ gb345)); replace HB := zM (below_step bB hb); have NB336_345 := zM ((by rw [hg]; exact Nat.ne_of_lt (blk_lt (g := gb336) (o := .cells #[.slice none 0 0, .int .u64 0, .int .u64 0, .int .i64 0, .int .i64 0] 68 (0, 0)) (kB BK336.out)) : gb336 ≠ gb345)); have NB345_336 := zM ((by rw [hg]; exact Nat.ne_of_gt (blk_lt (g := gb336) (o := .cells #[.slice none 0 0, .int .u64 0, .int .u64 0, .int .i64 0, .int .i64 0] 68 (0, 0)) (kB BK336.out)) : gb345 ≠ gb336)); replace BK336 := zM (bK BK336 hb); clear hb hbox hg; obtain ⟨Ao8, co8, eo8⟩ := Kd.V_slice HO339.out; subst eo8; have hnb9 := NB345_336.out; have hnc9 := NB336_345.out; obtain ⟨hcz10_0, hcz10_1, hcz10_2, hcz10_3, hcz10_4⟩ := h5 BK345; obtain ⟨hfz10_0, hfz10_1, hfz10_2, hfz10_3, hfz10_4⟩ := f5 BK345) | ((with_reducible refine gate_callee (f := 70) rfl ?_); refine goesL_ (some 18) rfl rfl Tryd.func70 (by kernel_rfl) rfl #[.agg #[.slice Ao8 t337.length co8, .int .i64 t340, .int .i64 t341, .int .u64 t342, .int .u64 t343]] rfl aV ?_; (with_reducible refine (impl_fromProof.calls k _ _ t337 t340 t341 t342 t343 t347 t350 t351 t352 t353 _ ?side1 ?side2 A4.out).mono ?_); (case side1 => refine (Kd.V_reads' (e := 106) (base := w.heap.size) (ok := fun k_ => (k_ ≠ gb336 ∧ k_ ≠ gb345)) (n := t337.length) (c := co8) ?_).2.2; exact (by refine vV ?_; exact (Kd.V_mono (Kd.V_far (p := ⟨gb345, 4, none⟩) (Kd.V_far (p := ⟨gb345, 3, none⟩) (Kd.V_far (p := ⟨gb345, 2, none⟩) (Kd.V_far (p := ⟨gb345, 1, none⟩) (Kd.V_far (p := ⟨gb345, 0, none⟩) (Kd.V_mono HO339.out (fun k_ hk => (⟨hk, hk.2⟩ : _ ∧ k_ ≠ gb345))) (fun _ hk => hk.2) (.slice Ao8 t337.length co8)) (fun _ hk => hk.2) (.int .i64 t340)) (fun _ hk => hk.2) (.int .i64 t341)) (fun _ hk => hk.2) (.int .u64 t342)) (fun _ hk => hk.2) (.int .u64 t343)) (fun _ h_ => h_.1)))); (case side2 => exact (Kd.V_reads' HO339.out).2.1); rintro e w11 ⟨v348, rfl, ho0, hb⟩; refine ⟨_, rfl, ?_⟩; replace HO339 := zM (Kd.V_elder' (by refine vV ?_; exact (Kd.V_mono (Kd.V_far (p := ⟨gb345, 4, none⟩) (Kd.V_far (p := ⟨gb345, 3, none⟩) (Kd.V_far (p := ⟨gb345, 2, none⟩) (Kd.V_far (p := ⟨gb345, 1, none⟩) (Kd.V_far (p := ⟨gb345, 0, none⟩) (Kd.V_mono HO339.out (fun k_ hk => (⟨hk, hk.2⟩ : _ ∧ k_ ≠ gb345))) (fun _ hk => hk.2) (.slice Ao8 t337.length co8)) (fun _ hk => hk.2) (.int .i64 t340)) (fun _ hk => hk.2) (.int .i64 t341)) (fun _ hk => hk.2) (.int .u64 t342)) (fun _ hk => hk.2) (.int .u64 t343)) (fun _ h_ => h_.1))) (Kd.R_base ho0) hb); have HO349 := zM (Kd.R_lower ho0 (below_size bB)); replace BK336 := zM (blk_below (g := gb336) (o := .cells #[.slice none 0 0, .int .u64 0, .int .u64 0, .int .i64 0, .int .i64 0] 68 (0, 0)) (by refine kU ?_; refine blk_far ?_ NB336_345.out _; refine kU ?_; refine blk_far ?_ NB336_345.out _; refine kU ?_; refine blk_far ?_ NB336_345.out _; refine kU ?_; refine blk_far ?_ NB336_345.out _; refine kU ?_; refine blk_far ?_ NB336_345.out _; refine kU ?_; exact BK336.out) hb); replace BK345 := zM (blk_below (g := gb345) (o := .cells #[.slice Ao8 t337.length co8, .int .i64 t340, .int .i64 t341, .int .u64 t342, .int .u64 t343] 122 (0, 0)) (by refine kU ?_; refine blk_put (cs := #[.slice Ao8 t337.length co8, .int .i64 t340, .int .i64 t341, .int .u64 t342, .int .u64 0]) ?_ 4 _ rfl; refine kU ?_; refine blk_put (cs := #[.slice Ao8 t337.length co8, .int .i64 t340, .int .i64 t341, .int .u64 0, .int .u64 0]) ?_ 3 _ rfl; refine kU ?_; refine blk_put (cs := #[.slice Ao8 t337.length co8, .int .i64 t340, .int .i64 0, .int .u64 0, .int .u64 0]) ?_ 2 _ rfl; refine kU ?_; refine blk_put (cs := #[.slice Ao8 t337.length co8, .int .i64 0, .int .i64 0, .int .u64 0, .int .u64 0]) ?_ 1 _ rfl; refine kU ?_; refine blk_put (cs := #[.slice none 0 0, .int .i64 0, .int .i64 0, .int .u64 0, .int .u64 0]) ?_ 0 _ rfl; refine kU ?_; exact BK345.out) hb); replace HB := zM (below_step bB hb); obtain ⟨Ao12, co12, eo12⟩ := Kd.R_slice HO349.out; subst eo12; obtain ⟨hcz13_0, hcz13_1, hcz13_2, hcz13_3, hcz13_4⟩ := h5 BK336; obtain ⟨hfz13_0, hfz13_1, hfz13_2, hfz13_3, hfz13_4⟩ := f5 BK336))
  refine bodyPost_ret (results_ct rfl _ _ gb336 68 #[.slice Ao12 t347.length co12, .int .u64 t350, .int .u64 t351, .int .i64 t352, .int .i64 t353] (0, 0) _ rfl (by refine kU ?_; refine blk_put (cs := #[.slice Ao12 t347.length co12, .int .u64 t350, .int .u64 t351, .int .i64 t352, .int .i64 0]) ?_ 4 _ rfl; refine kU ?_; refine blk_put (cs := #[.slice Ao12 t347.length co12, .int .u64 t350, .int .u64 t351, .int .i64 0, .int .i64 0]) ?_ 3 _ rfl; refine kU ?_; refine blk_put (cs := #[.slice Ao12 t347.length co12, .int .u64 t350, .int .u64 0, .int .i64 0, .int .i64 0]) ?_ 2 _ rfl; refine kU ?_; refine blk_put (cs := #[.slice Ao12 t347.length co12, .int .u64 0, .int .u64 0, .int .i64 0, .int .i64 0]) ?_ 1 _ rfl; refine kU ?_; refine blk_put (cs := #[.slice none 0 0, .int .u64 0, .int .u64 0, .int .i64 0, .int .i64 0]) ?_ 0 _ rfl; refine kU ?_; exact BK336.out) Tryd.underlying68 rfl (by kernel_rfl)) rfl ?_
  exact ⟨_, by first | rfl | (simp [errW_none, errW_some] <;> rfl) | (simp [*, errW_none, errW_some] <;> rfl), by refine vR ?_; exact Kd.R_mono (Kd.R_far (p := ⟨gb336, 4, none⟩) (Kd.R_far (p := ⟨gb336, 3, none⟩) (Kd.R_far (p := ⟨gb336, 2, none⟩) (Kd.R_far (p := ⟨gb336, 1, none⟩) (Kd.R_far (p := ⟨gb336, 0, none⟩) (Kd.R_types HO349.out BK336.out (by decide)) (fun _ hk => hk.2) (.slice Ao12 t347.length co12)) (fun _ hk => hk.2) (.int .u64 t350)) (fun _ hk => hk.2) (.int .u64 t351)) (fun _ hk => hk.2) (.int .i64 t352)) (fun _ hk => hk.2) (.int .i64 t353)) (fun _ hk => trivial), bB⟩
 ·have H1 : none = some (r1, r2, r3, r4, r5, r6) := by rw [if_neg (show ¬ (some q346).isNone = true by simp)] at H; exact H
  cases H1
end Go.Proofs.YtkmdkmlgahfcpaaDoor.M
