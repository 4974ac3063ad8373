import Derived.Test.YtkmdkmlgahfcpaaDoorSr
import Derived.Test.YtkmdkmlgahfcpaaDoorMm1
namespace Go.Proofs.YtkmdkmlgahfcpaaDoor.M
open Go.RowKit Go.Proofs.YtkmdkmlgahfcpaaDoorW.PrintWords Go.Proofs.YtkmdkmlgahfcpaaDoorW.PrintLast Go.Proofs.YtkmdkmlgahfcpaaDoorW.PrintMore
attribute [local go_sem] max2_int min2_int max_two min_two max_three min_three max_four min_four
set_option linter.unusedVariables false
set_option linter.unusedSimpArgs false
def spec_pathIn.f : Nat → Int → Int → Int → Option ((List (S57)))
 | 0, _, _, _ => none
 | k + 1, a0, a1_0, a1_1 => if (IntKind.u64.wrap (a1_1 - a1_0)) = 1 then (some ([] : List (S57))) else ((spec_split.f k (IntKind.u64.wrap (a1_1 - a1_0))).bind fun t245 => (if a0 < (IntKind.u64.wrap (a1_0 + t245)) then ((spec_pathIn.f k a0 a1_0 (IntKind.u64.wrap (a1_0 + t245))).bind fun t246 => ((some (([(⟨IntKind.u64.wrap (a1_0 + t245), a1_1⟩ : S57)] : List (S57)) : List (S57))).bind fun y249 => (if t246.length + y249.length < 8796093022208 then (some (t246 ++ y249)) else (none)))) else ((spec_pathIn.f k a0 (IntKind.u64.wrap (a1_0 + t245)) a1_1).bind fun t255 => ((some (([(⟨a1_0, IntKind.u64.wrap (a1_0 + t245)⟩ : S57)] : List (S57)) : List (S57))).bind fun y258 => (if t255.length + y258.length < 8796093022208 then (some (t255 ++ y258)) else (none))))))
def spec_pathIn.T3 : Bool × List (List Nat × List Nat) := (true, [([], []), ([0], [0]), ([], []), ([2], [2]), ([], []), ([4], [4]), ([3, 5], [3, 5]), ([6], [6]), ([1, 7], [1, 7]), ([8, 7, 0, 1, 2, 3, 4, 5, 6, 7, 8], [8])])
def spec_pathIn.B3 : List Nat := [0, 1, 0, 4, 0, 16, 60, 124, 255, 511]
theorem spec_pathIn.tab3 : rtab .any (opsOf Tryd.f101 3) = spec_pathIn.T3 := by kernel_rfl
theorem spec_pathIn.bits3 : waitsOk spec_pathIn.T3.2 spec_pathIn.B3 = true := by kernel_rfl
def spec_pathIn.T5 : Bool × List (List Nat × List Nat) := (true, [([], []), ([], []), ([1], [1]), ([], []), ([2, 3], [2, 3]), ([0, 4], [0, 4]), ([], []), ([], []), ([7], [7]), ([6, 8], [6, 8]), ([9], [9]), ([5, 10, 5], [5, 10]), ([11, 11, 0, 1, 2, 3, 4, 5, 6, 7, 8, 9, 10, 11], [11])])
def spec_pathIn.B5 : List Nat := [0, 0, 2, 0, 14, 31, 0, 0, 128, 448, 960, 2047, 4095]
theorem spec_pathIn.tab5 : rtab .any (opsOf Tryd.f101 5) = spec_pathIn.T5 := by kernel_rfl
theorem spec_pathIn.bits5 : waitsOk spec_pathIn.T5.2 spec_pathIn.B5 = true := by kernel_rfl
def spec_pathIn.T6 : Bool × List (List Nat × List Nat) := (true, [([], []), ([], []), ([], []), ([2], [2]), ([1, 3], [1, 3]), ([0, 4], [0, 4]), ([], []), ([6], [6]), ([], []), ([7, 8], [7, 8]), ([9], [9]), ([5, 10, 5], [5, 10]), ([11, 11, 0, 1, 2, 3, 4, 5, 6, 7, 8, 9, 10, 11], [11])])
def spec_pathIn.B6 : List Nat := [0, 0, 0, 4, 14, 31, 0, 64, 0, 448, 960, 2047, 4095]
theorem spec_pathIn.tab6 : rtab .any (opsOf Tryd.f101 6) = spec_pathIn.T6 := by kernel_rfl
theorem spec_pathIn.bits6 : waitsOk spec_pathIn.T6.2 spec_pathIn.B6 = true := by kernel_rfl
set_option maxHeartbeats 8000000 in
set_option maxRecDepth 100000 in
theorem spec_pathIn.calls (k : Nat) : ∀ (a0 : Int) (a1_0 : Int) (a1_1 : Int) (r : List (S57)) (w : World) (h : spec_pathIn.f k a0 a1_0 a1_1 = some r),
  Calls Tryd.prog 101 #[.int .u64 a0, .agg #[.int .u64 a1_0, .int .u64 a1_1]] w fun e w' => ∃ v0_ : Value, e = .returned (v0_) ∧ Kd.R k57 57 w' w.heap.size (fun _ => True) v0_ r ∧ Below w.heap.size w w' := by
 induction k using Nat.strongRecOn with
 | _ k ih =>
 intro a0 a1_0 a1_1 r w h
 cases k with
 | zero => exact absurd h (by simp [spec_pathIn.f])
 | succ k =>
 simp only [spec_pathIn.f] at h
 have hu57 := Tryd.underlying57
 have HB := zM (Below.refl w.heap.size w)
 have H : (if (IntKind.u64.wrap (a1_1 - a1_0)) = 1 then (some ([] : List (S57))) else ((spec_split.f k (IntKind.u64.wrap (a1_1 - a1_0))).bind fun t245 => (if a0 < (IntKind.u64.wrap (a1_0 + t245)) then ((spec_pathIn.f k a0 a1_0 (IntKind.u64.wrap (a1_0 + t245))).bind fun t246 => ((some (([(⟨IntKind.u64.wrap (a1_0 + t245), a1_1⟩ : S57)] : List (S57)) : List (S57))).bind fun y249 => (if t246.length + y249.length < 8796093022208 then (some (t246 ++ y249)) else (none)))) else ((spec_pathIn.f k a0 (IntKind.u64.wrap (a1_0 + t245)) a1_1).bind fun t255 => ((some (([(⟨a1_0, IntKind.u64.wrap (a1_0 + t245)⟩ : S57)] : List (S57)) : List (S57))).bind fun y258 => (if t255.length + y258.length < 8796093022208 then (some (t255 ++ y258)) else (none))))))) = some r := h
 clear h
 by_cases c3 : (IntKind.u64.wrap (a1_1 - a1_0)) = 1
 ·rw [if_pos c3] at H
  have c3b0 : ((IntKind.u64.wrap (a1_1 - a1_0)) == 1) = true := beq_iff_eq.mpr c3
  have c3b1 : ((IntKind.u64.wrap (a1_1 - a1_0)) != 1) = false := bne_eq_false_iff_eq.mpr c3
  clear c3
  obtain rfl := Option.some.inj H
  go_enter Tryd.func101, Tryd.ntmps101
  go_wp2_with (first | ((with_reducible refine gate_dst (N := 3) rfl ?_); refine bx 3 #[.int .u64 a1_0, .int .u64 a1_1] 57 ?_; intro gb244 hg w4 hbox hb; have BK244 := zM (hbox); have GW244 := zM ((gB hg : w.heap.size ≤ gb244)); have GE244 := zM ((gB hg : w.heap.size ≤ gb244)); replace HB := zM (below_step bB hb); clear hb hbox hg; obtain ⟨hcz5_0, hcz5_1⟩ := h2 BK244; obtain ⟨hfz5_0, hfz5_1⟩ := f2 BK244))
  go_ret
  exact ⟨(.slice none 0 0), by first | rfl | (simp [errW_none, errW_some] <;> rfl) | (simp [*, errW_none, errW_some] <;> rfl), by first | exact Kd.V_nil _ _ _ _ _ | exact Kd.R_nil _ _ _ _ _ | exact Kd.S_nil _ _ _ _ _ | exact Kd.N_nil _ _ _ _ _ | exact Kd.Q_nil _ _ _ _ _, bB⟩
 ·rw [if_neg c3] at H
  have c3b0 : ((IntKind.u64.wrap (a1_1 - a1_0)) == 1) = false := beq_eq_false_iff_ne.mpr c3
  have c3b1 : ((IntKind.u64.wrap (a1_1 - a1_0)) != 1) = true := bne_iff_ne.mpr c3
  replace H := Option.bind_eq_some_iff.mp H
  obtain ⟨t245, A60, H⟩ := H
  (try dsimp only at H)
  have A6 := zM A60
  clear A60
  by_cases c7 : a0 < (IntKind.u64.wrap (a1_0 + t245))
  ·rw [if_pos c7] at H
   have c7b0 : decide (a0 < (IntKind.u64.wrap (a1_0 + t245))) = true := decide_eq_true c7
   clear c7
   replace H := Option.bind_eq_some_iff.mp H
   obtain ⟨t246, A80, H⟩ := H
   (try dsimp only at H)
   have A8 := zM A80
   clear A80
   obtain ⟨y249, hy249⟩ : ∃ y_ : List (S57), y_ = (([(⟨IntKind.u64.wrap (a1_0 + t245), a1_1⟩ : S57)] : List (S57))) := ⟨_, rfl⟩
   replace H : (if t246.length + y249.length < 8796093022208 then (some (t246 ++ y249)) else (none)) = some r := by first | (rw [hy249]; with_reducible exact H) | (have H := (Option.bind_some _ _).symm.trans H; first | (rw [hy249]; with_reducible exact H) | with_reducible exact H) | (rw [hy249]; exact H) | exact H
   have Ny249 := zM hy249
   clear hy249
   by_cases c9 : t246.length + y249.length < 8796093022208
   ·rw [if_pos c9] at H
    have LMc9 := zM c9
    clear c9
    obtain ⟨y252, hy252⟩ : ∃ y_ : List (S57), y_ = (t246 ++ y249) := ⟨_, rfl⟩
    replace H : (some y252) = some r := by first | (rw [hy252]; with_reducible exact H) | (have H := (Option.bind_some _ _).symm.trans H; first | (rw [hy252]; with_reducible exact H) | with_reducible exact H) | (rw [hy252]; exact H) | exact H
    have Ny252 := zM hy252
    clear hy252
    obtain rfl := Option.some.inj H
    go_enter Tryd.func101, Tryd.ntmps101
    try go_wp2_with (first | ((with_reducible refine gate_dst (N := 3) rfl ?_); refine bx 3 #[.int .u64 a1_0, .int .u64 a1_1] 57 ?_; intro gb244 hg w10 hbox hb; have BK244 := zM (hbox); have GW244 := zM ((gB hg : w.heap.size ≤ gb244)); have GE244 := zM ((gB hg : w.heap.size ≤ gb244)); replace HB := zM (below_step bB hb); clear hb hbox hg; obtain ⟨hcz11_0, hcz11_1⟩ := h2 BK244; obtain ⟨hfz11_0, hfz11_1⟩ := f2 BK244))
    replace BK244 := zM (blk_drew BK244.out)
    replace HB := zM (below_drew1 HB.out)
    refine start_ (n := 10) (S := fun w' => C2 w' gb244 (.int .u64 a1_0) (.int .u64 a1_1)) (ds := []) #[ff,ff,ff,ff,ff,ff,ff,ff,ff,ff] (by kernel_rfl) rfl rfl (h2 BK244) (fun hHeld => ?_); refine with_tabW spec_pathIn.tab3 spec_pathIn.bits3 (fun HT_ HW_ => ?_)
    generalize w10.drew = w12 at BK244 HB hHeld ⊢
    refine pA 0 (some 12) #[tt,ff,ff,ff,ff,ff,ff,ff,ff,ff] HT_ ?_
    refine pA 2 (some 14) #[tt,ff,tt,ff,ff,ff,ff,ff,ff,ff] HT_ ?_
    refine pA 4 (some 16) #[tt,ff,tt,ff,tt,ff,ff,ff,ff,ff] HT_ ?_
    refine tA 1 (some 13) #[tt,tt,tt,ff,tt,ff,ff,ff,ff,ff] rfl rfl HT_ HW_ hHeld (by rintro w' ⟨s0, s1⟩; go_simp; with_reducible rfl) ?_
    refine tA 3 (some 15) #[tt,tt,tt,tt,tt,ff,ff,ff,ff,ff] rfl rfl HT_ HW_ hHeld (by rintro w' ⟨s0, s1⟩; go_simp; with_reducible rfl) ?_
    refine tA 5 (some 17) #[tt,tt,tt,tt,tt,tt,ff,ff,ff,ff] rfl rfl HT_ HW_ hHeld (by rintro w' ⟨s0, s1⟩; go_simp; with_reducible rfl) ?_
    refine pA 6 (some 18) #[tt,tt,tt,tt,tt,tt,tt,ff,ff,ff] HT_ ?_
    refine one_ (i := 7) (N := some 19) #[tt,tt,tt,tt,tt,tt,tt,tt,ff,ff] rfl rfl (one_of HT_.out (by kernel_rfl)) (by decide) (fun K hK => ?_)
    refine goes_ Tryd.func99 (by kernel_rfl) rfl #[.int .u64 (IntKind.u64.wrap (a1_1 - a1_0))] (by rfl) rfl rfl aV ?_
    with_reducible refine (spec_split.calls k (IntKind.u64.wrap (a1_1 - a1_0)) t245 _ A6.out).mono ?_
    rintro e w' ⟨rfl, ⟨nd, rfl⟩⟩
    refine ⟨_, rfl, ?_⟩
    refine hK.out _ _ (h2 BK244) (fun hHeld => ?_)
    clear hK K
    refine nS ?_
    refine pA 8 (some 20) #[tt,tt,tt,tt,tt,tt,tt,tt,tt,ff] HT_ ?_
    refine pA 9 (some 5) #[tt,tt,tt,tt,tt,tt,tt,tt,tt,tt] HT_ ?_
    refine done_ (done_of HT_.out (by kernel_rfl)) ?_
    try go_wp2
    (try (rw [drewN_self w12]; generalize hq_ : World.drewN w12 _ = w12; have n0_ : Aside0 (w12.heap[gb244]? = some (.cells #[.int .u64 a1_0, .int .u64 a1_1] 57 (0, 0))) := ⟨by rw [← hq_]; exact (kB BK244.out)⟩; have n1_ : Aside0 (Below w.heap.size w w12) := ⟨by rw [← hq_]; exact bB⟩; clear BK244 HB hq_; have BK244 := n0_; have HB := n1_; clear n0_ n1_))
    replace BK244 := zM (blk_drew BK244.out)
    replace HB := zM (below_drew1 HB.out)
    refine start_ (n := 13) (S := fun w' => C2 w' gb244 (.int .u64 a1_0) (.int .u64 a1_1)) (ds := []) #[ff,ff,ff,ff,ff,ff,ff,ff,ff,ff,ff,ff,ff] (by kernel_rfl) rfl rfl (h2 BK244) (fun hHeld => ?_); refine with_tabW spec_pathIn.tab5 spec_pathIn.bits5 (fun HT_ HW_ => ?_)
    generalize w12.drew = w13 at BK244 HB hHeld ⊢
    refine pA 0 (some 24) #[tt,ff,ff,ff,ff,ff,ff,ff,ff,ff,ff,ff,ff] HT_ ?_
    refine pA 1 (some 25) #[tt,tt,ff,ff,ff,ff,ff,ff,ff,ff,ff,ff,ff] HT_ ?_
    refine pA 3 (some 27) #[tt,tt,ff,tt,ff,ff,ff,ff,ff,ff,ff,ff,ff] HT_ ?_
    refine pA 6 (some 30) #[tt,tt,ff,tt,ff,ff,tt,ff,ff,ff,ff,ff,ff] HT_ ?_
    refine pA 7 (some 31) #[tt,tt,ff,tt,ff,ff,tt,tt,ff,ff,ff,ff,ff] HT_ ?_
    refine tA 2 (some 26) #[tt,tt,tt,tt,ff,ff,tt,tt,ff,ff,ff,ff,ff] rfl rfl HT_ HW_ hHeld (by rintro w' ⟨s0, s1⟩; go_simp; with_reducible rfl) ?_
    refine pA 4 (some 28) #[tt,tt,tt,tt,tt,ff,tt,tt,ff,ff,ff,ff,ff] HT_ ?_
    refine tA 8 (some 32) #[tt,tt,tt,tt,tt,ff,tt,tt,tt,ff,ff,ff,ff] rfl rfl HT_ HW_ hHeld (by rintro w' ⟨s0, s1⟩; go_simp; with_reducible rfl) ?_
    refine pA 9 (some 33) #[tt,tt,tt,tt,tt,ff,tt,tt,tt,tt,ff,ff,ff] HT_ ?_
    refine join_ (σ := Value × Value) 2 #[tt,tt,tt,tt,tt,tt,tt,tt,tt,tt,tt,ff,ff] (fun s_ => [(29, s_.1), (34, s_.2)]) (fun s_ w' => (C2 w' gb244 (.int .u64 a1_0) (.int .u64 a1_1)) ∧ (Kd.R k57 57 w' w.heap.size (fun k_ => some k_ ≠ (s_.2 : Value).ownBlock ∧ k_ ≠ gb244) s_.1 t246) ∧ (Kd.R k57 57 w' w.heap.size (fun k_ => some k_ ≠ (s_.1 : Value).ownBlock ∧ k_ ≠ gb244) s_.2 y249) ∧ (w'.heap[gb244]? = some (.cells #[.int .u64 a1_0, .int .u64 a1_1] 57 (0, 0))) ∧ (Below w.heap.size w w')) ?_ ?_
    rotate_left
    ·intro hCont
     refine two_ (i := 5) (j := 10) (Ni := some 29) (Nj := some 34) #[tt,tt,tt,tt,tt,tt,tt,tt,tt,tt,ff,ff,ff] #[tt,tt,tt,tt,tt,ff,tt,tt,tt,tt,tt,ff,ff] rfl rfl rfl rfl (two_of HT_.out (by kernel_rfl)) (by decide) (by decide) (fun K hK => ?_) (fun K hK => ?_)
     ·skip
      refine goes_ Tryd.func101 (by kernel_rfl) rfl #[.int .u64 a0, .agg #[.int .u64 a1_0, .int .u64 (IntKind.u64.wrap (a1_0 + t245))]] (by rfl) rfl rfl aV ?_
      with_reducible refine (ih k (by omega) a0 a1_0 (IntKind.u64.wrap (a1_0 + t245)) t246 _ A8.out).mono ?_
      rintro e w14 ⟨v247, rfl, ho0, hb⟩
      refine ⟨_, rfl, ?_⟩
      have HO248 := zM (Kd.R_lower (Kd.R_newB ho0 (g := gb244) (o := .cells #[.int .u64 a1_0, .int .u64 a1_1] 57 (0, 0)) (kB BK244.out)) (below_size bB))
      replace BK244 := zM (bK BK244 hb)
      replace HB := zM (below_step bB hb)
      refine hK.out _ _ (h2 BK244) (fun hHeld => ?_)
      clear hK K
      refine nS ?_
      refine one_ (i := 10) (N := some 34) #[tt,tt,tt,tt,tt,tt,tt,tt,tt,tt,tt,ff,ff] rfl rfl (one_of HT_.out (by kernel_rfl)) (by decide) (fun K hK => ?_)
      refine Kd.R_lit_step k57 _ 57 ?hg (N := 34) ?hd (xs := ([(⟨IntKind.u64.wrap (a1_0 + t245), a1_1⟩ : S57)] : List (S57))) (inner := [.int .u64 (IntKind.u64.wrap (a1_0 + t245)), .int .u64 a1_1]) (ok := fun _ => True) (okp := fun _ => True) ?hr ?hp (fun _ hk => hk) trivial (Below.refl _ _) (Nat.le_refl _) (by simp) ?_; (case hd => rfl); (case hg => rfl); (case hr => first | (go_simp; done) | (go_simp; rfl)); (case hp => exact (Reps.c2 (show Kd.M k57 _ _ _ (⟨IntKind.u64.wrap (a1_0 + t245), a1_1⟩ : S57) [.int .u64 (IntKind.u64.wrap (a1_0 + t245)), .int .u64 a1_1] from (k57_mkM _ _ _ (⟨IntKind.u64.wrap (a1_0 + t245), a1_1⟩ : S57) )) (Reps.none _ _)))
      intro v250 w15 ho16 hb hg_ hnew_
      clear hg_ hnew_
      (first | rw [← Ny249.out] at ho16 | (simp only [Int.reduceToNat] at ho16; rw [← Ny249.out] at ho16))
      have HO251 := zM (Kd.R_lower (Kd.R_newB (Kd.R_new' ho16 (Kd.R_lt (kR HO248.out))) (g := gb244) (o := .cells #[.int .u64 a1_0, .int .u64 a1_1] 57 (0, 0)) (kB BK244.out)) (below_size bB))
      replace HO248 := zM (Kd.R_elder' (kR HO248.out) (Kd.R_base ho16) hb)
      replace BK244 := zM (bK BK244 hb)
      replace HB := zM (below_step bB hb)
      clear hb ho16
      refine hK.out _ _ (h2 BK244) (fun hHeld => ?_)
      clear hK K
      refine nS ?_
      exact norm_ (by simp only [putAll, Act.put, List.setIfInBounds_toArray, List.set_cons_zero, List.set_cons_succ]) (hCont (v247, v250) _ ⟨hHeld, (by refine vR ?_; exact Kd.R_mono HO248.out (fun _ hk => ⟨hk.2, hk.1.2⟩)), (by refine vR ?_; exact Kd.R_mono HO251.out (fun _ hk => ⟨hk.1.2, hk.2⟩)), (kB BK244.out), bB⟩)
     ·skip
      refine Kd.R_lit_step k57 _ 57 ?hg (N := 34) ?hd (xs := ([(⟨IntKind.u64.wrap (a1_0 + t245), a1_1⟩ : S57)] : List (S57))) (inner := [.int .u64 (IntKind.u64.wrap (a1_0 + t245)), .int .u64 a1_1]) (ok := fun _ => True) (okp := fun _ => True) ?hr ?hp (fun _ hk => hk) trivial (Below.refl _ _) (Nat.le_refl _) (by simp) ?_; (case hd => rfl); (case hg => rfl); (case hr => first | (go_simp; done) | (go_simp; rfl)); (case hp => exact (Reps.c2 (show Kd.M k57 _ _ _ (⟨IntKind.u64.wrap (a1_0 + t245), a1_1⟩ : S57) [.int .u64 (IntKind.u64.wrap (a1_0 + t245)), .int .u64 a1_1] from (k57_mkM _ _ _ (⟨IntKind.u64.wrap (a1_0 + t245), a1_1⟩ : S57) )) (Reps.none _ _)))
      intro v250 w14 ho15 hb hg_ hnew_
      clear hg_ hnew_
      (first | rw [← Ny249.out] at ho15 | (simp only [Int.reduceToNat] at ho15; rw [← Ny249.out] at ho15))
      have HO251 := zM (Kd.R_lower (Kd.R_newB ho15 (g := gb244) (o := .cells #[.int .u64 a1_0, .int .u64 a1_1] 57 (0, 0)) (kB BK244.out)) (below_size bB))
      replace BK244 := zM (bK BK244 hb)
      replace HB := zM (below_step bB hb)
      clear hb ho15
      refine hK.out _ _ (h2 BK244) (fun hHeld => ?_)
      clear hK K
      refine nS ?_
      refine one_ (i := 5) (N := some 29) #[tt,tt,tt,tt,tt,tt,tt,tt,tt,tt,tt,ff,ff] rfl rfl (one_of HT_.out (by kernel_rfl)) (by decide) (fun K hK => ?_)
      refine goes_ Tryd.func101 (by kernel_rfl) rfl #[.int .u64 a0, .agg #[.int .u64 a1_0, .int .u64 (IntKind.u64.wrap (a1_0 + t245))]] (by rfl) rfl rfl aV ?_
      with_reducible refine (ih k (by omega) a0 a1_0 (IntKind.u64.wrap (a1_0 + t245)) t246 _ A8.out).mono ?_
      rintro e w16 ⟨v247, rfl, ho0, hb⟩
      refine ⟨_, rfl, ?_⟩
      have HO248 := zM (Kd.R_lower (Kd.R_newB (Kd.R_new' ho0 (Kd.R_lt (kR HO251.out))) (g := gb244) (o := .cells #[.int .u64 a1_0, .int .u64 a1_1] 57 (0, 0)) (kB BK244.out)) (below_size bB))
      replace HO251 := zM (Kd.R_elder' (kR HO251.out) (Kd.R_base ho0) hb)
      replace BK244 := zM (bK BK244 hb)
      replace HB := zM (below_step bB hb)
      refine hK.out _ _ (h2 BK244) (fun hHeld => ?_)
      clear hK K
      refine nS ?_
      exact norm_ (by simp only [putAll, Act.put, List.setIfInBounds_toArray, List.set_cons_zero, List.set_cons_succ]) (hCont (v247, v250) _ ⟨hHeld, (by refine vR ?_; exact Kd.R_mono HO248.out (fun _ hk => ⟨hk.1.2, hk.2⟩)), (by refine vR ?_; exact Kd.R_mono HO251.out (fun _ hk => ⟨hk.2, hk.1.2⟩)), (kB BK244.out), bB⟩)
    rintro ⟨v247, v250⟩ w17 ⟨hS_, h0_, h1_, h2_, h3_⟩
    have n0_ : Aside0 (Kd.R k57 57 w17 w.heap.size (fun k_ => some k_ ≠ (v250 : Value).ownBlock ∧ k_ ≠ gb244) v247 t246) := ⟨h0_⟩
    have n1_ : Aside0 (Kd.R k57 57 w17 w.heap.size (fun k_ => some k_ ≠ (v247 : Value).ownBlock ∧ k_ ≠ gb244) v250 y249) := ⟨h1_⟩
    have n2_ : Aside0 (w17.heap[gb244]? = some (.cells #[.int .u64 a1_0, .int .u64 a1_1] 57 (0, 0))) := ⟨h2_⟩
    have n3_ : Aside0 (Below w.heap.size w w17) := ⟨h3_⟩
    clear BK244
    clear HB
    clear h0_ h1_ h2_ h3_
    have HO248 := n0_
    have HO251 := n1_
    have BK244 := n2_
    have HB := n3_
    clear n0_ n1_ n2_ n3_
    have hHeld : C2 w17 gb244 (.int .u64 a1_0) (.int .u64 a1_1) := hS_
    obtain ⟨Ao19, co19, eo19⟩ := Kd.R_slice HO251.out
    (first | subst eo19 | (injection eo19 with f1_ f2_ f3_; have f4_ := f1_.symm; have f5_ := f3_.symm; clear f1_ f2_ f3_; subst f4_; subst f5_))
    refine nB ?_
    refine one_ (i := 11) (N := some 35) #[tt,tt,tt,tt,tt,tt,tt,tt,tt,tt,tt,tt,ff] rfl rfl (one_of HT_.out (by kernel_rfl)) (by decide) (fun K hK => ?_)
    refine Kd.R_append_rows_step k57 (w0 := w) w.heap.size (by rfl) (.tmp 29) (.tmp 34) 93 57 (.agg #[(.int .u64 0), (.int .u64 0)]) 16 rfl Tryd.underlying93 info57 rfl (by decide) (by omega) v247 t246 y249 _ _ _ (fun k_ => some k_ ≠ (.slice Ao19 y249.length co19 : Value).ownBlock ∧ k_ ≠ gb244) (fun _ => False) rfl rfl ?aO ?aR (fun _ _ h => h) (fun _ h => h.elim) ?aF ?aB ?aS ?aL ?_
    (case aR => repeat (first | exact (Kd.R_reads' HO251.out).2.2 | (with_reducible refine Kd.C_alloc ?_ _) | (with_reducible refine Kd.C_drewN ?_ _) | (with_reducible refine Kd.C_drew ?_)))
    (case aB => exact bB)
    (case aF => exact (fun k_ hk => ⟨Kd.fresh' (Kd.R_lt (kR HO251.out)) k_ hk, Kd.freshB (g := gb244) (o := .cells #[.int .u64 a1_0, .int .u64 a1_1] 57 (0, 0)) (kB BK244.out) k_ hk⟩))
    (case aO => exact (kR HO248.out))
    (case aS => exact (below_size bB))
    (case aL => have := LMc9.out; omega)
    intro v253 w18 ho hb hg hat
    rw [← Ny252.out] at ho
    replace BK244 := zM (blk_grown (g := gb244) (o := .cells #[.int .u64 a1_0, .int .u64 a1_1] 57 (0, 0)) (kB BK244.out) hg (Kd.R_away HO248.out (fun _ hk => hk.2)))
    replace HO251 := zM (Kd.R_after (ok := (fun k_ => k_ ≠ gb244)) (by refine vR ?_; exact Kd.R_mono HO251.out (fun _ hk => ⟨hk.2, hk.1⟩)) hg hat)
    replace HB := zM (hb)
    have HO254 := zM (ho)
    clear HO248
    clear ho hb hg hat
    refine hK.out _ _ (h2 BK244) (fun hHeld => ?_)
    clear hK K
    refine nS ?_
    refine pA 12 (some 4) #[tt,tt,tt,tt,tt,tt,tt,tt,tt,tt,tt,tt,tt] HT_ ?_
    refine done_ (done_of HT_.out (by kernel_rfl)) ?_
    try go_wp2
    go_ret
    exact ⟨_, by first | rfl | (simp [errW_none, errW_some] <;> rfl) | (simp [*, errW_none, errW_some] <;> rfl), by refine vR ?_; exact Kd.R_mono HO254.out (fun _ hk => trivial), bB⟩
   ·rw [if_neg c9] at H
    exact absurd H (by simp)
  ·rw [if_neg c7] at H
   have c7b0 : decide (a0 < (IntKind.u64.wrap (a1_0 + t245))) = false := decide_eq_false c7
   clear c7
   replace H := Option.bind_eq_some_iff.mp H
   obtain ⟨t255, A200, H⟩ := H
   (try dsimp only at H)
   have A20 := zM A200
   clear A200
   obtain ⟨y258, hy258⟩ : ∃ y_ : List (S57), y_ = (([(⟨a1_0, IntKind.u64.wrap (a1_0 + t245)⟩ : S57)] : List (S57))) := ⟨_, rfl⟩
   replace H : (if t255.length + y258.length < 8796093022208 then (some (t255 ++ y258)) else (none)) = some r := by first | (rw [hy258]; with_reducible exact H) | (have H := (Option.bind_some _ _).symm.trans H; first | (rw [hy258]; with_reducible exact H) | with_reducible exact H) | (rw [hy258]; exact H) | exact H
   have Ny258 := zM hy258
   clear hy258
   by_cases c21 : t255.length + y258.length < 8796093022208
   ·rw [if_pos c21] at H
    have LMc21 := zM c21
    clear c21
    obtain ⟨y261, hy261⟩ : ∃ y_ : List (S57), y_ = (t255 ++ y258) := ⟨_, rfl⟩
    replace H : (some y261) = some r := by first | (rw [hy261]; with_reducible exact H) | (have H := (Option.bind_some _ _).symm.trans H; first | (rw [hy261]; with_reducible exact H) | with_reducible exact H) | (rw [hy261]; exact H) | exact H
    have Ny261 := zM hy261
    clear hy261
    obtain rfl := Option.some.inj H
    go_enter Tryd.func101, Tryd.ntmps101
    try go_wp2_with (first | ((with_reducible refine gate_dst (N := 3) rfl ?_); refine bx 3 #[.int .u64 a1_0, .int .u64 a1_1] 57 ?_; intro gb244 hg w22 hbox hb; have BK244 := zM (hbox); have GW244 := zM ((gB hg : w.heap.size ≤ gb244)); have GE244 := zM ((gB hg : w.heap.size ≤ gb244)); replace HB := zM (below_step bB hb); clear hb hbox hg; obtain ⟨hcz23_0, hcz23_1⟩ := h2 BK244; obtain ⟨hfz23_0, hfz23_1⟩ := f2 BK244))
    replace BK244 := zM (blk_drew BK244.out)
    replace HB := zM (below_drew1 HB.out)
    refine start_ (n := 10) (S := fun w' => C2 w' gb244 (.int .u64 a1_0) (.int .u64 a1_1)) (ds := []) #[ff,ff,ff,ff,ff,ff,ff,ff,ff,ff] (by kernel_rfl) rfl rfl (h2 BK244) (fun hHeld => ?_); refine with_tabW spec_pathIn.tab3 spec_pathIn.bits3 (fun HT_ HW_ => ?_)
    generalize w22.drew = w24 at BK244 HB hHeld ⊢
    refine pA 0 (some 12) #[tt,ff,ff,ff,ff,ff,ff,ff,ff,ff] HT_ ?_
    refine pA 2 (some 14) #[tt,ff,tt,ff,ff,ff,ff,ff,ff,ff] HT_ ?_
    refine pA 4 (some 16) #[tt,ff,tt,ff,tt,ff,ff,ff,ff,ff] HT_ ?_
    refine tA 1 (some 13) #[tt,tt,tt,ff,tt,ff,ff,ff,ff,ff] rfl rfl HT_ HW_ hHeld (by rintro w' ⟨s0, s1⟩; go_simp; with_reducible rfl) ?_
    refine tA 3 (some 15) #[tt,tt,tt,tt,tt,ff,ff,ff,ff,ff] rfl rfl HT_ HW_ hHeld (by rintro w' ⟨s0, s1⟩; go_simp; with_reducible rfl) ?_
    refine tA 5 (some 17) #[tt,tt,tt,tt,tt,tt,ff,ff,ff,ff] rfl rfl HT_ HW_ hHeld (by rintro w' ⟨s0, s1⟩; go_simp; with_reducible rfl) ?_
    refine pA 6 (some 18) #[tt,tt,tt,tt,tt,tt,tt,ff,ff,ff] HT_ ?_
    refine one_ (i := 7) (N := some 19) #[tt,tt,tt,tt,tt,tt,tt,tt,ff,ff] rfl rfl (one_of HT_.out (by kernel_rfl)) (by decide) (fun K hK => ?_)
    refine goes_ Tryd.func99 (by kernel_rfl) rfl #[.int .u64 (IntKind.u64.wrap (a1_1 - a1_0))] (by rfl) rfl rfl aV ?_
    with_reducible refine (spec_split.calls k (IntKind.u64.wrap (a1_1 - a1_0)) t245 _ A6.out).mono ?_
    rintro e w' ⟨rfl, ⟨nd, rfl⟩⟩
    refine ⟨_, rfl, ?_⟩
    refine hK.out _ _ (h2 BK244) (fun hHeld => ?_)
    clear hK K
    refine nS ?_
    refine pA 8 (some 20) #[tt,tt,tt,tt,tt,tt,tt,tt,tt,ff] HT_ ?_
    refine pA 9 (some 5) #[tt,tt,tt,tt,tt,tt,tt,tt,tt,tt] HT_ ?_
    refine done_ (done_of HT_.out (by kernel_rfl)) ?_
    try go_wp2
    (try (rw [drewN_self w24]; generalize hq_ : World.drewN w24 _ = w24; have n0_ : Aside0 (w24.heap[gb244]? = some (.cells #[.int .u64 a1_0, .int .u64 a1_1] 57 (0, 0))) := ⟨by rw [← hq_]; exact (kB BK244.out)⟩; have n1_ : Aside0 (Below w.heap.size w w24) := ⟨by rw [← hq_]; exact bB⟩; clear BK244 HB hq_; have BK244 := n0_; have HB := n1_; clear n0_ n1_))
    replace BK244 := zM (blk_drew BK244.out)
    replace HB := zM (below_drew1 HB.out)
    refine start_ (n := 13) (S := fun w' => C2 w' gb244 (.int .u64 a1_0) (.int .u64 a1_1)) (ds := []) #[ff,ff,ff,ff,ff,ff,ff,ff,ff,ff,ff,ff,ff] (by kernel_rfl) rfl rfl (h2 BK244) (fun hHeld => ?_); refine with_tabW spec_pathIn.tab6 spec_pathIn.bits6 (fun HT_ HW_ => ?_)
    generalize w24.drew = w25 at BK244 HB hHeld ⊢
    refine pA 0 (some 36) #[tt,ff,ff,ff,ff,ff,ff,ff,ff,ff,ff,ff,ff] HT_ ?_
    refine pA 1 (some 37) #[tt,tt,ff,ff,ff,ff,ff,ff,ff,ff,ff,ff,ff] HT_ ?_
    refine pA 2 (some 38) #[tt,tt,tt,ff,ff,ff,ff,ff,ff,ff,ff,ff,ff] HT_ ?_
    refine pA 6 (some 42) #[tt,tt,tt,ff,ff,ff,tt,ff,ff,ff,ff,ff,ff] HT_ ?_
    refine pA 8 (some 44) #[tt,tt,tt,ff,ff,ff,tt,ff,tt,ff,ff,ff,ff] HT_ ?_
    refine tA 3 (some 39) #[tt,tt,tt,tt,ff,ff,tt,ff,tt,ff,ff,ff,ff] rfl rfl HT_ HW_ hHeld (by rintro w' ⟨s0, s1⟩; go_simp; with_reducible rfl) ?_
    refine pA 4 (some 40) #[tt,tt,tt,tt,tt,ff,tt,ff,tt,ff,ff,ff,ff] HT_ ?_
    refine tA 7 (some 43) #[tt,tt,tt,tt,tt,ff,tt,tt,tt,ff,ff,ff,ff] rfl rfl HT_ HW_ hHeld (by rintro w' ⟨s0, s1⟩; go_simp; with_reducible rfl) ?_
    refine pA 9 (some 45) #[tt,tt,tt,tt,tt,ff,tt,tt,tt,tt,ff,ff,ff] HT_ ?_
    refine join_ (σ := Value × Value) 2 #[tt,tt,tt,tt,tt,tt,tt,tt,tt,tt,tt,ff,ff] (fun s_ => [(41, s_.1), (46, s_.2)]) (fun s_ w' => (C2 w' gb244 (.int .u64 a1_0) (.int .u64 a1_1)) ∧ (Kd.R k57 57 w' w.heap.size (fun k_ => some k_ ≠ (s_.2 : Value).ownBlock ∧ k_ ≠ gb244) s_.1 t255) ∧ (Kd.R k57 57 w' w.heap.size (fun k_ => some k_ ≠ (s_.1 : Value).ownBlock ∧ k_ ≠ gb244) s_.2 y258) ∧ (w'.heap[gb244]? = some (.cells #[.int .u64 a1_0, .int .u64 a1_1] 57 (0, 0))) ∧ (Below w.heap.size w w')) ?_ ?_
    rotate_left
    ·intro hCont
     refine two_ (i := 5) (j := 10) (Ni := some 41) (Nj := some 46) #[tt,tt,tt,tt,tt,tt,tt,tt,tt,tt,ff,ff,ff] #[tt,tt,tt,tt,tt,ff,tt,tt,tt,tt,tt,ff,ff] rfl rfl rfl rfl (two_of HT_.out (by kernel_rfl)) (by decide) (by decide) (fun K hK => ?_) (fun K hK => ?_)
     ·skip
      refine goes_ Tryd.func101 (by kernel_rfl) rfl #[.int .u64 a0, .agg #[.int .u64 (IntKind.u64.wrap (a1_0 + t245)), .int .u64 a1_1]] (by rfl) rfl rfl aV ?_
      with_reducible refine (ih k (by omega) a0 (IntKind.u64.wrap (a1_0 + t245)) a1_1 t255 _ A20.out).mono ?_
      rintro e w26 ⟨v256, rfl, ho0, hb⟩
      refine ⟨_, rfl, ?_⟩
      have HO257 := zM (Kd.R_lower (Kd.R_newB ho0 (g := gb244) (o := .cells #[.int .u64 a1_0, .int .u64 a1_1] 57 (0, 0)) (kB BK244.out)) (below_size bB))
      replace BK244 := zM (bK BK244 hb)
      replace HB := zM (below_step bB hb)
      refine hK.out _ _ (h2 BK244) (fun hHeld => ?_)
      clear hK K
      refine nS ?_
      refine one_ (i := 10) (N := some 46) #[tt,tt,tt,tt,tt,tt,tt,tt,tt,tt,tt,ff,ff] rfl rfl (one_of HT_.out (by kernel_rfl)) (by decide) (fun K hK => ?_)
      refine Kd.R_lit_step k57 _ 57 ?hg (N := 46) ?hd (xs := ([(⟨a1_0, IntKind.u64.wrap (a1_0 + t245)⟩ : S57)] : List (S57))) (inner := [.int .u64 a1_0, .int .u64 (IntKind.u64.wrap (a1_0 + t245))]) (ok := fun _ => True) (okp := fun _ => True) ?hr ?hp (fun _ hk => hk) trivial (Below.refl _ _) (Nat.le_refl _) (by simp) ?_; (case hd => rfl); (case hg => rfl); (case hr => first | (go_simp; done) | (go_simp; rfl)); (case hp => exact (Reps.c2 (show Kd.M k57 _ _ _ (⟨a1_0, IntKind.u64.wrap (a1_0 + t245)⟩ : S57) [.int .u64 a1_0, .int .u64 (IntKind.u64.wrap (a1_0 + t245))] from (k57_mkM _ _ _ (⟨a1_0, IntKind.u64.wrap (a1_0 + t245)⟩ : S57) )) (Reps.none _ _)))
      intro v259 w27 ho28 hb hg_ hnew_
      clear hg_ hnew_
      (first | rw [← Ny258.out] at ho28 | (simp only [Int.reduceToNat] at ho28; rw [← Ny258.out] at ho28))
      have HO260 := zM (Kd.R_lower (Kd.R_newB (Kd.R_new' ho28 (Kd.R_lt (kR HO257.out))) (g := gb244) (o := .cells #[.int .u64 a1_0, .int .u64 a1_1] 57 (0, 0)) (kB BK244.out)) (below_size bB))
      replace HO257 := zM (Kd.R_elder' (kR HO257.out) (Kd.R_base ho28) hb)
      replace BK244 := zM (bK BK244 hb)
      replace HB := zM (below_step bB hb)
      clear hb ho28
      refine hK.out _ _ (h2 BK244) (fun hHeld => ?_)
      clear hK K
      refine nS ?_
      exact norm_ (by simp only [putAll, Act.put, List.setIfInBounds_toArray, List.set_cons_zero, List.set_cons_succ]) (hCont (v256, v259) _ ⟨hHeld, (by refine vR ?_; exact Kd.R_mono HO257.out (fun _ hk => ⟨hk.2, hk.1.2⟩)), (by refine vR ?_; exact Kd.R_mono HO260.out (fun _ hk => ⟨hk.1.2, hk.2⟩)), (kB BK244.out), bB⟩)
     ·skip
      refine Kd.R_lit_step k57 _ 57 ?hg (N := 46) ?hd (xs := ([(⟨a1_0, IntKind.u64.wrap (a1_0 + t245)⟩ : S57)] : List (S57))) (inner := [.int .u64 a1_0, .int .u64 (IntKind.u64.wrap (a1_0 + t245))]) (ok := fun _ => True) (okp := fun _ => True) ?hr ?hp (fun _ hk => hk) trivial (Below.refl _ _) (Nat.le_refl _) (by simp) ?_; (case hd => rfl); (case hg => rfl); (case hr => first | (go_simp; done) | (go_simp; rfl)); (case hp => exact (Reps.c2 (show Kd.M k57 _ _ _ (⟨a1_0, IntKind.u64.wrap (a1_0 + t245)⟩ : S57) [.int .u64 a1_0, .int .u64 (IntKind.u64.wrap (a1_0 + t245))] from (k57_mkM _ _ _ (⟨a1_0, IntKind.u64.wrap (a1_0 + t245)⟩ : S57) )) (Reps.none _ _)))
      intro v259 w26 ho27 hb hg_ hnew_
      clear hg_ hnew_
      (first | rw [← Ny258.out] at ho27 | (simp only [Int.reduceToNat] at ho27; rw [← Ny258.out] at ho27))
      have HO260 := zM (Kd.R_lower (Kd.R_newB ho27 (g := gb244) (o := .cells #[.int .u64 a1_0, .int .u64 a1_1] 57 (0, 0)) (kB BK244.out)) (below_size bB))
      replace BK244 := zM (bK BK244 hb)
      replace HB := zM (below_step bB hb)
      clear hb ho27
      refine hK.out _ _ (h2 BK244) (fun hHeld => ?_)
      clear hK K
      refine nS ?_
      refine one_ (i := 5) (N := some 41) #[tt,tt,tt,tt,tt,tt,tt,tt,tt,tt,tt,ff,ff] rfl rfl (one_of HT_.out (by kernel_rfl)) (by decide) (fun K hK => ?_)
      refine goes_ Tryd.func101 (by kernel_rfl) rfl #[.int .u64 a0, .agg #[.int .u64 (IntKind.u64.wrap (a1_0 + t245)), .int .u64 a1_1]] (by rfl) rfl rfl aV ?_
      with_reducible refine (ih k (by omega) a0 (IntKind.u64.wrap (a1_0 + t245)) a1_1 t255 _ A20.out).mono ?_
      rintro e w28 ⟨v256, rfl, ho0, hb⟩
      refine ⟨_, rfl, ?_⟩
      have HO257 := zM (Kd.R_lower (Kd.R_newB (Kd.R_new' ho0 (Kd.R_lt (kR HO260.out))) (g := gb244) (o := .cells #[.int .u64 a1_0, .int .u64 a1_1] 57 (0, 0)) (kB BK244.out)) (below_size bB))
      replace HO260 := zM (Kd.R_elder' (kR HO260.out) (Kd.R_base ho0) hb)
      replace BK244 := zM (bK BK244 hb)
      replace HB := zM (below_step bB hb)
      refine hK.out _ _ (h2 BK244) (fun hHeld => ?_)
      clear hK K
      refine nS ?_
      exact norm_ (by simp only [putAll, Act.put, List.setIfInBounds_toArray, List.set_cons_zero, List.set_cons_succ]) (hCont (v256, v259) _ ⟨hHeld, (by refine vR ?_; exact Kd.R_mono HO257.out (fun _ hk => ⟨hk.1.2, hk.2⟩)), (by refine vR ?_; exact Kd.R_mono HO260.out (fun _ hk => ⟨hk.2, hk.1.2⟩)), (kB BK244.out), bB⟩)
    rintro ⟨v256, v259⟩ w29 ⟨hS_, h0_, h1_, h2_, h3_⟩
    have n0_ : Aside0 (Kd.R k57 57 w29 w.heap.size (fun k_ => some k_ ≠ (v259 : Value).ownBlock ∧ k_ ≠ gb244) v256 t255) := ⟨h0_⟩
    have n1_ : Aside0 (Kd.R k57 57 w29 w.heap.size (fun k_ => some k_ ≠ (v256 : Value).ownBlock ∧ k_ ≠ gb244) v259 y258) := ⟨h1_⟩
    have n2_ : Aside0 (w29.heap[gb244]? = some (.cells #[.int .u64 a1_0, .int .u64 a1_1] 57 (0, 0))) := ⟨h2_⟩
    have n3_ : Aside0 (Below w.heap.size w w29) := ⟨h3_⟩
    clear BK244
    clear HB
    clear h0_ h1_ h2_ h3_
    have HO257 := n0_
    have HO260 := n1_
    have BK244 := n2_
    have HB := n3_
    clear n0_ n1_ n2_ n3_
    have hHeld : C2 w29 gb244 (.int .u64 a1_0) (.int .u64 a1_1) := hS_
    obtain ⟨Ao31, co31, eo31⟩ := Kd.R_slice HO260.out
    (first | subst eo31 | (injection eo31 with f1_ f2_ f3_; have f4_ := f1_.symm; have f5_ := f3_.symm; clear f1_ f2_ f3_; subst f4_; subst f5_))
    refine nB ?_
    refine one_ (i := 11) (N := some 47) #[tt,tt,tt,tt,tt,tt,tt,tt,tt,tt,tt,tt,ff] rfl rfl (one_of HT_.out (by kernel_rfl)) (by decide) (fun K hK => ?_)
    refine Kd.R_append_rows_step k57 (w0 := w) w.heap.size (by rfl) (.tmp 41) (.tmp 46) 93 57 (.agg #[(.int .u64 0), (.int .u64 0)]) 16 rfl Tryd.underlying93 info57 rfl (by decide) (by omega) v256 t255 y258 _ _ _ (fun k_ => some k_ ≠ (.slice Ao31 y258.length co31 : Value).ownBlock ∧ k_ ≠ gb244) (fun _ => False) rfl rfl ?aO ?aR (fun _ _ h => h) (fun _ h => h.elim) ?aF ?aB ?aS ?aL ?_
    (case aR => repeat (first | exact (Kd.R_reads' HO260.out).2.2 | (with_reducible refine Kd.C_alloc ?_ _) | (with_reducible refine Kd.C_drewN ?_ _) | (with_reducible refine Kd.C_drew ?_)))
    (case aB => exact bB)
    (case aF => exact (fun k_ hk => ⟨Kd.fresh' (Kd.R_lt (kR HO260.out)) k_ hk, Kd.freshB (g := gb244) (o := .cells #[.int .u64 a1_0, .int .u64 a1_1] 57 (0, 0)) (kB BK244.out) k_ hk⟩))
    (case aO => exact (kR HO257.out))
    (case aS => exact (below_size bB))
    (case aL => have := LMc21.out; omega)
    intro v262 w30 ho hb hg hat
    rw [← Ny261.out] at ho
    replace BK244 := zM (blk_grown (g := gb244) (o := .cells #[.int .u64 a1_0, .int .u64 a1_1] 57 (0, 0)) (kB BK244.out) hg (Kd.R_away HO257.out (fun _ hk => hk.2)))
    replace HO260 := zM (Kd.R_after (ok := (fun k_ => k_ ≠ gb244)) (by refine vR ?_; exact Kd.R_mono HO260.out (fun _ hk => ⟨hk.2, hk.1⟩)) hg hat)
    replace HB := zM (hb)
    have HO263 := zM (ho)
    clear HO257
    clear ho hb hg hat
    refine hK.out _ _ (h2 BK244) (fun hHeld => ?_)
    clear hK K
    refine nS ?_
    refine pA 12 (some 4) #[tt,tt,tt,tt,tt,tt,tt,tt,tt,tt,tt,tt,tt] HT_ ?_
    refine done_ (done_of HT_.out (by kernel_rfl)) ?_
    try go_wp2
    go_ret
    exact ⟨_, by first | rfl | (simp [errW_none, errW_some] <;> rfl) | (simp [*, errW_none, errW_some] <;> rfl), by refine vR ?_; exact Kd.R_mono HO263.out (fun _ hk => trivial), bB⟩
   ·rw [if_neg c21] at H
    exact absurd H (by simp)
def compact_Decompose.f (a0 : Int) (a1 : Int) : Option (Int × Int) := if a0 = 0 then (some (0, a1)) else ((bits_Len64.f (Go.bits .xor .u64 (IntKind.u64.wrap (a0 - 1)) a1)).bind fun t114 => (if 0 ≤ (IntKind.u64.wrap (wrap64 (t114 - 1))) then (some (Go.bits .and .u64 (Go.bits .xor .u64 18446744073709551615 (IntKind.u64.wrap (a0 - 1))) (IntKind.u64.wrap ((shl .u64 1 (IntKind.u64.wrap (wrap64 (t114 - 1)))) - 1)), Go.bits .and .u64 a1 (IntKind.u64.wrap ((shl .u64 1 (IntKind.u64.wrap (wrap64 (t114 - 1)))) - 1)))) else (none)))
set_option maxHeartbeats 8000000 in
set_option maxRecDepth 100000 in
theorem compact_Decompose.calls (a0 : Int) (a1 : Int) (r1 : Int) (r2 : Int) (w : World) (h : compact_Decompose.f a0 a1 = some (r1, r2)) :
  Calls Tryd.prog 108 #[.int .u64 a0, .int .u64 a1] w fun e w' => e = .returned (.tuple #[.int .u64 r1, .int .u64 r2]) ∧ Drawn0 w w' := by
 have H : (if a0 = 0 then (some (0, a1)) else ((bits_Len64.f (Go.bits .xor .u64 (IntKind.u64.wrap (a0 - 1)) a1)).bind fun t114 => (if 0 ≤ (IntKind.u64.wrap (wrap64 (t114 - 1))) then (some (Go.bits .and .u64 (Go.bits .xor .u64 18446744073709551615 (IntKind.u64.wrap (a0 - 1))) (IntKind.u64.wrap ((shl .u64 1 (IntKind.u64.wrap (wrap64 (t114 - 1)))) - 1)), Go.bits .and .u64 a1 (IntKind.u64.wrap ((shl .u64 1 (IntKind.u64.wrap (wrap64 (t114 - 1)))) - 1)))) else (none)))) = some (r1, r2) := h
 clear h
 by_cases c3 : a0 = 0
 ·rw [if_pos c3] at H
  have c3b0 : (a0 == 0) = true := beq_iff_eq.mpr c3
  have c3b1 : (a0 != 0) = false := bne_eq_false_iff_eq.mpr c3
  clear c3
  simp only [Option.some.injEq, Prod.mk.injEq] at H
  obtain ⟨rfl, rfl⟩ := H
  go_enter Tryd.func108, Tryd.ntmps108
  go_wp2
  go_ret2
  exact ⟨by first | rfl | (simp; done) | (simp [*]; done), by repeat (first | exact Drawn0.refl _ | apply Drawn0.step)⟩
 ·rw [if_neg c3] at H
  have c3b0 : (a0 == 0) = false := beq_eq_false_iff_ne.mpr c3
  have c3b1 : (a0 != 0) = true := bne_iff_ne.mpr c3
  replace H := Option.bind_eq_some_iff.mp H
  obtain ⟨t114, A40, H⟩ := H
  (try dsimp only at H)
  have A4 := zM A40
  clear A40
  obtain ⟨ji5, hji5⟩ : ∃ j_ : Int, (IntKind.u64.wrap (wrap64 (t114 - 1))) = j_ := ⟨_, rfl⟩
  replace H : (if 0 ≤ (ji5) then (some (Go.bits .and .u64 (Go.bits .xor .u64 18446744073709551615 (IntKind.u64.wrap (a0 - 1))) (IntKind.u64.wrap ((shl .u64 1 (ji5)) - 1)), Go.bits .and .u64 a1 (IntKind.u64.wrap ((shl .u64 1 (ji5)) - 1)))) else (none)) = some (r1, r2) := by first | (rw [hji5] at H; exact H) | (simp only [hji5] at H ⊢; exact H)
  (try rw [hji5] at A4)
  by_cases c6 : 0 ≤ (ji5)
  ·rw [if_pos c6] at H
   have c6b0 := eq_true c6
   have c6b1 : decide (0 ≤ (ji5)) = true := decide_eq_true c6
   clear c6
   obtain ⟨ji7, hji7⟩ : ∃ j_ : Int, (shl .u64 1 (ji5)) = j_ := ⟨_, rfl⟩
   replace H : (some (Go.bits .and .u64 (Go.bits .xor .u64 18446744073709551615 (IntKind.u64.wrap (a0 - 1))) (IntKind.u64.wrap ((ji7) - 1)), Go.bits .and .u64 a1 (IntKind.u64.wrap ((ji7) - 1)))) = some (r1, r2) := by first | (rw [hji7] at H; exact H) | (simp only [hji7] at H ⊢; exact H)
   (try rw [hji7] at A4)
   have hji7_ : (IntKind.u64.wrap (1 * 2 ^ min (ji5).toNat 64)) = ji7 := hji7
   have hji7z : (ji5) ≤ 64 → (IntKind.u64.wrap (1 * 2 ^ (ji5).toNat)) = ji7 := shl_small hji7
   have hji7u : (IntKind.u64.wrap (2 ^ min (ji5).toNat 64)) = ji7 := by have h_ := hji7_; rw [Int.one_mul] at h_; exact h_
   have hji7v : (ji5) ≤ 64 → (IntKind.u64.wrap (2 ^ (ji5).toNat)) = ji7 := fun hle_ => by have h_ := hji7z hle_; rw [Int.one_mul] at h_; exact h_
   simp only [Option.some.injEq, Prod.mk.injEq] at H
   obtain ⟨rfl, rfl⟩ := H
   go_enter Tryd.func108, Tryd.ntmps108
   go_wp2_with (first | ((with_reducible refine gate_callee (f := 109) rfl ?_); refine goesL_ (some 17) rfl rfl Tryd.func109 (by kernel_rfl) rfl #[.int .u64 (Go.bits .xor .u64 (IntKind.u64.wrap (a0 - 1)) a1)] rfl aV ?_; (with_reducible refine (bits_Len64.calls (Go.bits .xor .u64 (IntKind.u64.wrap (a0 - 1)) a1) t114 _ A4.out).mono ?_); rintro e w' ⟨rfl, ⟨nd, rfl⟩⟩; refine ⟨_, rfl, ?_⟩))
   go_ret2
   exact ⟨by first | rfl | (simp; done) | (simp only [← hji5, ← hji7] <;> (first | rfl | simp)) | (simp [*]; done), by repeat (first | exact Drawn0.refl _ | apply Drawn0.step)⟩
  ·rw [if_neg c6] at H
   exact absurd H (by simp)
def compact_RangeSize.f (a0 : Int) (a1 : Int) : Option (Int) := (compact_Decompose.f a0 a1).bind fun bt115 => ((bits_OnesCount64.f bt115.1).bind fun t117 => ((bits_OnesCount64.f bt115.2).bind fun t118 => (some (wrap64 (t117 + t118)))))
set_option maxHeartbeats 8000000 in
set_option maxRecDepth 100000 in
theorem compact_RangeSize.calls (a0 : Int) (a1 : Int) (r : Int) (w : World) (h : compact_RangeSize.f a0 a1 = some r) :
  Calls Tryd.prog 91 #[.int .u64 a0, .int .u64 a1] w fun e w' => e = .returned (.int .i64 r) ∧ Drawn0 w w' := by
 have H : ((compact_Decompose.f a0 a1).bind fun bt115 => ((bits_OnesCount64.f bt115.1).bind fun t117 => ((bits_OnesCount64.f bt115.2).bind fun t118 => (some (wrap64 (t117 + t118)))))) = some r := h
 clear h
 replace H := Option.bind_eq_some_iff.mp H
 obtain ⟨⟨t115, t116⟩, A30, H⟩ := H
 (try dsimp only at H)
 have A3 := zM A30
 clear A30
 replace H := Option.bind_eq_some_iff.mp H
 obtain ⟨t117, A40, H⟩ := H
 (try dsimp only at H)
 have A4 := zM A40
 clear A40
 replace H := Option.bind_eq_some_iff.mp H
 obtain ⟨t118, A50, H⟩ := H
 (try dsimp only at H)
 have A5 := zM A50
 clear A50
 obtain rfl := Option.some.inj H
 go_enter Tryd.func91, Tryd.ntmps91
 go_wp2_with (first | ((with_reducible refine gate_callee (f := 108) rfl ?_); refine goesL_ (some 10) rfl rfl Tryd.func108 (by kernel_rfl) rfl #[.int .u64 a0, .int .u64 a1] rfl aV ?_; (with_reducible refine (compact_Decompose.calls a0 a1 t115 t116 _ A3.out).mono ?_); rintro e w' ⟨rfl, ⟨nd, rfl⟩⟩; refine ⟨_, rfl, ?_⟩) | ((with_reducible refine gate_callee (f := 112) rfl ?_); refine goesL_ (some 14) rfl rfl Tryd.func112 (by kernel_rfl) rfl #[.int .u64 t115] rfl aV ?_; (with_reducible refine (bits_OnesCount64.calls t115 t117 _ A4.out).mono ?_); rintro e w' ⟨rfl, ⟨nd, rfl⟩⟩; refine ⟨_, rfl, ?_⟩) | ((with_reducible refine gate_callee (f := 112) rfl ?_); refine goesL_ (some 16) rfl rfl Tryd.func112 (by kernel_rfl) rfl #[.int .u64 t116] rfl aV ?_; (with_reducible refine (bits_OnesCount64.calls t116 t118 _ A5.out).mono ?_); rintro e w' ⟨rfl, ⟨nd, rfl⟩⟩; refine ⟨_, rfl, ?_⟩))
 go_ret
 exact ⟨by first | rfl | (simp; done) | (simp [*]; done), by repeat (first | exact Drawn0.refl _ | apply Drawn0.step)⟩
def compact_NewNodeID.f (a0 : Int) (a1 : Int) : Option (Int × Int) := some (a0, a1)
set_option maxHeartbeats 8000000 in
set_option maxRecDepth 100000 in
theorem compact_NewNodeID.calls (a0 : Int) (a1 : Int) (r1 : Int) (r2 : Int) (w : World) (h : compact_NewNodeID.f a0 a1 = some (r1, r2)) :
  Calls Tryd.prog 92 #[.int .u64 a0, .int .u64 a1] w fun e w' => e = .returned (.agg #[.int .u64 r1, .int .u64 r2]) ∧ Below w.heap.size w w' := by
 have hu106 := Tryd.underlying106
 have HB := zM (Below.refl w.heap.size w)
 have H : (some (a0, a1)) = some (r1, r2) := h
 clear h
 simp only [Option.some.injEq, Prod.mk.injEq] at H
 obtain ⟨rfl, rfl⟩ := H
 go_enter Tryd.func92, Tryd.ntmps92
 go_wp2_with (first | ((with_reducible refine gate_dst (N := 4) rfl ?_); refine bx 4 #[.int .u64 0, .int .u64 0] 106 ?_; intro gb119 hg w3 hbox hb; have BK119 := zM (hbox); have GW119 := zM ((gB hg : w.heap.size ≤ gb119)); have GE119 := zM ((gB hg : w.heap.size ≤ gb119)); replace HB := zM (below_step bB hb); clear hb hbox hg; obtain ⟨hcz4_0, hcz4_1⟩ := h2 BK119; obtain ⟨hfz4_0, hfz4_1⟩ := f2 BK119))
 refine bodyPost_ret (results_cell_row rfl _ _ gb119 106 #[.int .u64 a0, .int .u64 a1] (0, 0) _ rfl (by refine kU ?_; refine blk_put (cs := #[.int .u64 a0, .int .u64 0]) ?_ 1 _ rfl; refine kU ?_; refine blk_put (cs := #[.int .u64 0, .int .u64 0]) ?_ 0 _ rfl; refine kU ?_; exact BK119.out) Tryd.underlying106 rfl (by kernel_rfl)) rfl ?_
 exact ⟨by first | rfl | (simp [errW_none, errW_some] <;> rfl) | (simp [*, errW_none, errW_some] <;> rfl), bB⟩
def compact_NodeID_Parent.f (a0_0 : Int) (a0_1 : Int) : Option (Int × Int) := (compact_NewNodeID.f (IntKind.u64.wrap (a0_0 + 1)) (a0_1 / 2)).bind fun bt292 => (some (bt292.1, bt292.2))
set_option maxHeartbeats 8000000 in
set_option maxRecDepth 100000 in
theorem compact_NodeID_Parent.calls (a0_0 : Int) (a0_1 : Int) (r1 : Int) (r2 : Int) (w : World) (h : compact_NodeID_Parent.f a0_0 a0_1 = some (r1, r2)) :
  Calls Tryd.prog 66 #[.agg #[.int .u64 a0_0, .int .u64 a0_1]] w fun e w' => e = .returned (.agg #[.int .u64 r1, .int .u64 r2]) ∧ Below w.heap.size w w' := by
 have hu106 := Tryd.underlying106
 have HB := zM (Below.refl w.heap.size w)
 have H : ((compact_NewNodeID.f (IntKind.u64.wrap (a0_0 + 1)) (a0_1 / 2)).bind fun bt292 => (some (bt292.1, bt292.2))) = some (r1, r2) := h
 clear h
 replace H := Option.bind_eq_some_iff.mp H
 obtain ⟨⟨t292, t293⟩, A20, H⟩ := H
 (try dsimp only at H)
 have A2 := zM A20
 clear A20
 simp only [Option.some.injEq, Prod.mk.injEq] at H
 obtain ⟨rfl, rfl⟩ := H
 go_enter Tryd.func66, Tryd.ntmps66
 go_wp2_with (first | ((with_reducible refine gate_dst (N := 1) rfl ?_); refine bx 1 #[.int .u64 a0_0, .int .u64 a0_1] 106 ?_; intro gb290 hg w3 hbox hb; have BK290 := zM (hbox); have GW290 := zM ((gB hg : w.heap.size ≤ gb290)); have GE290 := zM ((gB hg : w.heap.size ≤ gb290)); replace HB := zM (below_step bB hb); clear hb hbox hg) | ((with_reducible refine gate_dst (N := 2) rfl ?_); refine bx 2 #[.int .u64 0, .int .u64 0] 106 ?_; intro gb291 hg w4 hbox hb; have BK291 := zM (hbox); have GW291 := zM ((gB hg : w.heap.size ≤ gb291)); have GE291 := zM ((gB hg : w.heap.size ≤ gb291)); replace HB := zM (below_step bB hb); have NB290_291 := zM ((by rw [hg]; exact Nat.ne_of_lt (blk_lt (g := gb290) (o := .cells #[.int .u64 a0_0, .int .u64 a0_1] 106 (0, 0)) (kB BK290.out)) : gb290 ≠ gb291)); have NB291_290 := zM ((by rw [hg]; exact Nat.ne_of_gt (blk_lt (g := gb290) (o := .cells #[.int .u64 a0_0, .int .u64 a0_1] 106 (0, 0)) (kB BK290.out)) : gb291 ≠ gb290)); replace BK290 := zM (bK BK290 hb); clear hb hbox hg; have hnb5 := NB290_291.out; have hnc5 := NB291_290.out; obtain ⟨hcz6_0, hcz6_1⟩ := h2 BK290; obtain ⟨hfz6_0, hfz6_1⟩ := f2 BK290) | ((with_reducible refine gate_callee (f := 92) rfl ?_); refine goesL_ (some 9) rfl rfl Tryd.func92 (by kernel_rfl) rfl #[.int .u64 (IntKind.u64.wrap (a0_0 + 1)), .int .u64 (a0_1 / 2)] rfl aV ?_; (with_reducible refine (compact_NewNodeID.calls (IntKind.u64.wrap (a0_0 + 1)) (a0_1 / 2) t292 t293 _ A2.out).mono ?_); rintro e w7 ⟨rfl, hb⟩; refine ⟨_, rfl, ?_⟩; replace BK290 := zM (bK BK290 hb); replace BK291 := zM (bK BK291 hb); replace HB := zM (below_step bB hb); obtain ⟨hcz8_0, hcz8_1⟩ := h2 BK291; obtain ⟨hfz8_0, hfz8_1⟩ := f2 BK291))
 refine bodyPost_ret (results_cell_row rfl _ _ gb291 106 #[.int .u64 t292, .int .u64 t293] (0, 0) _ rfl (by refine kU ?_; refine blk_put (cs := #[.int .u64 t292, .int .u64 0]) ?_ 1 _ rfl; refine kU ?_; refine blk_put (cs := #[.int .u64 0, .int .u64 0]) ?_ 0 _ rfl; refine kU ?_; exact BK291.out) Tryd.underlying106 rfl (by kernel_rfl)) rfl ?_
 exact ⟨by first | rfl | (simp [errW_none, errW_some] <;> rfl) | (simp [*, errW_none, errW_some] <;> rfl), bB⟩
set_option maxHeartbeats 1000000 in
theorem bits_TrailingZeros64.core (x k idx : Nat) (w : World) (hx0 : ((x : Int) == 0) = false)
  (key : IntKind.u64.wrap (bits BinOp.and IntKind.u64 (x : Int) (IntKind.u64.wrap (-(x : Int))) * 285870213051353865) / 288230376151711744 = (idx : Int))
  (hi : idx < 64) (hk : k < 64) (hcell : w.cell? ⟨0, idx, none⟩ = some (.int .u8 k)) :
  Calls Tryd.prog 83 #[.int .u64 x] w fun e w' => e = .returned (.int .i64 k) ∧ w' = w := by
 go_enter Tryd.func83, Tryd.ntmps83
 go_wp2_with (simp only [key])
 go_ret
 exact ⟨rfl, rfl⟩
theorem bits_TrailingZeros64.zero (w : World) :
  Calls Tryd.prog 83 #[.int .u64 0] w fun e w' => e = .returned (.int .i64 64) ∧ w' = w := by
 go_enter Tryd.func83, Tryd.ntmps83
 go_wp2
 go_ret
 exact ⟨rfl, rfl⟩
theorem bits_TrailingZeros64.any (x : Nat) (hx : x < 18446744073709551616) (w : World) (hT : TabOK w) :
  Calls Tryd.prog 83 #[.int .u64 x] w fun e w' => e = .returned (.int .i64 (Lib.ctz 64 x)) ∧ w' = w := by
 by_cases hx0 : x = 0
 ·subst hx0
  exact bits_TrailingZeros64.zero w
 ·obtain ⟨hlow, hk⟩ := Lib.lowest_bit 64 x hx0 hx
  obtain ⟨hi, htab⟩ := Lib.deBruijn64_at _ hk
  have hcell := hT.tz _ hi
  rw [htab] at hcell
  exact bits_TrailingZeros64.core x _ _ w (by simp; omega) (tz64_key x _ hx hx0 hlow) hi hk hcell
def bits_TrailingZeros64.f (a0 : Int) : Option (Int) := if 0 ≤ a0 ∧ a0 ≤ 18446744073709551615 then some (Lib.ctz 64 a0.toNat : Int) else none
theorem bits_TrailingZeros64.calls (a0 : Int) (r : Int) (w : World) (hT : TabOK w) (h : bits_TrailingZeros64.f a0 = some r) :
  Calls Tryd.prog 83 #[.int .u64 a0] w fun e w' => e = .returned (.int .i64 r) ∧ Drawn0 w w' := by
 unfold bits_TrailingZeros64.f at h
 split at h
 ·rename_i hc
  injection h with h
  subst h
  obtain ⟨x, rfl⟩ : ∃ x : Nat, a0 = (x : Int) := ⟨a0.toNat, by omega⟩
  rw [Int.toNat_natCast]
  refine (bits_TrailingZeros64.any x (by omega) w hT).mono ?_
  rintro e w' ⟨rfl, rfl⟩
  exact ⟨rfl, Drawn0.refl _⟩
 ·cases h
mutual
def compact_RangeNodes.l0 : Nat → List (S106) → Int → Int → Int → Option ((List (S106)))
 | 0, _, _, _, _ => none
 | k + 1, x2, x7, x8, x9 => if x7 = 0 then (compact_RangeNodes.l1 k x2 x8 x9) else ((bits_TrailingZeros64.f x7).bind fun t296 => (if 0 ≤ (IntKind.u64.wrap (t296)) then ((compact_NewNodeID.f (IntKind.u64.wrap (t296)) (shr .u64 x9 (IntKind.u64.wrap (t296)))).bind fun bt297 => (if x2.length < 8796093022208 then (compact_RangeNodes.l0 k (x2 ++ [(⟨bt297.1, bt297.2⟩ : S106)]) (Go.bits .xor .u64 x7 (shl .u64 1 (IntKind.u64.wrap (t296)))) x8 (IntKind.u64.wrap (x9 + (shl .u64 1 (IntKind.u64.wrap (t296)))))) else (none))) else (none)))
def compact_RangeNodes.l1 : Nat → List (S106) → Int → Int → Option ((List (S106)))
 | 0, _, _, _ => none
 | k + 1, x2, x8, x9 => if x8 = 0 then (some x2) else ((bits_Len64.f x8).bind fun t302 => (if 0 ≤ (IntKind.u64.wrap ((IntKind.u64.wrap (t302)) - 1)) then ((compact_NewNodeID.f (IntKind.u64.wrap ((IntKind.u64.wrap (t302)) - 1)) (shr .u64 x9 (IntKind.u64.wrap ((IntKind.u64.wrap (t302)) - 1)))).bind fun bt303 => (if x2.length < 8796093022208 then (compact_RangeNodes.l1 k (x2 ++ [(⟨bt303.1, bt303.2⟩ : S106)]) (Go.bits .xor .u64 x8 (shl .u64 1 (IntKind.u64.wrap ((IntKind.u64.wrap (t302)) - 1)))) (IntKind.u64.wrap (x9 + (shl .u64 1 (IntKind.u64.wrap ((IntKind.u64.wrap (t302)) - 1)))))) else (none))) else (none)))
end
def compact_RangeNodes.f (k : Nat) (a0 : Int) (a1 : Int) (l2 : List (S106)) : Option ((List (S106))) := (compact_Decompose.f a0 a1).bind fun bt294 => (compact_RangeNodes.l0 k l2 bt294.1 bt294.2 a0)
set_option maxHeartbeats 8000000 in
set_option maxRecDepth 100000 in
theorem compact_RangeNodes.calls (k : Nat) (a0 : Int) (a1 : Int) (P2_ : Nat → Prop) (u9000_ : Value) (l2 : List (S106)) (r : List (S106)) (w0 w : World) (hT : TabOK w0) (hB : Below w0.heap.size w0 w) (ho2 : Kd.R k106 106 w w0.heap.size P2_ u9000_ l2) (h : compact_RangeNodes.f k a0 a1 l2 = some r) :
  Calls Tryd.prog 79 #[.int .u64 a0, .int .u64 a1, u9000_] w fun e w' => ∃ v0_ : Value, e = .returned (v0_) ∧ Kd.R k106 106 w' w0.heap.size (fun k_ => (P2_ k_ ∨ w.heap.size ≤ k_)) v0_ r ∧ Below w0.heap.size w0 w' ∧ Kept w w' (fun k_ => P2_ k_) := by
 have HT := zM hT
 clear hT
 have HO2 := zM (show Kd.R k106 106 w w0.heap.size (fun k_ => (P2_ k_ ∨ w.heap.size ≤ k_)) u9000_ l2 from Kd.R_mono ho2 (fun k_ hk => (.inl hk)))
 have HK := zM (Kept.refl w (fun k_ => P2_ k_))
 have HW0 := zM hB.size
 have HB := zM hB
 clear hB
 have H : ((compact_Decompose.f a0 a1).bind fun bt294 => (compact_RangeNodes.l0 k l2 bt294.1 bt294.2 a0)) = some r := h
 clear h
 replace H := Option.bind_eq_some_iff.mp H
 obtain ⟨⟨t294, t295⟩, A40, H⟩ := H
 (try dsimp only at H)
 have A4 := zM A40
 clear A40
 have H' := zM H
 clear H
 go_enter Tryd.func79, Tryd.ntmps79
 go_wp2_with (first | ((with_reducible refine gate_callee (f := 108) rfl ?_); refine goesL_ (some 17) rfl rfl Tryd.func108 (by kernel_rfl) rfl #[.int .u64 a0, .int .u64 a1] rfl aV ?_; (with_reducible refine (compact_Decompose.calls a0 a1 t294 t295 _ A4.out).mono ?_); rintro e w' ⟨rfl, ⟨nd, rfl⟩⟩; refine ⟨_, rfl, ?_⟩))
 go_loopg [2, 7, 9] k (fun kq v2 v7 v9 w' => ∃ (x2_1 : List (S106)) (x7_1 : Int) (x9_1 : Int), v7 = .int .u64 x7_1 ∧ v9 = .int .u64 x9_1 ∧ Aside0 (compact_RangeNodes.l0 kq x2_1 x7_1 t295 x9_1 = some r) ∧ Aside0 (kq ≤ k) ∧ Aside0 (Kd.R k106 106 w' w0.heap.size (fun k_ => (P2_ k_ ∨ w.heap.size ≤ k_)) v2 x2_1) ∧ Aside0 (Kept w w' (fun k_ => P2_ k_)) ∧ Aside0 (Below w0.heap.size w0 w'))
 case atStart => exact ⟨(l2), (t294), (a0), sR, sR, H', ⟨Nat.le_refl _⟩, ⟨kR HO2.out⟩, ⟨by repeat (first | (with_reducible first | exact HK.out | apply Kept.alloc | apply Kept.drewN | apply Kept.drew) | exact HK.out)⟩, ⟨bB⟩⟩
 case round =>
  clear H'
  try clear c1
  try clear p2
  obtain ⟨x2_1, x7_1, x9_1, rfl, rfl, HA, HK1, HO_2, HK, HB⟩ := hrel
  cases gk with
  | zero => exact absurd HA.out (by simp [compact_RangeNodes.l0])
  | succ k1 =>
   have H := HA.out
   clear HA
   simp only [compact_RangeNodes.l0] at H
   by_cases c5 : x7_1 = 0
   ·rw [if_pos c5] at H
    have c5b0 : (x7_1 == 0) = true := beq_iff_eq.mpr c5
    have c5b1 : (x7_1 != 0) = false := bne_eq_false_iff_eq.mpr c5
    clear c5
    have H' := zM H
    clear H
    go_wp2
    go_loopg [2, 8, 9] k1 (fun kq v2 v8 v9 w' => ∃ (x2_2 : List (S106)) (x8_2 : Int) (x9_2 : Int), v8 = .int .u64 x8_2 ∧ v9 = .int .u64 x9_2 ∧ Aside0 (compact_RangeNodes.l1 kq x2_2 x8_2 x9_2 = some r) ∧ Aside0 (kq ≤ k1) ∧ Aside0 (Kd.R k106 106 w' w0.heap.size (fun k_ => (P2_ k_ ∨ w.heap.size ≤ k_)) v2 x2_2) ∧ Aside0 (Kept w w' (fun k_ => P2_ k_)) ∧ Aside0 (Below w0.heap.size w0 w'))
    case atStart => exact ⟨(x2_1), (t295), (x9_1), sR, sR, H', ⟨Nat.le_refl _⟩, ⟨kR HO_2.out⟩, ⟨by repeat (first | (with_reducible first | exact HK.out | apply Kept.alloc | apply Kept.drewN | apply Kept.drew) | exact HK.out)⟩, ⟨bB⟩⟩
    case round =>
     clear H'
     try clear c1
     try clear p2
     try clear c5
     try clear c5b0
     try clear c5b1
     try clear p2
     obtain ⟨x2_2, x8_2, x9_2, rfl, rfl, HA, HK2, HO_2, HK, HB⟩ := hrel
     cases gk with
     | zero => exact absurd HA.out (by simp [compact_RangeNodes.l1])
     | succ k2 =>
      have H := HA.out
      clear HA
      simp only [compact_RangeNodes.l1] at H
      by_cases c6 : x8_2 = 0
      ·rw [if_pos c6] at H
       have c6b0 : (x8_2 == 0) = true := beq_iff_eq.mpr c6
       have c6b1 : (x8_2 != 0) = false := bne_eq_false_iff_eq.mpr c6
       clear c6
       obtain rfl := Option.some.inj H
       go_wp2
       go_ret
       exact ⟨_, by first | rfl | (simp [errW_none, errW_some] <;> rfl) | (simp [*, errW_none, errW_some] <;> rfl), by refine vR ?_; exact HO_2.out, by repeat (first | (with_reducible first | exact HB.out | apply below_alloc | apply pw_below_drewN | apply below_drew1) | exact HB.out), by repeat (first | (with_reducible first | exact HK.out | apply Kept.alloc | apply Kept.drewN | apply Kept.drew) | exact HK.out)⟩
      ·rw [if_neg c6] at H
       have c6b0 : (x8_2 == 0) = false := beq_eq_false_iff_ne.mpr c6
       have c6b1 : (x8_2 != 0) = true := bne_iff_ne.mpr c6
       replace H := Option.bind_eq_some_iff.mp H
       obtain ⟨t302, A70, H⟩ := H
       (try dsimp only at H)
       have A7 := zM A70
       clear A70
       obtain ⟨ji8, hji8⟩ : ∃ j_ : Int, (IntKind.u64.wrap ((IntKind.u64.wrap (t302)) - 1)) = j_ := ⟨_, rfl⟩
       replace H : (if 0 ≤ (ji8) then ((compact_NewNodeID.f (ji8) (shr .u64 x9_2 (ji8))).bind fun bt303 => (if x2_2.length < 8796093022208 then (compact_RangeNodes.l1 k2 (x2_2 ++ [(⟨bt303.1, bt303.2⟩ : S106)]) (Go.bits .xor .u64 x8_2 (shl .u64 1 (ji8))) (IntKind.u64.wrap (x9_2 + (shl .u64 1 (ji8))))) else (none))) else (none)) = some r := by first | (rw [hji8] at H; exact H) | (simp only [hji8] at H ⊢; exact H)
       (try rw [hji8] at A7)
       by_cases c9 : 0 ≤ (ji8)
       ·rw [if_pos c9] at H
        have c9b0 := eq_true c9
        have c9b1 : decide (0 ≤ (ji8)) = true := decide_eq_true c9
        clear c9
        obtain ⟨ji10, hji10⟩ : ∃ j_ : Int, (shl .u64 1 (ji8)) = j_ := ⟨_, rfl⟩
        replace H : ((compact_NewNodeID.f (ji8) (shr .u64 x9_2 (ji8))).bind fun bt303 => (if x2_2.length < 8796093022208 then (compact_RangeNodes.l1 k2 (x2_2 ++ [(⟨bt303.1, bt303.2⟩ : S106)]) (Go.bits .xor .u64 x8_2 (ji10)) (IntKind.u64.wrap (x9_2 + (ji10)))) else (none))) = some r := by first | (rw [hji10] at H; exact H) | (simp only [hji10] at H ⊢; exact H)
        (try rw [hji10] at A7)
        have hji10_ : (IntKind.u64.wrap (1 * 2 ^ min (ji8).toNat 64)) = ji10 := hji10
        have hji10z : (ji8) ≤ 64 → (IntKind.u64.wrap (1 * 2 ^ (ji8).toNat)) = ji10 := shl_small hji10
        have hji10u : (IntKind.u64.wrap (2 ^ min (ji8).toNat 64)) = ji10 := by have h_ := hji10_; rw [Int.one_mul] at h_; exact h_
        have hji10v : (ji8) ≤ 64 → (IntKind.u64.wrap (2 ^ (ji8).toNat)) = ji10 := fun hle_ => by have h_ := hji10z hle_; rw [Int.one_mul] at h_; exact h_
        have c11b0 := eq_true (dA : 0 ≤ (ji8))
        obtain ⟨ji12, hji12⟩ : ∃ j_ : Int, (shr .u64 x9_2 (ji8)) = j_ := ⟨_, rfl⟩
        replace H : ((compact_NewNodeID.f (ji8) (ji12)).bind fun bt303 => (if x2_2.length < 8796093022208 then (compact_RangeNodes.l1 k2 (x2_2 ++ [(⟨bt303.1, bt303.2⟩ : S106)]) (Go.bits .xor .u64 x8_2 (ji10)) (IntKind.u64.wrap (x9_2 + (ji10)))) else (none))) = some r := by first | (rw [hji12] at H; exact H) | (simp only [hji12] at H ⊢; exact H)
        (try rw [hji12] at A7)
        have hji12_ : (x9_2 / 2 ^ min (ji8).toNat 64) = ji12 := hji12
        have hji12z : (ji8) ≤ 64 → (x9_2 / 2 ^ (ji8).toNat) = ji12 := shr_small hji12
        replace H := Option.bind_eq_some_iff.mp H
        obtain ⟨⟨t303, t304⟩, A130, H⟩ := H
        (try dsimp only at H)
        have A13 := zM A130
        clear A130
        by_cases c14 : x2_2.length < 8796093022208
        ·rw [if_pos c14] at H
         have LMc14 := zM c14
         clear c14
         obtain ⟨y305, hy305⟩ : ∃ y_ : List (S106), y_ = (x2_2 ++ [(⟨t303, t304⟩ : S106)]) := ⟨_, rfl⟩
         replace H : (compact_RangeNodes.l1 k2 y305 (Go.bits .xor .u64 x8_2 (ji10)) (IntKind.u64.wrap (x9_2 + (ji10)))) = some r := by first | (rw [hy305]; with_reducible exact H) | (have H := (Option.bind_some _ _).symm.trans H; first | (rw [hy305]; with_reducible exact H) | with_reducible exact H) | (rw [hy305]; exact H) | exact H
         have Ny305 := zM hy305
         clear hy305
         have H' := zM H
         clear H
         go_wp2_with (first | ((with_reducible refine gate_callee (f := 109) rfl ?_); refine goesL_ (some 51) rfl rfl Tryd.func109 (by kernel_rfl) rfl #[.int .u64 x8_2] rfl aV ?_; (with_reducible refine (bits_Len64.calls x8_2 t302 _ A7.out).mono ?_); rintro e w' ⟨rfl, ⟨nd, rfl⟩⟩; refine ⟨_, rfl, ?_⟩) | ((with_reducible refine gate_callee (f := 92) rfl ?_); refine goesL_ (some 61) rfl rfl Tryd.func92 (by kernel_rfl) rfl #[.int .u64 ji8, .int .u64 ji12] rfl (by (try simp only [List.map_toArray, List.map_cons, List.map_nil]); first | done | (simp only [hji12, hji8]; rfl) | rfl | (simp only [List.length_drop, List.length_take]; rfl)) ?_; (with_reducible refine (compact_NewNodeID.calls ji8 ji12 t303 t304 _ A13.out).mono ?_); rintro e w15 ⟨rfl, hb⟩; refine ⟨_, rfl, ?_⟩; replace HO_2 := zM (Kd.R_below (kR HO_2.out) hb); replace HK := zM (Kept.below (S := (fun k_ => P2_ k_)) (by repeat (first | (with_reducible first | exact HK.out | apply Kept.alloc | apply Kept.drewN | apply Kept.drew) | exact HK.out)) hb); replace HB := zM (below_step bB hb)) | ((with_reducible refine gate_builtin (b := .append) (xs := #[.tmp 56, .tmp 62]) rfl ?_); at_builtin; refine Kd.R_append k106 (w0 := w0) w0.heap.size rfl (.tmp 56) (.tmp 62) 120 106 (.agg #[(.int .u64 0), (.int .u64 0)]) 16 rfl Tryd.underlying120 info106 rfl (by decide) (by omega) u2 x2_2 (⟨t303, t304⟩ : S106) [.int .u64 t303, .int .u64 t304] (fun k_ => (P2_ k_ ∨ w.heap.size ≤ k_)) (fun _ => False) rfl rfl ?aP (fun _ hk => hk.elim) ?aF ?aO ?aB ?aS ?aL ?_; (case aP => exact k106_mkM _ _ _ (⟨t303, t304⟩ : S106)); (case aB => exact bB); (case aF => exact (fun k_ hk => (.inr (Nat.le_trans (by first | exact HK.out.1 | exact (show Kept w _ (fun k_ => P2_ k_) from by repeat (first | (with_reducible first | exact HK.out | apply Kept.alloc | apply Kept.drewN | apply Kept.drew) | exact HK.out)).1) hk)))); (case aO => exact (kR HO_2.out)); (case aS => exact (below_size bB)); (case aL => have := LMc14.out; omega); intro v306 w16 ho hb hg hat; rw [← Ny305.out] at ho; replace HB := zM (hb); replace HK := zM (Kept.of_grown (S := (fun k_ => P2_ k_)) hg (by repeat (first | (with_reducible first | exact HK.out | apply Kept.alloc | apply Kept.drewN | apply Kept.drew) | exact HK.out)) (fun k_ e_ => (HO_2.out.1 k_ e_))); have HO307 := zM (ho); clear HO_2; clear ho hb hg hat))
         go_roundg k2
         case measure => have := HK1.out; have := HK2.out; omega
         case rel => exact ⟨(y305), (Go.bits .xor .u64 x8_2 (ji10)), (IntKind.u64.wrap (x9_2 + (ji10))), (by first | rfl | (simp; done) | (simp only [← hji10] <;> (first | rfl | simp)) | (simp [*]; done)), (by first | rfl | (simp; done) | (simp only [← hji10] <;> (first | rfl | simp)) | (simp [*]; done)), H', ⟨by have := HK1.out; have := HK2.out; omega⟩, ⟨kR HO307.out⟩, ⟨by repeat (first | (with_reducible first | exact HK.out | apply Kept.alloc | apply Kept.drewN | apply Kept.drew) | exact HK.out)⟩, ⟨bB⟩⟩
        ·rw [if_neg c14] at H
         exact absurd H (by simp)
       ·rw [if_neg c9] at H
        exact absurd H (by simp)
   ·rw [if_neg c5] at H
    have c5b0 : (x7_1 == 0) = false := beq_eq_false_iff_ne.mpr c5
    have c5b1 : (x7_1 != 0) = true := bne_iff_ne.mpr c5
    replace H := Option.bind_eq_some_iff.mp H
    obtain ⟨t296, A170, H⟩ := H
    (try dsimp only at H)
    have A17 := zM A170
    clear A170
    obtain ⟨ji18, hji18⟩ : ∃ j_ : Int, (IntKind.u64.wrap (t296)) = j_ := ⟨_, rfl⟩
    replace H : (if 0 ≤ (ji18) then ((compact_NewNodeID.f (ji18) (shr .u64 x9_1 (ji18))).bind fun bt297 => (if x2_1.length < 8796093022208 then (compact_RangeNodes.l0 k1 (x2_1 ++ [(⟨bt297.1, bt297.2⟩ : S106)]) (Go.bits .xor .u64 x7_1 (shl .u64 1 (ji18))) t295 (IntKind.u64.wrap (x9_1 + (shl .u64 1 (ji18))))) else (none))) else (none)) = some r := by first | (rw [hji18] at H; exact H) | (simp only [hji18] at H ⊢; exact H)
    (try rw [hji18] at A17)
    by_cases c19 : 0 ≤ (ji18)
    ·rw [if_pos c19] at H
     have c19b0 := eq_true c19
     have c19b1 : decide (0 ≤ (ji18)) = true := decide_eq_true c19
     clear c19
     obtain ⟨ji20, hji20⟩ : ∃ j_ : Int, (shl .u64 1 (ji18)) = j_ := ⟨_, rfl⟩
     replace H : ((compact_NewNodeID.f (ji18) (shr .u64 x9_1 (ji18))).bind fun bt297 => (if x2_1.length < 8796093022208 then (compact_RangeNodes.l0 k1 (x2_1 ++ [(⟨bt297.1, bt297.2⟩ : S106)]) (Go.bits .xor .u64 x7_1 (ji20)) t295 (IntKind.u64.wrap (x9_1 + (ji20)))) else (none))) = some r := by first | (rw [hji20] at H; exact H) | (simp only [hji20] at H ⊢; exact H)
     (try rw [hji20] at A17)
     have hji20_ : (IntKind.u64.wrap (1 * 2 ^ min (ji18).toNat 64)) = ji20 := hji20
     have hji20z : (ji18) ≤ 64 → (IntKind.u64.wrap (1 * 2 ^ (ji18).toNat)) = ji20 := shl_small hji20
     have hji20u : (IntKind.u64.wrap (2 ^ min (ji18).toNat 64)) = ji20 := by have h_ := hji20_; rw [Int.one_mul] at h_; exact h_
     have hji20v : (ji18) ≤ 64 → (IntKind.u64.wrap (2 ^ (ji18).toNat)) = ji20 := fun hle_ => by have h_ := hji20z hle_; rw [Int.one_mul] at h_; exact h_
     have c21b0 := eq_true (dA : 0 ≤ (ji18))
     obtain ⟨ji22, hji22⟩ : ∃ j_ : Int, (shr .u64 x9_1 (ji18)) = j_ := ⟨_, rfl⟩
     replace H : ((compact_NewNodeID.f (ji18) (ji22)).bind fun bt297 => (if x2_1.length < 8796093022208 then (compact_RangeNodes.l0 k1 (x2_1 ++ [(⟨bt297.1, bt297.2⟩ : S106)]) (Go.bits .xor .u64 x7_1 (ji20)) t295 (IntKind.u64.wrap (x9_1 + (ji20)))) else (none))) = some r := by first | (rw [hji22] at H; exact H) | (simp only [hji22] at H ⊢; exact H)
     (try rw [hji22] at A17)
     have hji22_ : (x9_1 / 2 ^ min (ji18).toNat 64) = ji22 := hji22
     have hji22z : (ji18) ≤ 64 → (x9_1 / 2 ^ (ji18).toNat) = ji22 := shr_small hji22
     replace H := Option.bind_eq_some_iff.mp H
     obtain ⟨⟨t297, t298⟩, A230, H⟩ := H
     (try dsimp only at H)
     have A23 := zM A230
     clear A230
     by_cases c24 : x2_1.length < 8796093022208
     ·rw [if_pos c24] at H
      have LMc24 := zM c24
      clear c24
      obtain ⟨y299, hy299⟩ : ∃ y_ : List (S106), y_ = (x2_1 ++ [(⟨t297, t298⟩ : S106)]) := ⟨_, rfl⟩
      replace H : (compact_RangeNodes.l0 k1 y299 (Go.bits .xor .u64 x7_1 (ji20)) t295 (IntKind.u64.wrap (x9_1 + (ji20)))) = some r := by first | (rw [hy299]; with_reducible exact H) | (have H := (Option.bind_some _ _).symm.trans H; first | (rw [hy299]; with_reducible exact H) | with_reducible exact H) | (rw [hy299]; exact H) | exact H
      have Ny299 := zM hy299
      clear hy299
      have H' := zM H
      clear H
      go_wp2_with (first | ((with_reducible refine gate_callee (f := 83) rfl ?_); refine goesL_ (some 30) rfl rfl Tryd.func83 (by kernel_rfl) rfl #[.int .u64 x7_1] rfl aV ?_; (with_reducible refine (bits_TrailingZeros64.calls x7_1 t296 _ ?side1 A17.out).mono ?_); (case side1 => exact TabOK.below HT.out bB); rintro e w' ⟨rfl, ⟨nd, rfl⟩⟩; refine ⟨_, rfl, ?_⟩) | ((with_reducible refine gate_callee (f := 92) rfl ?_); refine goesL_ (some 39) rfl rfl Tryd.func92 (by kernel_rfl) rfl #[.int .u64 ji18, .int .u64 ji22] rfl (by (try simp only [List.map_toArray, List.map_cons, List.map_nil]); first | done | (simp only [hji18, hji22]; rfl) | rfl | (simp only [List.length_drop, List.length_take]; rfl)) ?_; (with_reducible refine (compact_NewNodeID.calls ji18 ji22 t297 t298 _ A23.out).mono ?_); rintro e w25 ⟨rfl, hb⟩; refine ⟨_, rfl, ?_⟩; replace HO_2 := zM (Kd.R_below (kR HO_2.out) hb); replace HK := zM (Kept.below (S := (fun k_ => P2_ k_)) (by repeat (first | (with_reducible first | exact HK.out | apply Kept.alloc | apply Kept.drewN | apply Kept.drew) | exact HK.out)) hb); replace HB := zM (below_step bB hb)) | ((with_reducible refine gate_builtin (b := .append) (xs := #[.tmp 34, .tmp 40]) rfl ?_); at_builtin; refine Kd.R_append k106 (w0 := w0) w0.heap.size rfl (.tmp 34) (.tmp 40) 120 106 (.agg #[(.int .u64 0), (.int .u64 0)]) 16 rfl Tryd.underlying120 info106 rfl (by decide) (by omega) u2 x2_1 (⟨t297, t298⟩ : S106) [.int .u64 t297, .int .u64 t298] (fun k_ => (P2_ k_ ∨ w.heap.size ≤ k_)) (fun _ => False) rfl rfl ?aP (fun _ hk => hk.elim) ?aF ?aO ?aB ?aS ?aL ?_; (case aP => exact k106_mkM _ _ _ (⟨t297, t298⟩ : S106)); (case aB => exact bB); (case aF => exact (fun k_ hk => (.inr (Nat.le_trans (by first | exact HK.out.1 | exact (show Kept w _ (fun k_ => P2_ k_) from by repeat (first | (with_reducible first | exact HK.out | apply Kept.alloc | apply Kept.drewN | apply Kept.drew) | exact HK.out)).1) hk)))); (case aO => exact (kR HO_2.out)); (case aS => exact (below_size bB)); (case aL => have := LMc24.out; omega); intro v300 w26 ho hb hg hat; rw [← Ny299.out] at ho; replace HB := zM (hb); replace HK := zM (Kept.of_grown (S := (fun k_ => P2_ k_)) hg (by repeat (first | (with_reducible first | exact HK.out | apply Kept.alloc | apply Kept.drewN | apply Kept.drew) | exact HK.out)) (fun k_ e_ => (HO_2.out.1 k_ e_))); have HO301 := zM (ho); clear HO_2; clear ho hb hg hat))
      go_roundg k1
      case measure => have := HK1.out; omega
      case rel => exact ⟨(y299), (Go.bits .xor .u64 x7_1 (ji20)), (IntKind.u64.wrap (x9_1 + (ji20))), (by first | rfl | (simp; done) | (simp only [← hji20] <;> (first | rfl | simp)) | (simp [*]; done)), (by first | rfl | (simp; done) | (simp only [← hji20] <;> (first | rfl | simp)) | (simp [*]; done)), H', ⟨by have := HK1.out; omega⟩, ⟨kR HO301.out⟩, ⟨by repeat (first | (with_reducible first | exact HK.out | apply Kept.alloc | apply Kept.drewN | apply Kept.drew) | exact HK.out)⟩, ⟨bB⟩⟩
     ·rw [if_neg c24] at H
      exact absurd H (by simp)
    ·rw [if_neg c19] at H
     exact absurd H (by simp)
def compact_NodeID_Coverage.f (a0_0 : Int) (a0_1 : Int) : Option (Int × Int) := if 0 ≤ a0_0 then (some (shl .u64 a0_1 a0_0, shl .u64 (IntKind.u64.wrap (a0_1 + 1)) a0_0)) else (none)
set_option maxHeartbeats 8000000 in
set_option maxRecDepth 100000 in
theorem compact_NodeID_Coverage.calls (a0_0 : Int) (a0_1 : Int) (r1 : Int) (r2 : Int) (w : World) (h : compact_NodeID_Coverage.f a0_0 a0_1 = some (r1, r2)) :
  Calls Tryd.prog 115 #[.agg #[.int .u64 a0_0, .int .u64 a0_1]] w fun e w' => e = .returned (.tuple #[.int .u64 r1, .int .u64 r2]) ∧ Below w.heap.size w w' := by
 have hu106 := Tryd.underlying106
 have HB := zM (Below.refl w.heap.size w)
 have H : (if 0 ≤ a0_0 then (some (shl .u64 a0_1 a0_0, shl .u64 (IntKind.u64.wrap (a0_1 + 1)) a0_0)) else (none)) = some (r1, r2) := h
 clear h
 by_cases c2 : 0 ≤ a0_0
 ·rw [if_pos c2] at H
  have c2b0 := eq_true c2
  have c2b1 : decide (0 ≤ a0_0) = true := decide_eq_true c2
  clear c2
  obtain ⟨ji3, hji3⟩ : ∃ j_ : Int, (shl .u64 a0_1 a0_0) = j_ := ⟨_, rfl⟩
  replace H : (some (ji3, shl .u64 (IntKind.u64.wrap (a0_1 + 1)) a0_0)) = some (r1, r2) := by first | (rw [hji3] at H; exact H) | (simp only [hji3] at H ⊢; exact H)
  have hji3_ : (IntKind.u64.wrap (a0_1 * 2 ^ min a0_0.toNat 64)) = ji3 := hji3
  have hji3z : a0_0 ≤ 64 → (IntKind.u64.wrap (a0_1 * 2 ^ a0_0.toNat)) = ji3 := shl_small hji3
  have c4b0 := eq_true (dA : 0 ≤ a0_0)
  obtain ⟨ji5, hji5⟩ : ∃ j_ : Int, (shl .u64 (IntKind.u64.wrap (a0_1 + 1)) a0_0) = j_ := ⟨_, rfl⟩
  replace H : (some (ji3, ji5)) = some (r1, r2) := by first | (rw [hji5] at H; exact H) | (simp only [hji5] at H ⊢; exact H)
  have hji5_ : (IntKind.u64.wrap ((IntKind.u64.wrap (a0_1 + 1)) * 2 ^ min a0_0.toNat 64)) = ji5 := hji5
  have hji5z : a0_0 ≤ 64 → (IntKind.u64.wrap ((IntKind.u64.wrap (a0_1 + 1)) * 2 ^ a0_0.toNat)) = ji5 := shl_small hji5
  simp only [Option.some.injEq, Prod.mk.injEq] at H
  obtain ⟨rfl, rfl⟩ := H
  go_enter Tryd.func115, Tryd.ntmps115
  go_wp2_with (first | ((with_reducible refine gate_dst (N := 1) rfl ?_); refine bx 1 #[.int .u64 a0_0, .int .u64 a0_1] 106 ?_; intro gb308 hg w6 hbox hb; have BK308 := zM (hbox); have GW308 := zM ((gB hg : w.heap.size ≤ gb308)); have GE308 := zM ((gB hg : w.heap.size ≤ gb308)); replace HB := zM (below_step bB hb); clear hb hbox hg; obtain ⟨hcz7_0, hcz7_1⟩ := h2 BK308; obtain ⟨hfz7_0, hfz7_1⟩ := f2 BK308))
  repeat (go_quiet (first | ((with_reducible refine gate_dst (N := 1) rfl ?_); refine bx 1 #[.int .u64 a0_0, .int .u64 a0_1] 106 ?_; intro gb308 hg w6 hbox hb; have BK308 := zM (hbox); have GW308 := zM ((gB hg : w.heap.size ≤ gb308)); have GE308 := zM ((gB hg : w.heap.size ≤ gb308)); replace HB := zM (below_step bB hb); clear hb hbox hg; obtain ⟨hcz7_0, hcz7_1⟩ := h2 BK308; obtain ⟨hfz7_0, hfz7_1⟩ := f2 BK308)); try go_wp2_with (first | ((with_reducible refine gate_dst (N := 1) rfl ?_); refine bx 1 #[.int .u64 a0_0, .int .u64 a0_1] 106 ?_; intro gb308 hg w6 hbox hb; have BK308 := zM (hbox); have GW308 := zM ((gB hg : w.heap.size ≤ gb308)); have GE308 := zM ((gB hg : w.heap.size ≤ gb308)); replace HB := zM (below_step bB hb); clear hb hbox hg; obtain ⟨hcz7_0, hcz7_1⟩ := h2 BK308; obtain ⟨hfz7_0, hfz7_1⟩ := f2 BK308)))
  go_ret2
  exact ⟨by first | rfl | (simp [errW_none, errW_some] <;> rfl) | (simp only [← hji3, ← hji5]; first | rfl | (simp [errW_none, errW_some] <;> rfl)) | (simp [*, errW_none, errW_some] <;> rfl), bB⟩
 ·rw [if_neg c2] at H
  exact absurd H (by simp)
def compact_NodeID_Sibling.f (a0_0 : Int) (a0_1 : Int) : Option (Int × Int) := (compact_NewNodeID.f a0_0 (Go.bits .xor .u64 a0_1 1)).bind fun bt311 => (some (bt311.1, bt311.2))
set_option maxHeartbeats 8000000 in
set_option maxRecDepth 100000 in
theorem compact_NodeID_Sibling.calls (a0_0 : Int) (a0_1 : Int) (r1 : Int) (r2 : Int) (w : World) (h : compact_NodeID_Sibling.f a0_0 a0_1 = some (r1, r2)) :
  Calls Tryd.prog 116 #[.agg #[.int .u64 a0_0, .int .u64 a0_1]] w fun e w' => e = .returned (.agg #[.int .u64 r1, .int .u64 r2]) ∧ Below w.heap.size w w' := by
 have hu106 := Tryd.underlying106
 have HB := zM (Below.refl w.heap.size w)
 have H : ((compact_NewNodeID.f a0_0 (Go.bits .xor .u64 a0_1 1)).bind fun bt311 => (some (bt311.1, bt311.2))) = some (r1, r2) := h
 clear h
 replace H := Option.bind_eq_some_iff.mp H
 obtain ⟨⟨t311, t312⟩, A20, H⟩ := H
 (try dsimp only at H)
 have A2 := zM A20
 clear A20
 simp only [Option.some.injEq, Prod.mk.injEq] at H
 obtain ⟨rfl, rfl⟩ := H
 go_enter Tryd.func116, Tryd.ntmps116
 go_wp2_with (first | ((with_reducible refine gate_dst (N := 1) rfl ?_); refine bx 1 #[.int .u64 a0_0, .int .u64 a0_1] 106 ?_; intro gb309 hg w3 hbox hb; have BK309 := zM (hbox); have GW309 := zM ((gB hg : w.heap.size ≤ gb309)); have GE309 := zM ((gB hg : w.heap.size ≤ gb309)); replace HB := zM (below_step bB hb); clear hb hbox hg) | ((with_reducible refine gate_dst (N := 2) rfl ?_); refine bx 2 #[.int .u64 0, .int .u64 0] 106 ?_; intro gb310 hg w4 hbox hb; have BK310 := zM (hbox); have GW310 := zM ((gB hg : w.heap.size ≤ gb310)); have GE310 := zM ((gB hg : w.heap.size ≤ gb310)); replace HB := zM (below_step bB hb); have NB309_310 := zM ((by rw [hg]; exact Nat.ne_of_lt (blk_lt (g := gb309) (o := .cells #[.int .u64 a0_0, .int .u64 a0_1] 106 (0, 0)) (kB BK309.out)) : gb309 ≠ gb310)); have NB310_309 := zM ((by rw [hg]; exact Nat.ne_of_gt (blk_lt (g := gb309) (o := .cells #[.int .u64 a0_0, .int .u64 a0_1] 106 (0, 0)) (kB BK309.out)) : gb310 ≠ gb309)); replace BK309 := zM (bK BK309 hb); clear hb hbox hg; have hnb5 := NB309_310.out; have hnc5 := NB310_309.out; obtain ⟨hcz6_0, hcz6_1⟩ := h2 BK309; obtain ⟨hfz6_0, hfz6_1⟩ := f2 BK309) | ((with_reducible refine gate_callee (f := 92) rfl ?_); refine goesL_ (some 8) rfl rfl Tryd.func92 (by kernel_rfl) rfl #[.int .u64 a0_0, .int .u64 (Go.bits .xor .u64 a0_1 1)] rfl aV ?_; (with_reducible refine (compact_NewNodeID.calls a0_0 (Go.bits .xor .u64 a0_1 1) t311 t312 _ A2.out).mono ?_); rintro e w7 ⟨rfl, hb⟩; refine ⟨_, rfl, ?_⟩; replace BK309 := zM (bK BK309 hb); replace BK310 := zM (bK BK310 hb); replace HB := zM (below_step bB hb); obtain ⟨hcz8_0, hcz8_1⟩ := h2 BK310; obtain ⟨hfz8_0, hfz8_1⟩ := f2 BK310))
 refine bodyPost_ret (results_cell_row rfl _ _ gb310 106 #[.int .u64 t311, .int .u64 t312] (0, 0) _ rfl (by refine kU ?_; refine blk_put (cs := #[.int .u64 t311, .int .u64 0]) ?_ 1 _ rfl; refine kU ?_; refine blk_put (cs := #[.int .u64 0, .int .u64 0]) ?_ 0 _ rfl; refine kU ?_; exact BK310.out) Tryd.underlying106 rfl (by kernel_rfl)) rfl ?_
 exact ⟨by first | rfl | (simp [errW_none, errW_some] <;> rfl) | (simp [*, errW_none, errW_some] <;> rfl), bB⟩
def proof_reverse.l0 : Nat → List (S106) → Int → Int → Option ((List (S106)))
 | 0, _, _, _ => none
 | k + 1, x0, x2, x3 => if x2 < x3 then (if 0 ≤ x3 then (if x3 < (x0.length : Int) then (if 0 ≤ x2 then (if x2 < (x0.length : Int) then (proof_reverse.l0 k ((x0.set (x2 : Int).toNat (⟨(rd_T106 x0 x3).f0, (rd_T106 x0 x3).f1⟩ : S106)).set (x3 : Int).toNat (⟨(rd_T106 x0 x2).f0, (rd_T106 x0 x2).f1⟩ : S106)) (wrap64 (x2 + 1)) (wrap64 (x3 - 1))) else (none)) else (none)) else (none)) else (none)) else (some x0)
def proof_reverse.f (k : Nat) (l0 : List (S106)) : Option ((List (S106))) := proof_reverse.l0 k l0 0 (wrap64 ((l0.length : Int) - 1))
def proof_reverse.T3 : Bool × List (List Nat × List Nat) := (true, [([], []), ([], []), ([], []), ([], []), ([], []), ([], []), ([4, 5], [4, 5]), ([6], [6]), ([], []), ([], []), ([8, 9], [8, 9]), ([10], [10]), ([0, 1, 0, 1, 4, 5, 6, 7, 11], [0, 1]), ([12, 7, 0, 1, 4, 5, 6, 7, 11], [7, 12]), ([2, 3, 0, 1, 2, 3, 4, 5, 6, 7, 8, 9, 10, 11, 12, 13], [2, 3]), ([14, 11, 13, 0, 1, 2, 3, 4, 5, 6, 7, 8, 9, 10, 11, 12, 13], [11, 14])])
def proof_reverse.B3 : List Nat := [0, 0, 0, 0, 0, 0, 48, 112, 0, 0, 768, 1792, 4083, 8179, 16383, 32767]
theorem proof_reverse.tab3 : rtab .any (opsOf Tryd.f117 3) = proof_reverse.T3 := by kernel_rfl
theorem proof_reverse.bits3 : waitsOk proof_reverse.T3.2 proof_reverse.B3 = true := by kernel_rfl
theorem reverse_nil (A : Option Addr) (c : Nat) (w : World) :
  Calls Tryd.prog 117 #[.slice A 0 c] w fun e w' => e = .returned (.tuple #[]) ∧ w' = w := by
 go_enter Tryd.func117, Tryd.ntmps117
 go_wp2
 go_loopg [2, 3] 1 (fun kq v2 v3 w' => v2 = .int .i64 0 ∧ v3 = .int .i64 (-1) ∧ w' = w)
 case atStart => exact ⟨rfl, rfl, rfl⟩
 case round =>
  obtain ⟨rfl, rfl, rfl⟩ := hrel
  go_wp2
  go_end0
  exact ⟨rfl, rfl⟩
set_option maxHeartbeats 8000000 in
set_option maxRecDepth 100000 in
theorem reverse_cut (k : Nat) (P0_ : Nat → Prop) (g o2 cap c' : Nat) (T l : List (S106)) (rv : List (S106)) (w0 w : World) (hB : Below w0.heap.size w0 w) (hTo : o2 = T.length * 2)
  (ho0 : Kd.R k106 106 w w0.heap.size P0_ (.slice (some ⟨g, 0, none⟩) (T ++ l).length cap) (T ++ l)) (h : proof_reverse.f k l = some rv) :
  Calls Tryd.prog 117 #[.slice (some ⟨g, o2, none⟩) l.length c'] w fun e w' => e = .returned (.tuple #[]) ∧ Kd.R k106 106 w' w0.heap.size (fun k_ => (P0_ k_ ∨ w.heap.size ≤ k_)) (.slice (some ⟨g, 0, none⟩) (T ++ l).length cap) (T ++ rv) ∧ Below w0.heap.size w0 w' ∧ Kept w w' (fun k_ => P0_ k_) := by
 have hu106 := Tryd.underlying106
 have HO0 := zM (show Kd.R k106 106 w w0.heap.size (fun k_ => (P0_ k_ ∨ w.heap.size ≤ k_)) (.slice (some ⟨g, 0, none⟩) (T ++ l).length cap) (T ++ l) from Kd.R_mono ho0 (fun k_ hk => (.inl hk)))
 have HK := zM (Kept.refl w (fun k_ => P0_ k_))
 have HMg := zM (ho0.1 g rfl)
 clear ho0
 have HB := zM hB
 clear hB
 have H : (proof_reverse.l0 k l 0 (wrap64 ((l.length : Int) - 1))) = some rv := h
 clear h
 have H' := zM H
 clear H
 have HTO := zM hTo
 clear hTo
 generalize hnn : (T ++ l).length = nn at HO0 ⊢
 have HNN := zM hnn
 clear hnn
 go_enter Tryd.func117, Tryd.ntmps117
 go_wp2
 go_loopg [2, 3] k (fun kq v2 v3 w' => ∃ (x0_1 : List (S106)) (x2_1 : Int) (x3_1 : Int), v2 = .int .i64 x2_1 ∧ v3 = .int .i64 x3_1 ∧ Aside0 (x0_1.length = l.length) ∧ Aside0 (proof_reverse.l0 kq x0_1 x2_1 x3_1 = some rv) ∧ Aside0 (kq ≤ k) ∧ Aside0 (Kd.R k106 106 w' w0.heap.size (fun k_ => (P0_ k_ ∨ w.heap.size ≤ k_)) (.slice (some ⟨g, 0, none⟩) nn cap) (T ++ x0_1)) ∧ Aside0 (Kept w w' (fun k_ => P0_ k_)) ∧ Aside0 (Below w0.heap.size w0 w'))
 case atStart => exact ⟨(l), (0), (wrap64 ((l.length : Int) - 1)), rfl, rfl, ⟨rfl⟩, H', ⟨Nat.le_refl _⟩, HO0, HK, HB⟩
 case round =>
  clear H' HO0 HK HB
  obtain ⟨x0_1, x2_1, x3_1, rfl, rfl, HLN, HA, HK1, HO_0, HK, HB⟩ := hrel
  cases gk with
  | zero => exact absurd HA.out (by simp [proof_reverse.l0])
  | succ k1 =>
   have H := HA.out
   clear HA
   simp only [proof_reverse.l0] at H
   by_cases c3 : x2_1 < x3_1
   ·rw [if_pos c3] at H
    by_cases c4 : 0 ≤ x3_1
    ·rw [if_pos c4] at H
     by_cases c5 : x3_1 < (x0_1.length : Int)
     ·rw [if_pos c5] at H
      by_cases c6 : 0 ≤ x2_1
      ·rw [if_pos c6] at H
       by_cases c7 : x2_1 < (x0_1.length : Int)
       ·rw [if_pos c7] at H
        have hl := HLN.out
        have d5 : x3_1 < (l.length : Int) := by omega
        have d7 : x2_1 < (l.length : Int) := by omega
        have hto := HTO.out
        have i3 : ((T.length : Int) + x3_1).toNat * 2 = o2 + x3_1.toNat * 2 := by omega
        have i2 : ((T.length : Int) + x2_1).toNat * 2 = o2 + x2_1.toNat * 2 := by omega
        have j3 : ((T.length : Int) + x3_1).toNat = T.length + x3_1.toNat := by omega
        have j2 : ((T.length : Int) + x2_1).toNat = T.length + x2_1.toNat := by omega
        have e3 : (T ++ x0_1).getD ((T.length : Int) + x3_1).toNat z106 = rd_T106 x0_1 x3_1 := by
         unfold rd_T106
         rw [j3, List.getD_eq_getElem?_getD, List.getD_eq_getElem?_getD, List.getElem?_append_right (by omega), Nat.add_sub_cancel_left]
        have e2 : (T ++ x0_1).getD ((T.length : Int) + x2_1).toNat z106 = rd_T106 x0_1 x2_1 := by
         unfold rd_T106
         rw [j2, List.getD_eq_getElem?_getD, List.getD_eq_getElem?_getD, List.getElem?_append_right (by omega), Nat.add_sub_cancel_left]
        obtain ⟨y565, hy565⟩ : ∃ y_ : List (S106), y_ = (x0_1.set (x2_1 : Int).toNat (⟨(rd_T106 x0_1 x3_1).f0, (rd_T106 x0_1 x3_1).f1⟩ : S106)) := ⟨_, rfl⟩
        rw [← hy565] at H
        obtain ⟨y566, hy566⟩ : ∃ y_ : List (S106), y_ = (y565.set (x3_1 : Int).toNat (⟨(rd_T106 x0_1 x2_1).f0, (rd_T106 x0_1 x2_1).f1⟩ : S106)) := ⟨_, rfl⟩
        rw [← hy566] at H
        have s565 : T ++ y565 = (T ++ x0_1).set ((T.length : Int) + x2_1).toNat (⟨(rd_T106 x0_1 x3_1).f0, (rd_T106 x0_1 x3_1).f1⟩ : S106) := by rw [hy565, j2, List.set_append_right _ _ (by omega), Nat.add_sub_cancel_left]
        have s566 : T ++ y566 = (T ++ y565).set ((T.length : Int) + x3_1).toNat (⟨(rd_T106 x0_1 x2_1).f0, (rd_T106 x0_1 x2_1).f1⟩ : S106) := by rw [hy566, j3, List.set_append_right _ _ (by omega), Nat.add_sub_cancel_left]
        have hl6 : y566.length = l.length := by rw [hy566, List.length_set, hy565, List.length_set, hl]
        have HL6 := zM hl6
        clear hl6
        have H' := zM H
        clear H
        have n0_ := zM (Kd.R_drew HO_0.out)
        have n1_ := zM (Kept.drew HK.out)
        have n2_ := zM (below_drew1 HB.out)
        clear HO_0 HK HB
        have HO_0 := n0_
        have HK := n1_
        have HB := n2_
        clear n0_ n1_ n2_
        have hnl : nn = (T ++ x0_1).length := (Kd.R_reads' HO_0.out).1
        have q3 : (T.length : Int) + x3_1 < (nn : Int) := by rw [hnl, List.length_append]; omega
        have q2 : (T.length : Int) + x2_1 < (nn : Int) := by rw [hnl, List.length_append]; omega
        obtain ⟨ce7, hcl7, hM7, hcc7, hfr7⟩ := Kd.R_elem HO_0.out z106 ((T.length : Int) + x3_1) (by omega) q3
        obtain rfl := k106_openM hM7
        have hx563_0 := hcc7 0 _ rfl
        have hx563_1 := hcc7 1 _ rfl
        obtain ⟨ce8, hcl8, hM8, hcc8, hfr8⟩ := Kd.R_elem HO_0.out z106 ((T.length : Int) + x2_1) (by omega) q2
        obtain rfl := k106_openM hM8
        have hx8_0 := hcc8 0 _ rfl
        have hx8_1 := hcc8 1 _ rfl
        have hf8_0 := hfr8 0
        have hf8_1 := hfr8 1
        have HP11 := (Kd.R_seg HO_0.out ((T.length : Int) + x2_1) (by omega) q2 (seg := [.int .u64 ((rd_T106 x0_1 x3_1).f0), .int .u64 ((rd_T106 x0_1 x3_1).f1)]) (j := 0) hcl8 hcc8 (show 2 ≤ 2 from by decide) (x' := (⟨(rd_T106 x0_1 x3_1).f0, (rd_T106 x0_1 x3_1).f1⟩ : S106)) (k106_mkM _ _ _ (⟨(rd_T106 x0_1 x3_1).f0, (rd_T106 x0_1 x3_1).f1⟩ : S106)) (fun _ hk => hk)).1
        rw [← s565] at HP11
        have HQ11 := zM HP11
        clear HP11
        obtain ⟨ce9, hcl9, hM9, hcc9, hfr9⟩ := Kd.R_elem HQ11.out z106 ((T.length : Int) + x3_1) (by omega) q3
        obtain rfl := k106_openM hM9
        have HP12 := (Kd.R_seg HQ11.out ((T.length : Int) + x3_1) (by omega) q3 (seg := [.int .u64 ((rd_T106 x0_1 x2_1).f0), .int .u64 ((rd_T106 x0_1 x2_1).f1)]) (j := 0) hcl9 hcc9 (show 2 ≤ 2 from by decide) (x' := (⟨(rd_T106 x0_1 x2_1).f0, (rd_T106 x0_1 x2_1).f1⟩ : S106)) (k106_mkM _ _ _ (⟨(rd_T106 x0_1 x2_1).f0, (rd_T106 x0_1 x2_1).f1⟩ : S106)) (fun _ hk => hk)).1
        rw [← s566] at HP12
        have HQ12 := zM HP12
        clear HP12 hcl7 hcc7 hM7 hcl8 hcc8 hfr8 hM8 hcl9 hcc9 hfr9 hM9 s565 s566 hy565 hy566 j2 j3 hto hl hnl
        have hf7_0 := hfr7 0
        have hf7_1 := hfr7 1
        change World.cell? _ ⟨g, ((T.length : Int) + x3_1).toNat * 2, none⟩ = _ at hx563_0
        change World.cell? _ ⟨g, ((T.length : Int) + x3_1).toNat * 2 + 1, none⟩ = _ at hx563_1
        change World.cell? _ ⟨g, ((T.length : Int) + x2_1).toNat * 2, none⟩ = _ at hx8_0
        change World.cell? _ ⟨g, ((T.length : Int) + x2_1).toNat * 2 + 1, none⟩ = _ at hx8_1
        change World.frozen? _ ⟨g, ((T.length : Int) + x2_1).toNat * 2, none⟩ = _ at hf8_0
        change World.frozen? _ ⟨g, ((T.length : Int) + x2_1).toNat * 2 + 1, none⟩ = _ at hf8_1
        change World.frozen? _ ⟨g, ((T.length : Int) + x3_1).toNat * 2, none⟩ = _ at hf7_0
        change World.frozen? _ ⟨g, ((T.length : Int) + x3_1).toNat * 2 + 1, none⟩ = _ at hf7_1
        obtain ⟨p, hp⟩ : ∃ p, o2 + x2_1.toNat * 2 = p := ⟨_, rfl⟩
        obtain ⟨q, hq⟩ : ∃ q, o2 + x3_1.toNat * 2 = q := ⟨_, rfl⟩
        have npq : ¬ p = q := by omega
        have nqp : ¬ q = p := by omega
        have np1 : ¬ p + 1 = q := by omega
        have nq1 : ¬ q + 1 = p := by omega
        have np2 : ¬ p = q + 1 := by omega
        have nq2 : ¬ q = p + 1 := by omega
        rw [i3, hq, e3] at hx563_0 hx563_1
        rw [i2, hp, e2] at hx8_0 hx8_1
        rw [i3, hq] at hf7_0 hf7_1
        rw [i2, hp] at hf8_0 hf8_1
        clear hfr7
        clear e2 e3 q2 q3
        have b3 : decide (x2_1 < x3_1) = true := decide_eq_true c3
        go_wp2
        refine start_ (n := 16) (S := fun w' => w'.cell? ⟨g, q, none⟩ = some (.int .u64 ((rd_T106 x0_1 x3_1).f0)) ∧ w'.cell? ⟨g, q + 1, none⟩ = some (.int .u64 ((rd_T106 x0_1 x3_1).f1)) ∧ w'.cell? ⟨g, p, none⟩ = some (.int .u64 ((rd_T106 x0_1 x2_1).f0)) ∧ w'.cell? ⟨g, p + 1, none⟩ = some (.int .u64 ((rd_T106 x0_1 x2_1).f1))) (ds := [13, 15]) #[ff,ff,ff,ff,ff,ff,ff,ff,ff,ff,ff,ff,ff,ff,ff,ff] (by kernel_rfl) rfl rfl ⟨hx563_0, hx563_1, hx8_0, hx8_1⟩ (fun hHeld => ?_); refine with_tabW proof_reverse.tab3 proof_reverse.bits3 (fun HT_ HW_ => ?_)
        generalize wr.drew = w10 at *
        refine pA 0 (some 14) #[tt,ff,ff,ff,ff,ff,ff,ff,ff,ff,ff,ff,ff,ff,ff,ff] HT_ ?_
        refine pA 1 (some 15) #[tt,tt,ff,ff,ff,ff,ff,ff,ff,ff,ff,ff,ff,ff,ff,ff] HT_ ?_
        refine pA 2 (some 16) #[tt,tt,tt,ff,ff,ff,ff,ff,ff,ff,ff,ff,ff,ff,ff,ff] HT_ ?_
        refine pA 3 (some 17) #[tt,tt,tt,tt,ff,ff,ff,ff,ff,ff,ff,ff,ff,ff,ff,ff] HT_ ?_
        refine pA 4 (some 18) #[tt,tt,tt,tt,tt,ff,ff,ff,ff,ff,ff,ff,ff,ff,ff,ff] HT_ ?_
        refine pA 5 (some 19) #[tt,tt,tt,tt,tt,tt,ff,ff,ff,ff,ff,ff,ff,ff,ff,ff] HT_ ?_
        refine pA 6 (some 20) #[tt,tt,tt,tt,tt,tt,tt,ff,ff,ff,ff,ff,ff,ff,ff,ff] HT_ ?_
        refine pA 8 (some 22) #[tt,tt,tt,tt,tt,tt,tt,ff,tt,ff,ff,ff,ff,ff,ff,ff] HT_ ?_
        refine pA 9 (some 23) #[tt,tt,tt,tt,tt,tt,tt,ff,tt,tt,ff,ff,ff,ff,ff,ff] HT_ ?_
        refine pA 10 (some 24) #[tt,tt,tt,tt,tt,tt,tt,ff,tt,tt,tt,ff,ff,ff,ff,ff] HT_ ?_
        refine tA 7 (some 21) #[tt,tt,tt,tt,tt,tt,tt,tt,tt,tt,tt,ff,ff,ff,ff,ff] rfl rfl HT_ HW_ hHeld (by rintro w' ⟨s0, s1, s2, s3⟩; go_simp; with_reducible rfl) ?_
        refine tA 11 (some 25) #[tt,tt,tt,tt,tt,tt,tt,tt,tt,tt,tt,tt,ff,ff,ff,ff] rfl rfl HT_ HW_ hHeld (by rintro w' ⟨s0, s1, s2, s3⟩; go_simp; with_reducible rfl) ?_
        refine pA 12 (some 26) #[tt,tt,tt,tt,tt,tt,tt,tt,tt,tt,tt,tt,tt,ff,ff,ff] HT_ ?_
        refine last_ (i := 13) (N := none) #[tt,tt,tt,tt,tt,tt,tt,tt,tt,tt,tt,tt,tt,tt,ff,ff] rfl rfl (one_of HT_.out (by kernel_rfl)) (by decide) (fun K hK => ?_)
        refine skip_ (w1 := ?_) (by rfl) rfl ?_ ?_
        rotate_left
        ·go_simp
         rfl
        refine hK.out _ _ ?_
        clear hK K
        refine pA 14 (some 27) #[tt,tt,tt,tt,tt,tt,tt,tt,tt,tt,tt,tt,tt,tt,tt,ff] HT_ ?_
        refine last_ (i := 15) (N := none) #[tt,tt,tt,tt,tt,tt,tt,tt,tt,tt,tt,tt,tt,tt,tt,tt] rfl rfl (one_of HT_.out (by kernel_rfl)) (by decide) (fun K hK => ?_)
        refine skip_ (w1 := ?_) (by rfl) rfl ?_ ?_
        rotate_left
        ·go_simp
         rfl
        refine hK.out _ _ ?_
        clear hK K
        refine done_ (done_of HT_.out (by kernel_rfl)) ?_
        try go_wp2
        go_roundg k1
        case measure => have := HK1.out; omega
        case rel =>
         have HMg2 : P0_ g ∨ w.heap.size ≤ g := .inl HMg.out
         refine ⟨(y566), (wrap64 (x2_1 + 1)), (wrap64 (x3_1 - 1)), sR, sR, HL6, H', ⟨by have := HK1.out; omega⟩, ⟨?_⟩, ⟨?_⟩, ⟨?_⟩⟩
         ·have hqr := HQ12.out
          have ez : k106.sz = 2 := rfl
          rw [ez, i2, i3, hp, hq] at hqr
          exact hqr
         ·repeat (first | (with_reducible first | exact HK.out | apply Kept.alloc | apply Kept.drewN | apply Kept.drew | refine Kept.setCell ?_ HMg2 _) | exact HK.out)
         ·have hgb := Kd.R_base HQ12.out g rfl
          repeat (first | (with_reducible first | exact HB.out | refine below_set ?_ hgb) | exact HB.out)
       ·rw [if_neg c7] at H
        exact absurd H (by simp)
      ·rw [if_neg c6] at H
       exact absurd H (by simp)
     ·rw [if_neg c5] at H
      exact absurd H (by simp)
    ·rw [if_neg c4] at H
     exact absurd H (by simp)
   ·rw [if_neg c3] at H
    have c3b0 : decide (x2_1 < x3_1) = false := decide_eq_false c3
    clear c3
    obtain rfl := Option.some.inj H
    go_wp2
    first | go_end0 | ((try simp only [Exit.inBlock, Exit.then]); refine bodyPost_ret (results_none rfl _ _ _) rfl ?_)
    exact ⟨rfl, HO_0.out, HB.out, HK.out⟩
end Go.Proofs.YtkmdkmlgahfcpaaDoor.M
