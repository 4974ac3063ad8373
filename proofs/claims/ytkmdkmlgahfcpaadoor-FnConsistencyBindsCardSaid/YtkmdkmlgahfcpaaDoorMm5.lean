-- Written by a program of ours (wip/xp) out of the translation; Lean checks it.
import Derived.Test.YtkmdkmlgahfcpaaDoorSq
import Derived.Test.YtkmdkmlgahfcpaaDoorMm1
import Derived.Test.YtkmdkmlgahfcpaaDoorMm2
import Derived.Test.YtkmdkmlgahfcpaaDoorMm4
namespace Go.Proofs.YtkmdkmlgahfcpaaDoor.M
open Go.RowKit Go.Proofs.YtkmdkmlgahfcpaaDoorW.PrintWords Go.Proofs.YtkmdkmlgahfcpaaDoorW.PrintLast Go.Proofs.YtkmdkmlgahfcpaaDoorW.PrintMore
attribute [local go_sem] max2_int min2_int max_two min_two max_three min_three max_four min_four   -- for this text's walks alone
set_option linter.unusedVariables false
set_option linter.unusedSimpArgs false

/-! ### impl_VerifyConsistency: function 18 -/
def impl_VerifyConsistency.f (k : Nat) (a0_0 : Int) (a0_1 : Int) (a0_2 : Int) (a0_3 : Int) (a0_4 : Int) (a0_5 : Int) (a1 : Int) (a2 : Int) (l3 : List (List Int)) (l4 : List Int) (l5 : List Int) : Option (Int × List Int) := (impl_texts.f k l3).bind fun t165 => ((some (([] : List Int) : List Int)).bind fun y168 => (if y168.length + l4.length < 140737488355328 then ((some (([] : List Int) : List Int)).bind fun y174 => (if y174.length + l5.length < 140737488355328 then ((proof_VerifyConsistency.f k a0_0 a0_1 a0_2 a0_3 a0_4 a0_5 a1 a2 t165 (y168 ++ l4) (y174 ++ l5)).bind fun bt180 => ((impl_verdict.f k bt180.1 bt180.2.1 bt180.2.2.1 bt180.2.2.2).bind fun bt190 => (some (bt190.1, bt190.2)))) else (none))) else (none)))
theorem impl_VerifyConsistency.mono : ∀ a0 a1 a2 a3 a4 a5 a6 a7 a8 a9 a10 k, LeO (impl_VerifyConsistency.f k a0 a1 a2 a3 a4 a5 a6 a7 a8 a9 a10) (impl_VerifyConsistency.f (k + 1) a0 a1 a2 a3 a4 a5 a6 a7 a8 a9 a10) := by
 intro a0 a1 a2 a3 a4 a5 a6 a7 a8 a9 a10 k
 unfold impl_VerifyConsistency.f
 repeat' first
   | (with_reducible exact impl_texts.mono _ _)
   | (with_reducible exact impl_verdict.mono _ _ _ _ _)
   | (with_reducible exact proof_VerifyConsistency.mono _ _ _ _ _ _ _ _ _ _ _ _)
   | (with_reducible exact LeO.refl _)
   | (with_reducible exact LeO.none _)
   | (with_reducible refine LeO.ite ?_ ?_)
   | (with_reducible refine LeO.bind ?_ (fun _ => ?_))
   | exact impl_texts.mono _ _
   | exact impl_verdict.mono _ _ _ _ _
   | exact proof_VerifyConsistency.mono _ _ _ _ _ _ _ _ _ _ _ _
   | exact LeO.none _
   | refine LeO.ite ?_ ?_
   | refine LeO.bind ?_ (fun _ => ?_)
def impl_VerifyConsistency.T1 : Bool × List (List Nat × List Nat) := (true, [([], []), ([0], [0]), ([1], [1]), ([], []), ([], []), ([], []), ([5], [5]), ([], []), ([], []), ([7, 8, 6], [7, 8]), ([], []), ([], []), ([10, 11, 9], [10, 11]), ([2, 3, 4, 6, 9, 12, 12], [2, 3, 4, 6, 9, 12]), ([13, 13], [13]), ([14], [14]), ([14], [14]), ([15, 14, 0, 1, 2, 3, 4, 5, 6, 7, 8, 9, 10, 11, 12, 13, 14, 15, 16], [15]), ([16, 17, 0, 1, 2, 3, 4, 5, 6, 7, 8, 9, 10, 11, 12, 13, 14, 15, 16, 17], [16])])
def impl_VerifyConsistency.B1 : List Nat := [0, 1, 3, 0, 0, 0, 32, 0, 0, 480, 0, 0, 4064, 8191, 16383, 32767, 32767, 131071, 262143]
theorem impl_VerifyConsistency.tab1 : rtab .any (opsOf Tryd.f18 1) = impl_VerifyConsistency.T1 := by kernel_rfl
theorem impl_VerifyConsistency.bits1 : waitsOk impl_VerifyConsistency.T1.2 impl_VerifyConsistency.B1 = true := by kernel_rfl
set_option maxHeartbeats 8000000 in
set_option maxRecDepth 100000 in
theorem impl_VerifyConsistency.calls (k : Nat) (a0_0 : Int) (a0_1 : Int) (a0_2 : Int) (a0_3 : Int) (a0_4 : Int) (a0_5 : Int) (a1 : Int) (a2 : Int) (A3 : Option Addr) (c3 : Nat) (l3 : List (List Int)) (A4 : Option Addr) (c4 : Nat) (l4 : List Int) (A5 : Option Addr) (c5 : Nat) (l5 : List Int) (r1 : Int) (r2 : List Int) (w : World) (hT : TabOK w) (hr3 : Kd.C (Kd.slice 5 (Kd.int .u8)) w A3 l3.length l3) (hc3 : l3.length ≤ c3) (hr4 : Kd.C (Kd.int .u8) w A4 l4.length l4) (hc4 : l4.length ≤ c4) (hr5 : Kd.C (Kd.int .u8) w A5 l5.length l5) (hc5 : l5.length ≤ c5) (h : impl_VerifyConsistency.f k a0_0 a0_1 a0_2 a0_3 a0_4 a0_5 a1 a2 l3 l4 l5 = some (r1, r2)) :
  Calls Tryd.prog 18 #[.agg #[.int .i64 a0_0, .int .i64 a0_1, .int .i64 a0_2, .int .u64 a0_3, .int .u64 a0_4, .int .u64 a0_5], .int .u64 a1, .int .u64 a2, .slice A3 l3.length c3, .slice A4 l4.length c4, .slice A5 l5.length c5] w fun e w' => ∃ v1_ : Value, e = .returned (.tuple #[.int .i64 r1, v1_]) ∧ Kd.R (Kd.int .u8) 5 w' w.heap.size (fun _ => True) v1_ r2 ∧ Below w.heap.size w w' := by
 have hu24 := Tryd.underlying24
 have hu85 := Tryd.underlying85
 have HT := Aside0.mk hT
 clear hT
 have HR3 := Aside0.mk hr3
 have HC3 := Aside0.mk hc3
 clear hr3 hc3
 have HR4 := Aside0.mk hr4
 have HC4 := Aside0.mk hc4
 clear hr4 hc4
 have HR5 := Aside0.mk hr5
 have HC5 := Aside0.mk hc5
 clear hr5 hc5
 have HB := Aside0.mk (Below.refl w.heap.size w)
 have H : ((impl_texts.f k l3).bind fun t165 => ((some (([] : List Int) : List Int)).bind fun y168 => (if y168.length + l4.length < 140737488355328 then ((some (([] : List Int) : List Int)).bind fun y174 => (if y174.length + l5.length < 140737488355328 then ((proof_VerifyConsistency.f k a0_0 a0_1 a0_2 a0_3 a0_4 a0_5 a1 a2 t165 (y168 ++ l4) (y174 ++ l5)).bind fun bt180 => ((impl_verdict.f k bt180.1 bt180.2.1 bt180.2.2.1 bt180.2.2.2).bind fun bt190 => (some (bt190.1, bt190.2)))) else (none))) else (none)))) = some (r1, r2) := h
 clear h
 replace H := Option.bind_eq_some_iff.mp H
 obtain ⟨t165, A70, H⟩ := H
 replace H : ((some (([] : List Int) : List Int)).bind fun y168 => (if y168.length + l4.length < 140737488355328 then ((some (([] : List Int) : List Int)).bind fun y174 => (if y174.length + l5.length < 140737488355328 then ((proof_VerifyConsistency.f k a0_0 a0_1 a0_2 a0_3 a0_4 a0_5 a1 a2 t165 (y168 ++ l4) (y174 ++ l5)).bind fun bt180 => ((impl_verdict.f k bt180.1 bt180.2.1 bt180.2.2.1 bt180.2.2.2).bind fun bt190 => (some (bt190.1, bt190.2)))) else (none))) else (none))) = some (r1, r2) := H
 have A7 := Aside0.mk A70
 clear A70
 obtain ⟨y168, hy168⟩ : ∃ y_ : List Int, y_ = (([] : List Int)) := ⟨_, rfl⟩
 replace H : (if y168.length + l4.length < 140737488355328 then ((some (([] : List Int) : List Int)).bind fun y174 => (if y174.length + l5.length < 140737488355328 then ((proof_VerifyConsistency.f k a0_0 a0_1 a0_2 a0_3 a0_4 a0_5 a1 a2 t165 (y168 ++ l4) (y174 ++ l5)).bind fun bt180 => ((impl_verdict.f k bt180.1 bt180.2.1 bt180.2.2.1 bt180.2.2.2).bind fun bt190 => (some (bt190.1, bt190.2)))) else (none))) else (none)) = some (r1, r2) := by first | (rw [hy168]; with_reducible exact H) | (have H2_ := (Option.bind_some _ _).symm.trans H; rw [hy168]; with_reducible exact H2_) | (have H2_ := (Option.bind_some _ _).symm.trans H; with_reducible exact H2_) | with_reducible exact H | (rw [hy168]; exact H) | exact H
 have Ny168 := Aside0.mk hy168
 clear hy168
 by_cases c8 : y168.length + l4.length < 140737488355328
 ·rw [if_pos c8] at H
  have LMc8 := Aside0.mk c8
  clear c8
  obtain ⟨y171, hy171⟩ : ∃ y_ : List Int, y_ = (y168 ++ l4) := ⟨_, rfl⟩
  replace H : ((some (([] : List Int) : List Int)).bind fun y174 => (if y174.length + l5.length < 140737488355328 then ((proof_VerifyConsistency.f k a0_0 a0_1 a0_2 a0_3 a0_4 a0_5 a1 a2 t165 y171 (y174 ++ l5)).bind fun bt180 => ((impl_verdict.f k bt180.1 bt180.2.1 bt180.2.2.1 bt180.2.2.2).bind fun bt190 => (some (bt190.1, bt190.2)))) else (none))) = some (r1, r2) := by first | (rw [hy171]; with_reducible exact H) | (have H2_ := (Option.bind_some _ _).symm.trans H; rw [hy171]; with_reducible exact H2_) | (have H2_ := (Option.bind_some _ _).symm.trans H; with_reducible exact H2_) | with_reducible exact H | (rw [hy171]; exact H) | exact H
  have Ny171 := Aside0.mk hy171
  clear hy171
  obtain ⟨y174, hy174⟩ : ∃ y_ : List Int, y_ = (([] : List Int)) := ⟨_, rfl⟩
  replace H : (if y174.length + l5.length < 140737488355328 then ((proof_VerifyConsistency.f k a0_0 a0_1 a0_2 a0_3 a0_4 a0_5 a1 a2 t165 y171 (y174 ++ l5)).bind fun bt180 => ((impl_verdict.f k bt180.1 bt180.2.1 bt180.2.2.1 bt180.2.2.2).bind fun bt190 => (some (bt190.1, bt190.2)))) else (none)) = some (r1, r2) := by first | (rw [hy174]; with_reducible exact H) | (have H2_ := (Option.bind_some _ _).symm.trans H; rw [hy174]; with_reducible exact H2_) | (have H2_ := (Option.bind_some _ _).symm.trans H; with_reducible exact H2_) | with_reducible exact H | (rw [hy174]; exact H) | exact H
  have Ny174 := Aside0.mk hy174
  clear hy174
  by_cases c9 : y174.length + l5.length < 140737488355328
  ·rw [if_pos c9] at H
   have LMc9 := Aside0.mk c9
   clear c9
   obtain ⟨y177, hy177⟩ : ∃ y_ : List Int, y_ = (y174 ++ l5) := ⟨_, rfl⟩
   replace H : ((proof_VerifyConsistency.f k a0_0 a0_1 a0_2 a0_3 a0_4 a0_5 a1 a2 t165 y171 y177).bind fun bt180 => ((impl_verdict.f k bt180.1 bt180.2.1 bt180.2.2.1 bt180.2.2.2).bind fun bt190 => (some (bt190.1, bt190.2)))) = some (r1, r2) := by first | (rw [hy177]; with_reducible exact H) | (have H2_ := (Option.bind_some _ _).symm.trans H; rw [hy177]; with_reducible exact H2_) | (have H2_ := (Option.bind_some _ _).symm.trans H; with_reducible exact H2_) | with_reducible exact H | (rw [hy177]; exact H) | exact H
   have Ny177 := Aside0.mk hy177
   clear hy177
   replace H := Option.bind_eq_some_iff.mp H
   obtain ⟨⟨t180, t181, t184, t187⟩, A100, H⟩ := H
   replace H : ((impl_verdict.f k t180 t181 t184 t187).bind fun bt190 => (some (bt190.1, bt190.2))) = some (r1, r2) := H
   have A10 := Aside0.mk A100
   clear A100
   replace H := Option.bind_eq_some_iff.mp H
   obtain ⟨⟨t190, t191⟩, A110, H⟩ := H
   replace H : (some (t190, t191)) = some (r1, r2) := H
   have A11 := Aside0.mk A110
   clear A110
   simp only [Option.some.injEq, Prod.mk.injEq] at H
   obtain ⟨rfl, rfl⟩ := H
   go_enter Tryd.func18, Tryd.ntmps18
   try go_wp2_with (first | ((with_reducible refine gate_dst (N := 6) rfl ?_); refine box_event ?hg (N := 6) ?hd (cs := #[.int .i64 a0_0, .int .i64 a0_1, .int .i64 a0_2, .int .u64 a0_3, .int .u64 a0_4, .int .u64 a0_5]) (t := 24) ?hr ?_; (case hd => rfl); (case hg => rfl); (case hr => first | (go_simp; done) | (go_simp; rfl)); intro gb164 hg w12 hbox hb; have n0_ := Aside0.mk (below_step bB hb); have n1_ := Aside0.mk (hbox); have n2_ := Aside0.mk ((by rw [hg]; exact (below_size bB) : w.heap.size ≤ gb164)); have n3_ := Aside0.mk ((by rw [hg]; exact (below_size bB) : w.heap.size ≤ gb164)); clear HB; have HB := n0_; have BK164 := n1_; have GW164 := n2_; have GE164 := n3_; clear n0_ n1_ n2_ n3_; clear hb hbox hg))
   have n0_ := Aside0.mk (blk_drew BK164.out)
   have n1_ := Aside0.mk (below_drew1 HB.out)
   clear BK164
   clear HB
   have BK164 := n0_
   have HB := n1_
   clear n0_ n1_
   refine start_ (n := 19) (S := fun w' => w'.cell? ⟨gb164, 0, none⟩ = some (.int .i64 a0_0) ∧ w'.cell? ⟨gb164, 1, none⟩ = some (.int .i64 a0_1) ∧ w'.cell? ⟨gb164, 2, none⟩ = some (.int .i64 a0_2) ∧ w'.cell? ⟨gb164, 3, none⟩ = some (.int .u64 a0_3) ∧ w'.cell? ⟨gb164, 4, none⟩ = some (.int .u64 a0_4) ∧ w'.cell? ⟨gb164, 5, none⟩ = some (.int .u64 a0_5)) (ds := []) #[false, false, false, false, false, false, false, false, false, false, false, false, false, false, false, false, false, false, false] (by kernel_rfl) rfl rfl ⟨(blk_cell BK164.out 0).trans rfl, (blk_cell BK164.out 1).trans rfl, (blk_cell BK164.out 2).trans rfl, (blk_cell BK164.out 3).trans rfl, (blk_cell BK164.out 4).trans rfl, (blk_cell BK164.out 5).trans rfl⟩ (fun hHeld => ?_); refine with_tabW impl_VerifyConsistency.tab1 impl_VerifyConsistency.bits1 (fun HT_ HW_ => ?_)
   generalize w12.drew = w13 at BK164 HB hHeld ⊢
   refine pure_ (i := 3) (N := some 17) (v := ?_) (a' := ?_) #[false, false, false, true, false, false, false, false, false, false, false, false, false, false, false, false, false, false, false] rfl rfl (any_of HT_.out (by kernel_rfl)) (fun _ _ _ h => h) (Or.inl ⟨by rfl, ?_⟩) ?_ ?_
   rotate_left
   ·intro w'
    go_simp
    with_reducible rfl
   rotate_left
   ·simp only [Act.put, List.setIfInBounds_toArray, List.set_cons_zero, List.set_cons_succ, i64_w, i32_w]
    rfl
   refine pure_ (i := 4) (N := some 18) (v := ?_) (a' := ?_) #[false, false, false, true, true, false, false, false, false, false, false, false, false, false, false, false, false, false, false] rfl rfl (any_of HT_.out (by kernel_rfl)) (fun _ _ _ h => h) (Or.inl ⟨by rfl, ?_⟩) ?_ ?_
   rotate_left
   ·intro w'
    go_simp
    with_reducible rfl
   rotate_left
   ·simp only [Act.put, List.setIfInBounds_toArray, List.set_cons_zero, List.set_cons_succ, i64_w, i32_w]
    rfl
   refine pure_ (i := 5) (N := some 19) (v := ?_) (a' := ?_) #[false, false, false, true, true, true, false, false, false, false, false, false, false, false, false, false, false, false, false] rfl rfl (any_of HT_.out (by kernel_rfl)) (fun _ _ _ h => h) (Or.inl ⟨by rfl, ?_⟩) ?_ ?_
   rotate_left
   ·intro w'
    go_simp
    with_reducible rfl
   rotate_left
   ·simp only [Act.put, List.setIfInBounds_toArray, List.set_cons_zero, List.set_cons_succ, i64_w, i32_w]
    rfl
   refine pure_ (i := 8) (N := some 22) (v := ?_) (a' := ?_) #[false, false, false, true, true, true, false, false, true, false, false, false, false, false, false, false, false, false, false] rfl rfl (any_of HT_.out (by kernel_rfl)) (fun _ _ _ h => h) (Or.inl ⟨by rfl, ?_⟩) ?_ ?_
   rotate_left
   ·intro w'
    go_simp
    with_reducible rfl
   rotate_left
   ·simp only [Act.put, List.setIfInBounds_toArray, List.set_cons_zero, List.set_cons_succ, i64_w, i32_w]
    rfl
   refine pure_ (i := 11) (N := some 25) (v := ?_) (a' := ?_) #[false, false, false, true, true, true, false, false, true, false, false, true, false, false, false, false, false, false, false] rfl rfl (any_of HT_.out (by kernel_rfl)) (fun _ _ _ h => h) (Or.inl ⟨by rfl, ?_⟩) ?_ ?_
   rotate_left
   ·intro w'
    go_simp
    with_reducible rfl
   rotate_left
   ·simp only [Act.put, List.setIfInBounds_toArray, List.set_cons_zero, List.set_cons_succ, i64_w, i32_w]
    rfl
   refine take_ (i := 0) (N := some 14) (v := ?_) (a' := ?_) #[true, false, false, true, true, true, false, false, true, false, false, true, false, false, false, false, false, false, false] rfl rfl (take_ofW HT_.out HW_.out (by kernel_rfl)) (fun _ _ _ h => h) (Or.inl ⟨by rfl, ?_⟩) hHeld ?_ ?_
   rotate_left
   ·rintro w' ⟨s0, s1, s2, s3, s4, s5⟩
    go_simp
    with_reducible rfl
   rotate_left
   ·simp only [Act.put, List.setIfInBounds_toArray, List.set_cons_zero, List.set_cons_succ, i64_w, i32_w]
    rfl
   refine pure_ (i := 1) (N := some 15) (v := ?_) (a' := ?_) #[true, true, false, true, true, true, false, false, true, false, false, true, false, false, false, false, false, false, false] rfl rfl (any_of HT_.out (by kernel_rfl)) (fun _ _ _ h => h) (Or.inl ⟨by rfl, ?_⟩) ?_ ?_
   rotate_left
   ·intro w'
    go_simp
    with_reducible rfl
   rotate_left
   ·simp only [Act.put, List.setIfInBounds_toArray, List.set_cons_zero, List.set_cons_succ, i64_w, i32_w]
    rfl
   refine pure_ (i := 2) (N := some 16) (v := ?_) (a' := ?_) #[true, true, true, true, true, true, false, false, true, false, false, true, false, false, false, false, false, false, false] rfl rfl (any_of HT_.out (by kernel_rfl)) (fun _ _ _ h => h) (Or.inl ⟨by rfl, ?_⟩) ?_ ?_
   rotate_left
   ·intro w'
    go_simp
    with_reducible rfl
   rotate_left
   ·simp only [Act.put, List.setIfInBounds_toArray, List.set_cons_zero, List.set_cons_succ, i64_w, i32_w]
    rfl
   refine join_ (σ := Value × Value × Value × Value) 7 #[true, true, true, true, true, true, true, true, true, true, true, true, false, false, false, false, false, false, false] (fun s_ => [(20, s_.1), (21, s_.2.1), (23, s_.2.2.1), (24, s_.2.2.2)]) (fun s_ w' => (w'.cell? ⟨gb164, 0, none⟩ = some (.int .i64 a0_0) ∧ w'.cell? ⟨gb164, 1, none⟩ = some (.int .i64 a0_1) ∧ w'.cell? ⟨gb164, 2, none⟩ = some (.int .i64 a0_2) ∧ w'.cell? ⟨gb164, 3, none⟩ = some (.int .u64 a0_3) ∧ w'.cell? ⟨gb164, 4, none⟩ = some (.int .u64 a0_4) ∧ w'.cell? ⟨gb164, 5, none⟩ = some (.int .u64 a0_5)) ∧ (Kd.S (Kd.slice 5 (Kd.int .u8)) 27 w' w.heap.size (fun k_ => some k_ ≠ (s_.2.2.1 : Value).ownBlock ∧ some k_ ≠ (s_.2.2.2 : Value).ownBlock) s_.1 t165) ∧ (Kd.R (Kd.int .u8) 5 w' w.heap.size (fun k_ => some k_ ≠ (s_.2.2.2 : Value).ownBlock) s_.2.2.1 y171) ∧ (Kd.R (Kd.int .u8) 5 w' w.heap.size (fun k_ => some k_ ≠ (s_.2.2.1 : Value).ownBlock) s_.2.2.2 y174) ∧ (w'.heap[gb164]? = some (.cells #[.int .i64 a0_0, .int .i64 a0_1, .int .i64 a0_2, .int .u64 a0_3, .int .u64 a0_4, .int .u64 a0_5] 24 (0, 0))) ∧ (Below w.heap.size w w')) ?_ ?_
   rotate_left
   ·intro hJ6_7_9_10
    refine join_ (σ := Value × Value × Value) 8 #[true, true, true, true, true, true, true, true, true, true, false, true, false, false, false, false, false, false, false] (fun s_ => [(20, s_.1), (21, s_.2.1), (23, s_.2.2)]) (fun s_ w' => (w'.cell? ⟨gb164, 0, none⟩ = some (.int .i64 a0_0) ∧ w'.cell? ⟨gb164, 1, none⟩ = some (.int .i64 a0_1) ∧ w'.cell? ⟨gb164, 2, none⟩ = some (.int .i64 a0_2) ∧ w'.cell? ⟨gb164, 3, none⟩ = some (.int .u64 a0_3) ∧ w'.cell? ⟨gb164, 4, none⟩ = some (.int .u64 a0_4) ∧ w'.cell? ⟨gb164, 5, none⟩ = some (.int .u64 a0_5)) ∧ (Kd.S (Kd.slice 5 (Kd.int .u8)) 27 w' w.heap.size (fun k_ => some k_ ≠ (s_.2.2 : Value).ownBlock) s_.1 t165) ∧ (Kd.R (Kd.int .u8) 5 w' w.heap.size (fun _ => True) s_.2.2 y171) ∧ (w'.heap[gb164]? = some (.cells #[.int .i64 a0_0, .int .i64 a0_1, .int .i64 a0_2, .int .u64 a0_3, .int .u64 a0_4, .int .u64 a0_5] 24 (0, 0))) ∧ (Below w.heap.size w w')) ?_ ?_
    rotate_left
    ·intro hJ6_7_9
     refine join_ (σ := Value × Value × Value) 8 #[true, true, true, true, true, true, true, true, true, false, true, true, false, false, false, false, false, false, false] (fun s_ => [(20, s_.1), (21, s_.2.1), (24, s_.2.2)]) (fun s_ w' => (w'.cell? ⟨gb164, 0, none⟩ = some (.int .i64 a0_0) ∧ w'.cell? ⟨gb164, 1, none⟩ = some (.int .i64 a0_1) ∧ w'.cell? ⟨gb164, 2, none⟩ = some (.int .i64 a0_2) ∧ w'.cell? ⟨gb164, 3, none⟩ = some (.int .u64 a0_3) ∧ w'.cell? ⟨gb164, 4, none⟩ = some (.int .u64 a0_4) ∧ w'.cell? ⟨gb164, 5, none⟩ = some (.int .u64 a0_5)) ∧ (Kd.S (Kd.slice 5 (Kd.int .u8)) 27 w' w.heap.size (fun k_ => some k_ ≠ (s_.2.1 : Value).ownBlock ∧ some k_ ≠ (s_.2.2 : Value).ownBlock) s_.1 t165) ∧ (Kd.R (Kd.int .u8) 5 w' w.heap.size (fun k_ => some k_ ≠ (s_.2.2 : Value).ownBlock) s_.2.1 y168) ∧ (Kd.R (Kd.int .u8) 5 w' w.heap.size (fun k_ => some k_ ≠ (s_.2.1 : Value).ownBlock) s_.2.2 y174) ∧ (w'.heap[gb164]? = some (.cells #[.int .i64 a0_0, .int .i64 a0_1, .int .i64 a0_2, .int .u64 a0_3, .int .u64 a0_4, .int .u64 a0_5] 24 (0, 0))) ∧ (Below w.heap.size w w')) ?_ ?_
     rotate_left
     ·intro hJ6_7_10
      refine join_ (σ := Value × Value) 9 #[true, true, true, true, true, true, true, true, true, false, false, true, false, false, false, false, false, false, false] (fun s_ => [(20, s_.1), (21, s_.2)]) (fun s_ w' => (w'.cell? ⟨gb164, 0, none⟩ = some (.int .i64 a0_0) ∧ w'.cell? ⟨gb164, 1, none⟩ = some (.int .i64 a0_1) ∧ w'.cell? ⟨gb164, 2, none⟩ = some (.int .i64 a0_2) ∧ w'.cell? ⟨gb164, 3, none⟩ = some (.int .u64 a0_3) ∧ w'.cell? ⟨gb164, 4, none⟩ = some (.int .u64 a0_4) ∧ w'.cell? ⟨gb164, 5, none⟩ = some (.int .u64 a0_5)) ∧ (Kd.S (Kd.slice 5 (Kd.int .u8)) 27 w' w.heap.size (fun k_ => some k_ ≠ (s_.2 : Value).ownBlock) s_.1 t165) ∧ (Kd.R (Kd.int .u8) 5 w' w.heap.size (fun _ => True) s_.2 y168) ∧ (w'.heap[gb164]? = some (.cells #[.int .i64 a0_0, .int .i64 a0_1, .int .i64 a0_2, .int .u64 a0_3, .int .u64 a0_4, .int .u64 a0_5] 24 (0, 0))) ∧ (Below w.heap.size w w')) ?_ ?_
      rotate_left
      ·intro hJ6_7
       refine join_ (σ := Value × Value) 9 #[true, true, true, true, true, true, true, false, true, false, true, true, false, false, false, false, false, false, false] (fun s_ => [(20, s_.1), (24, s_.2)]) (fun s_ w' => (w'.cell? ⟨gb164, 0, none⟩ = some (.int .i64 a0_0) ∧ w'.cell? ⟨gb164, 1, none⟩ = some (.int .i64 a0_1) ∧ w'.cell? ⟨gb164, 2, none⟩ = some (.int .i64 a0_2) ∧ w'.cell? ⟨gb164, 3, none⟩ = some (.int .u64 a0_3) ∧ w'.cell? ⟨gb164, 4, none⟩ = some (.int .u64 a0_4) ∧ w'.cell? ⟨gb164, 5, none⟩ = some (.int .u64 a0_5)) ∧ (Kd.S (Kd.slice 5 (Kd.int .u8)) 27 w' w.heap.size (fun k_ => some k_ ≠ (s_.2 : Value).ownBlock) s_.1 t165) ∧ (Kd.R (Kd.int .u8) 5 w' w.heap.size (fun _ => True) s_.2 y174) ∧ (w'.heap[gb164]? = some (.cells #[.int .i64 a0_0, .int .i64 a0_1, .int .i64 a0_2, .int .u64 a0_3, .int .u64 a0_4, .int .u64 a0_5] 24 (0, 0))) ∧ (Below w.heap.size w w')) ?_ ?_
       rotate_left
       ·intro hJ6_10
        refine join_ (σ := Value × Value) 9 #[true, true, true, true, true, true, false, true, true, false, true, true, false, false, false, false, false, false, false] (fun s_ => [(21, s_.1), (24, s_.2)]) (fun s_ w' => (w'.cell? ⟨gb164, 0, none⟩ = some (.int .i64 a0_0) ∧ w'.cell? ⟨gb164, 1, none⟩ = some (.int .i64 a0_1) ∧ w'.cell? ⟨gb164, 2, none⟩ = some (.int .i64 a0_2) ∧ w'.cell? ⟨gb164, 3, none⟩ = some (.int .u64 a0_3) ∧ w'.cell? ⟨gb164, 4, none⟩ = some (.int .u64 a0_4) ∧ w'.cell? ⟨gb164, 5, none⟩ = some (.int .u64 a0_5)) ∧ (Kd.R (Kd.int .u8) 5 w' w.heap.size (fun k_ => some k_ ≠ (s_.2 : Value).ownBlock) s_.1 y168) ∧ (Kd.R (Kd.int .u8) 5 w' w.heap.size (fun k_ => some k_ ≠ (s_.1 : Value).ownBlock) s_.2 y174) ∧ (w'.heap[gb164]? = some (.cells #[.int .i64 a0_0, .int .i64 a0_1, .int .i64 a0_2, .int .u64 a0_3, .int .u64 a0_4, .int .u64 a0_5] 24 (0, 0))) ∧ (Below w.heap.size w w')) ?_ ?_
        rotate_left
        ·intro hJ7_10
         refine join_ (σ := Value) 10 #[true, true, true, true, true, true, true, false, true, false, false, true, false, false, false, false, false, false, false] (fun s_ => [(20, s_)]) (fun s_ w' => (w'.cell? ⟨gb164, 0, none⟩ = some (.int .i64 a0_0) ∧ w'.cell? ⟨gb164, 1, none⟩ = some (.int .i64 a0_1) ∧ w'.cell? ⟨gb164, 2, none⟩ = some (.int .i64 a0_2) ∧ w'.cell? ⟨gb164, 3, none⟩ = some (.int .u64 a0_3) ∧ w'.cell? ⟨gb164, 4, none⟩ = some (.int .u64 a0_4) ∧ w'.cell? ⟨gb164, 5, none⟩ = some (.int .u64 a0_5)) ∧ (Kd.S (Kd.slice 5 (Kd.int .u8)) 27 w' w.heap.size (fun _ => True) s_ t165) ∧ (w'.heap[gb164]? = some (.cells #[.int .i64 a0_0, .int .i64 a0_1, .int .i64 a0_2, .int .u64 a0_3, .int .u64 a0_4, .int .u64 a0_5] 24 (0, 0))) ∧ (Below w.heap.size w w')) ?_ ?_
         rotate_left
         ·intro hJ6
          refine join_ (σ := Value) 10 #[true, true, true, true, true, true, false, true, true, false, false, true, false, false, false, false, false, false, false] (fun s_ => [(21, s_)]) (fun s_ w' => (w'.cell? ⟨gb164, 0, none⟩ = some (.int .i64 a0_0) ∧ w'.cell? ⟨gb164, 1, none⟩ = some (.int .i64 a0_1) ∧ w'.cell? ⟨gb164, 2, none⟩ = some (.int .i64 a0_2) ∧ w'.cell? ⟨gb164, 3, none⟩ = some (.int .u64 a0_3) ∧ w'.cell? ⟨gb164, 4, none⟩ = some (.int .u64 a0_4) ∧ w'.cell? ⟨gb164, 5, none⟩ = some (.int .u64 a0_5)) ∧ (Kd.R (Kd.int .u8) 5 w' w.heap.size (fun _ => True) s_ y168) ∧ (w'.heap[gb164]? = some (.cells #[.int .i64 a0_0, .int .i64 a0_1, .int .i64 a0_2, .int .u64 a0_3, .int .u64 a0_4, .int .u64 a0_5] 24 (0, 0))) ∧ (Below w.heap.size w w')) ?_ ?_
          rotate_left
          ·intro hJ7
           refine join_ (σ := Value) 10 #[true, true, true, true, true, true, false, false, true, false, true, true, false, false, false, false, false, false, false] (fun s_ => [(24, s_)]) (fun s_ w' => (w'.cell? ⟨gb164, 0, none⟩ = some (.int .i64 a0_0) ∧ w'.cell? ⟨gb164, 1, none⟩ = some (.int .i64 a0_1) ∧ w'.cell? ⟨gb164, 2, none⟩ = some (.int .i64 a0_2) ∧ w'.cell? ⟨gb164, 3, none⟩ = some (.int .u64 a0_3) ∧ w'.cell? ⟨gb164, 4, none⟩ = some (.int .u64 a0_4) ∧ w'.cell? ⟨gb164, 5, none⟩ = some (.int .u64 a0_5)) ∧ (Kd.R (Kd.int .u8) 5 w' w.heap.size (fun _ => True) s_ y174) ∧ (w'.heap[gb164]? = some (.cells #[.int .i64 a0_0, .int .i64 a0_1, .int .i64 a0_2, .int .u64 a0_3, .int .u64 a0_4, .int .u64 a0_5] 24 (0, 0))) ∧ (Below w.heap.size w w')) ?_ ?_
           rotate_left
           ·intro hJ10
            refine three_ (i := 6) (j := 7) (k := 10) (Ni := some 20) (Nj := some 21) (Nk := some 24) #[true, true, true, true, true, true, true, false, true, false, false, true, false, false, false, false, false, false, false] #[true, true, true, true, true, true, false, true, true, false, false, true, false, false, false, false, false, false, false] #[true, true, true, true, true, true, false, false, true, false, true, true, false, false, false, false, false, false, false] rfl rfl rfl rfl rfl rfl (three_of HT_.out (by kernel_rfl)) (by decide) (by decide) (by decide) (fun K hK => ?_) (fun K hK => ?_) (fun K hK => ?_)
            ·skip
             refine goes_ Tryd.func46 (by kernel_rfl) rfl #[.slice A3 l3.length c3] (by rfl) rfl rfl aV ?_
             with_reducible refine (impl_texts.calls k _ _ l3 t165 _ ?side1 ?side2 A7.out).mono ?_
             (case side1 => repeat (first | exact (Kd.C_below HR3.out HB.out) | (with_reducible refine Kd.C_alloc ?_ _) | (with_reducible refine Kd.C_drewN ?_ _) | (with_reducible refine Kd.C_drew ?_)))
             (case side2 => exact HC3.out)
             rintro e w14 ⟨v166, rfl, ho0, hb⟩
             refine ⟨_, rfl, ?_⟩
             have n0_ := Aside0.mk (Kd.S_lower ho0 (below_size bB))
             have n1_ := Aside0.mk (blk_below (g := gb164) (o := .cells #[.int .i64 a0_0, .int .i64 a0_1, .int .i64 a0_2, .int .u64 a0_3, .int .u64 a0_4, .int .u64 a0_5] 24 (0, 0)) (kB BK164.out) hb)
             have n2_ := Aside0.mk (below_step bB hb)
             clear BK164
             clear HB
             have HO167 := n0_
             have BK164 := n1_
             have HB := n2_
             clear n0_ n1_ n2_
             (try clear hb)
             (try clear hb2)
             (try clear hk)
             (try clear hi)
             (try clear ho0)
             refine hK.out _ _ ⟨(blk_cell BK164.out 0).trans rfl, (blk_cell BK164.out 1).trans rfl, (blk_cell BK164.out 2).trans rfl, (blk_cell BK164.out 3).trans rfl, (blk_cell BK164.out 4).trans rfl, (blk_cell BK164.out 5).trans rfl⟩ (fun hHeld => ?_)
             clear hK K
             refine norm_ (a' := ?_) ?_ ?_
             rotate_left
             ·show Act.put _ (some 20) _ = _
              simp only [Act.put, List.setIfInBounds_toArray, List.set_cons_zero, List.set_cons_succ, i64_w, i32_w]
              rfl
             exact norm_ (by first | (simp only [putAll, Act.put, List.setIfInBounds_toArray, List.set_cons_zero, List.set_cons_succ]; done) | (simp only [putAll, Act.put, List.setIfInBounds_toArray, List.set_cons_zero, List.set_cons_succ]; rfl)) (hJ6 (v166) _ ⟨hHeld, (by (with_reducible repeat (first | apply Kd.S_alloc | apply Kd.S_drewN | apply Kd.S_drew)); exact HO167.out), (kB BK164.out), bB⟩)
            ·skip
             refine Kd.R_lit_step (Kd.int .u8) _ 5 ?hg (N := 21) ?hd (xs := ([] : List Int)) (inner := []) (ok := fun _ => True) (okp := fun _ => True) ?hr ?hp (fun _ hk => hk) trivial (Below.refl _ _) (Nat.le_refl _) (by simp) ?_; (case hd => rfl); (case hg => rfl); (case hr => first | (go_simp; done) | (go_simp; rfl)); (case hp => exact (Reps.none _ _))
             intro v169 w14 ho15 hb hg_ hnew_
             clear hg_ hnew_
             (first | rw [← Ny168.out] at ho15 | (simp only [Int.reduceToNat] at ho15; rw [← Ny168.out] at ho15))
             have n0_ := Aside0.mk (Kd.R_lower ho15 (below_size bB))
             have n1_ := Aside0.mk (blk_below (g := gb164) (o := .cells #[.int .i64 a0_0, .int .i64 a0_1, .int .i64 a0_2, .int .u64 a0_3, .int .u64 a0_4, .int .u64 a0_5] 24 (0, 0)) (kB BK164.out) hb)
             have n2_ := Aside0.mk (below_step bB hb)
             clear BK164
             clear HB
             have HO170 := n0_
             have BK164 := n1_
             have HB := n2_
             clear n0_ n1_ n2_
             clear hb ho15
             refine hK.out _ _ ⟨(blk_cell BK164.out 0).trans rfl, (blk_cell BK164.out 1).trans rfl, (blk_cell BK164.out 2).trans rfl, (blk_cell BK164.out 3).trans rfl, (blk_cell BK164.out 4).trans rfl, (blk_cell BK164.out 5).trans rfl⟩ (fun hHeld => ?_)
             clear hK K
             refine norm_ (a' := ?_) ?_ ?_
             rotate_left
             ·show Act.put _ (some 21) _ = _
              simp only [Act.put, List.setIfInBounds_toArray, List.set_cons_zero, List.set_cons_succ, i64_w, i32_w]
              rfl
             exact norm_ (by first | (simp only [putAll, Act.put, List.setIfInBounds_toArray, List.set_cons_zero, List.set_cons_succ]; done) | (simp only [putAll, Act.put, List.setIfInBounds_toArray, List.set_cons_zero, List.set_cons_succ]; rfl)) (hJ7 (v169) _ ⟨hHeld, (kR HO170.out), (kB BK164.out), bB⟩)
            ·skip
             refine Kd.R_lit_step (Kd.int .u8) _ 5 ?hg (N := 24) ?hd (xs := ([] : List Int)) (inner := []) (ok := fun _ => True) (okp := fun _ => True) ?hr ?hp (fun _ hk => hk) trivial (Below.refl _ _) (Nat.le_refl _) (by simp) ?_; (case hd => rfl); (case hg => rfl); (case hr => first | (go_simp; done) | (go_simp; rfl)); (case hp => exact (Reps.none _ _))
             intro v175 w14 ho15 hb hg_ hnew_
             clear hg_ hnew_
             (first | rw [← Ny174.out] at ho15 | (simp only [Int.reduceToNat] at ho15; rw [← Ny174.out] at ho15))
             have n0_ := Aside0.mk (Kd.R_lower ho15 (below_size bB))
             have n1_ := Aside0.mk (blk_below (g := gb164) (o := .cells #[.int .i64 a0_0, .int .i64 a0_1, .int .i64 a0_2, .int .u64 a0_3, .int .u64 a0_4, .int .u64 a0_5] 24 (0, 0)) (kB BK164.out) hb)
             have n2_ := Aside0.mk (below_step bB hb)
             clear BK164
             clear HB
             have HO176 := n0_
             have BK164 := n1_
             have HB := n2_
             clear n0_ n1_ n2_
             clear hb ho15
             refine hK.out _ _ ⟨(blk_cell BK164.out 0).trans rfl, (blk_cell BK164.out 1).trans rfl, (blk_cell BK164.out 2).trans rfl, (blk_cell BK164.out 3).trans rfl, (blk_cell BK164.out 4).trans rfl, (blk_cell BK164.out 5).trans rfl⟩ (fun hHeld => ?_)
             clear hK K
             refine norm_ (a' := ?_) ?_ ?_
             rotate_left
             ·show Act.put _ (some 24) _ = _
              simp only [Act.put, List.setIfInBounds_toArray, List.set_cons_zero, List.set_cons_succ, i64_w, i32_w]
              rfl
             exact norm_ (by first | (simp only [putAll, Act.put, List.setIfInBounds_toArray, List.set_cons_zero, List.set_cons_succ]; done) | (simp only [putAll, Act.put, List.setIfInBounds_toArray, List.set_cons_zero, List.set_cons_succ]; rfl)) (hJ10 (v175) _ ⟨hHeld, (kR HO176.out), (kB BK164.out), bB⟩)
           ·skip
            rintro v175 w16 ⟨hS_, h0_, h1_, h2_⟩
            have n0_ : Aside0 (Kd.R (Kd.int .u8) 5 w16 w.heap.size (fun _ => True) v175 y174) := ⟨h0_⟩
            have n1_ : Aside0 (w16.heap[gb164]? = some (.cells #[.int .i64 a0_0, .int .i64 a0_1, .int .i64 a0_2, .int .u64 a0_3, .int .u64 a0_4, .int .u64 a0_5] 24 (0, 0))) := ⟨h1_⟩
            have n2_ : Aside0 (Below w.heap.size w w16) := ⟨h2_⟩
            clear BK164
            clear HB
            clear h0_ h1_ h2_
            have HO176 := n0_
            have BK164 := n1_
            have HB := n2_
            clear n0_ n1_ n2_
            have hHeld : w16.cell? ⟨gb164, 0, none⟩ = some (.int .i64 a0_0) ∧ w16.cell? ⟨gb164, 1, none⟩ = some (.int .i64 a0_1) ∧ w16.cell? ⟨gb164, 2, none⟩ = some (.int .i64 a0_2) ∧ w16.cell? ⟨gb164, 3, none⟩ = some (.int .u64 a0_3) ∧ w16.cell? ⟨gb164, 4, none⟩ = some (.int .u64 a0_4) ∧ w16.cell? ⟨gb164, 5, none⟩ = some (.int .u64 a0_5) := hS_
            refine norm_ (a' := ?_) ?_ ?_
            rotate_left
            ·simp only [putAll, Act.put, List.setIfInBounds_toArray, List.set_cons_zero, List.set_cons_succ]
             rfl
            refine two_ (i := 6) (j := 7) (Ni := some 20) (Nj := some 21) #[true, true, true, true, true, true, true, false, true, false, true, true, false, false, false, false, false, false, false] #[true, true, true, true, true, true, false, true, true, false, true, true, false, false, false, false, false, false, false] rfl rfl rfl rfl (two_of HT_.out (by kernel_rfl)) (by decide) (by decide) (fun K hK => ?_) (fun K hK => ?_)
            ·skip
             refine goes_ Tryd.func46 (by kernel_rfl) rfl #[.slice A3 l3.length c3] (by rfl) rfl rfl aV ?_
             with_reducible refine (impl_texts.calls k _ _ l3 t165 _ ?side1 ?side2 A7.out).mono ?_
             (case side1 => repeat (first | exact (Kd.C_below HR3.out HB.out) | (with_reducible refine Kd.C_alloc ?_ _) | (with_reducible refine Kd.C_drewN ?_ _) | (with_reducible refine Kd.C_drew ?_)))
             (case side2 => exact HC3.out)
             rintro e w17 ⟨v166, rfl, ho0, hb⟩
             refine ⟨_, rfl, ?_⟩
             have n0_ := Aside0.mk (Kd.R_below (kR HO176.out) hb)
             have n1_ := Aside0.mk (Kd.S_lower (Kd.S_new' ho0 (Kd.R_lt (kR HO176.out))) (below_size bB))
             have n2_ := Aside0.mk (blk_below (g := gb164) (o := .cells #[.int .i64 a0_0, .int .i64 a0_1, .int .i64 a0_2, .int .u64 a0_3, .int .u64 a0_4, .int .u64 a0_5] 24 (0, 0)) (kB BK164.out) hb)
             have n3_ := Aside0.mk (below_step bB hb)
             clear HO176
             clear BK164
             clear HB
             have HO176 := n0_
             have HO167 := n1_
             have BK164 := n2_
             have HB := n3_
             clear n0_ n1_ n2_ n3_
             (try clear hb)
             (try clear hb2)
             (try clear hk)
             (try clear hi)
             (try clear ho0)
             refine hK.out _ _ ⟨(blk_cell BK164.out 0).trans rfl, (blk_cell BK164.out 1).trans rfl, (blk_cell BK164.out 2).trans rfl, (blk_cell BK164.out 3).trans rfl, (blk_cell BK164.out 4).trans rfl, (blk_cell BK164.out 5).trans rfl⟩ (fun hHeld => ?_)
             clear hK K
             refine norm_ (a' := ?_) ?_ ?_
             rotate_left
             ·show Act.put _ (some 20) _ = _
              simp only [Act.put, List.setIfInBounds_toArray, List.set_cons_zero, List.set_cons_succ, i64_w, i32_w]
              rfl
             exact norm_ (by first | (simp only [putAll, Act.put, List.setIfInBounds_toArray, List.set_cons_zero, List.set_cons_succ]; done) | (simp only [putAll, Act.put, List.setIfInBounds_toArray, List.set_cons_zero, List.set_cons_succ]; rfl)) (hJ6_10 (v166, v175) _ ⟨hHeld, (by (with_reducible repeat (first | apply Kd.S_alloc | apply Kd.S_drewN | apply Kd.S_drew)); exact Kd.S_mono HO167.out (fun _ hk => hk.2)), (kR HO176.out), (kB BK164.out), bB⟩)
            ·skip
             refine Kd.R_lit_step (Kd.int .u8) _ 5 ?hg (N := 21) ?hd (xs := ([] : List Int)) (inner := []) (ok := fun _ => True) (okp := fun _ => True) ?hr ?hp (fun _ hk => hk) trivial (Below.refl _ _) (Nat.le_refl _) (by simp) ?_; (case hd => rfl); (case hg => rfl); (case hr => first | (go_simp; done) | (go_simp; rfl)); (case hp => exact (Reps.none _ _))
             intro v169 w17 ho18 hb hg_ hnew_
             clear hg_ hnew_
             (first | rw [← Ny168.out] at ho18 | (simp only [Int.reduceToNat] at ho18; rw [← Ny168.out] at ho18))
             have n0_ := Aside0.mk (Kd.R_elder' (kR HO176.out) (Kd.R_base ho18) hb)
             have n1_ := Aside0.mk (Kd.R_lower (Kd.R_new' ho18 (Kd.R_lt (kR HO176.out))) (below_size bB))
             have n2_ := Aside0.mk (blk_below (g := gb164) (o := .cells #[.int .i64 a0_0, .int .i64 a0_1, .int .i64 a0_2, .int .u64 a0_3, .int .u64 a0_4, .int .u64 a0_5] 24 (0, 0)) (kB BK164.out) hb)
             have n3_ := Aside0.mk (below_step bB hb)
             clear HO176
             clear BK164
             clear HB
             have HO176 := n0_
             have HO170 := n1_
             have BK164 := n2_
             have HB := n3_
             clear n0_ n1_ n2_ n3_
             clear hb ho18
             refine hK.out _ _ ⟨(blk_cell BK164.out 0).trans rfl, (blk_cell BK164.out 1).trans rfl, (blk_cell BK164.out 2).trans rfl, (blk_cell BK164.out 3).trans rfl, (blk_cell BK164.out 4).trans rfl, (blk_cell BK164.out 5).trans rfl⟩ (fun hHeld => ?_)
             clear hK K
             refine norm_ (a' := ?_) ?_ ?_
             rotate_left
             ·show Act.put _ (some 21) _ = _
              simp only [Act.put, List.setIfInBounds_toArray, List.set_cons_zero, List.set_cons_succ, i64_w, i32_w]
              rfl
             exact norm_ (by first | (simp only [putAll, Act.put, List.setIfInBounds_toArray, List.set_cons_zero, List.set_cons_succ]; done) | (simp only [putAll, Act.put, List.setIfInBounds_toArray, List.set_cons_zero, List.set_cons_succ]; rfl)) (hJ7_10 (v169, v175) _ ⟨hHeld, (by (with_reducible repeat (first | apply Kd.R_alloc | apply Kd.R_drewN | apply Kd.R_drew)); exact Kd.R_mono HO170.out (fun _ hk => hk.2)), (by (with_reducible repeat (first | apply Kd.R_alloc | apply Kd.R_drewN | apply Kd.R_drew)); exact Kd.R_mono HO176.out (fun _ hk => hk.2)), (kB BK164.out), bB⟩)
          ·skip
           rintro v169 w16 ⟨hS_, h0_, h1_, h2_⟩
           have n0_ : Aside0 (Kd.R (Kd.int .u8) 5 w16 w.heap.size (fun _ => True) v169 y168) := ⟨h0_⟩
           have n1_ : Aside0 (w16.heap[gb164]? = some (.cells #[.int .i64 a0_0, .int .i64 a0_1, .int .i64 a0_2, .int .u64 a0_3, .int .u64 a0_4, .int .u64 a0_5] 24 (0, 0))) := ⟨h1_⟩
           have n2_ : Aside0 (Below w.heap.size w w16) := ⟨h2_⟩
           clear BK164
           clear HB
           clear h0_ h1_ h2_
           have HO170 := n0_
           have BK164 := n1_
           have HB := n2_
           clear n0_ n1_ n2_
           have hHeld : w16.cell? ⟨gb164, 0, none⟩ = some (.int .i64 a0_0) ∧ w16.cell? ⟨gb164, 1, none⟩ = some (.int .i64 a0_1) ∧ w16.cell? ⟨gb164, 2, none⟩ = some (.int .i64 a0_2) ∧ w16.cell? ⟨gb164, 3, none⟩ = some (.int .u64 a0_3) ∧ w16.cell? ⟨gb164, 4, none⟩ = some (.int .u64 a0_4) ∧ w16.cell? ⟨gb164, 5, none⟩ = some (.int .u64 a0_5) := hS_
           refine norm_ (a' := ?_) ?_ ?_
           rotate_left
           ·simp only [putAll, Act.put, List.setIfInBounds_toArray, List.set_cons_zero, List.set_cons_succ]
            rfl
           refine two_ (i := 6) (j := 10) (Ni := some 20) (Nj := some 24) #[true, true, true, true, true, true, true, true, true, false, false, true, false, false, false, false, false, false, false] #[true, true, true, true, true, true, false, true, true, false, true, true, false, false, false, false, false, false, false] rfl rfl rfl rfl (two_of HT_.out (by kernel_rfl)) (by decide) (by decide) (fun K hK => ?_) (fun K hK => ?_)
           ·skip
            refine goes_ Tryd.func46 (by kernel_rfl) rfl #[.slice A3 l3.length c3] (by rfl) rfl rfl aV ?_
            with_reducible refine (impl_texts.calls k _ _ l3 t165 _ ?side1 ?side2 A7.out).mono ?_
            (case side1 => repeat (first | exact (Kd.C_below HR3.out HB.out) | (with_reducible refine Kd.C_alloc ?_ _) | (with_reducible refine Kd.C_drewN ?_ _) | (with_reducible refine Kd.C_drew ?_)))
            (case side2 => exact HC3.out)
            rintro e w17 ⟨v166, rfl, ho0, hb⟩
            refine ⟨_, rfl, ?_⟩
            have n0_ := Aside0.mk (Kd.R_below (kR HO170.out) hb)
            have n1_ := Aside0.mk (Kd.S_lower (Kd.S_new' ho0 (Kd.R_lt (kR HO170.out))) (below_size bB))
            have n2_ := Aside0.mk (blk_below (g := gb164) (o := .cells #[.int .i64 a0_0, .int .i64 a0_1, .int .i64 a0_2, .int .u64 a0_3, .int .u64 a0_4, .int .u64 a0_5] 24 (0, 0)) (kB BK164.out) hb)
            have n3_ := Aside0.mk (below_step bB hb)
            clear HO170
            clear BK164
            clear HB
            have HO170 := n0_
            have HO167 := n1_
            have BK164 := n2_
            have HB := n3_
            clear n0_ n1_ n2_ n3_
            (try clear hb)
            (try clear hb2)
            (try clear hk)
            (try clear hi)
            (try clear ho0)
            refine hK.out _ _ ⟨(blk_cell BK164.out 0).trans rfl, (blk_cell BK164.out 1).trans rfl, (blk_cell BK164.out 2).trans rfl, (blk_cell BK164.out 3).trans rfl, (blk_cell BK164.out 4).trans rfl, (blk_cell BK164.out 5).trans rfl⟩ (fun hHeld => ?_)
            clear hK K
            refine norm_ (a' := ?_) ?_ ?_
            rotate_left
            ·show Act.put _ (some 20) _ = _
             simp only [Act.put, List.setIfInBounds_toArray, List.set_cons_zero, List.set_cons_succ, i64_w, i32_w]
             rfl
            exact norm_ (by first | (simp only [putAll, Act.put, List.setIfInBounds_toArray, List.set_cons_zero, List.set_cons_succ]; done) | (simp only [putAll, Act.put, List.setIfInBounds_toArray, List.set_cons_zero, List.set_cons_succ]; rfl)) (hJ6_7 (v166, v169) _ ⟨hHeld, (by (with_reducible repeat (first | apply Kd.S_alloc | apply Kd.S_drewN | apply Kd.S_drew)); exact Kd.S_mono HO167.out (fun _ hk => hk.2)), (kR HO170.out), (kB BK164.out), bB⟩)
           ·skip
            refine Kd.R_lit_step (Kd.int .u8) _ 5 ?hg (N := 24) ?hd (xs := ([] : List Int)) (inner := []) (ok := fun _ => True) (okp := fun _ => True) ?hr ?hp (fun _ hk => hk) trivial (Below.refl _ _) (Nat.le_refl _) (by simp) ?_; (case hd => rfl); (case hg => rfl); (case hr => first | (go_simp; done) | (go_simp; rfl)); (case hp => exact (Reps.none _ _))
            intro v175 w17 ho18 hb hg_ hnew_
            clear hg_ hnew_
            (first | rw [← Ny174.out] at ho18 | (simp only [Int.reduceToNat] at ho18; rw [← Ny174.out] at ho18))
            have n0_ := Aside0.mk (Kd.R_elder' (kR HO170.out) (Kd.R_base ho18) hb)
            have n1_ := Aside0.mk (Kd.R_lower (Kd.R_new' ho18 (Kd.R_lt (kR HO170.out))) (below_size bB))
            have n2_ := Aside0.mk (blk_below (g := gb164) (o := .cells #[.int .i64 a0_0, .int .i64 a0_1, .int .i64 a0_2, .int .u64 a0_3, .int .u64 a0_4, .int .u64 a0_5] 24 (0, 0)) (kB BK164.out) hb)
            have n3_ := Aside0.mk (below_step bB hb)
            clear HO170
            clear BK164
            clear HB
            have HO170 := n0_
            have HO176 := n1_
            have BK164 := n2_
            have HB := n3_
            clear n0_ n1_ n2_ n3_
            clear hb ho18
            refine hK.out _ _ ⟨(blk_cell BK164.out 0).trans rfl, (blk_cell BK164.out 1).trans rfl, (blk_cell BK164.out 2).trans rfl, (blk_cell BK164.out 3).trans rfl, (blk_cell BK164.out 4).trans rfl, (blk_cell BK164.out 5).trans rfl⟩ (fun hHeld => ?_)
            clear hK K
            refine norm_ (a' := ?_) ?_ ?_
            rotate_left
            ·show Act.put _ (some 24) _ = _
             simp only [Act.put, List.setIfInBounds_toArray, List.set_cons_zero, List.set_cons_succ, i64_w, i32_w]
             rfl
            exact norm_ (by first | (simp only [putAll, Act.put, List.setIfInBounds_toArray, List.set_cons_zero, List.set_cons_succ]; done) | (simp only [putAll, Act.put, List.setIfInBounds_toArray, List.set_cons_zero, List.set_cons_succ]; rfl)) (hJ7_10 (v169, v175) _ ⟨hHeld, (by (with_reducible repeat (first | apply Kd.R_alloc | apply Kd.R_drewN | apply Kd.R_drew)); exact Kd.R_mono HO170.out (fun _ hk => hk.2)), (by (with_reducible repeat (first | apply Kd.R_alloc | apply Kd.R_drewN | apply Kd.R_drew)); exact Kd.R_mono HO176.out (fun _ hk => hk.2)), (kB BK164.out), bB⟩)
         ·skip
          rintro v166 w15 ⟨hS_, h0_, h1_, h2_⟩
          have n0_ : Aside0 (Kd.S (Kd.slice 5 (Kd.int .u8)) 27 w15 w.heap.size (fun _ => True) v166 t165) := ⟨h0_⟩
          have n1_ : Aside0 (w15.heap[gb164]? = some (.cells #[.int .i64 a0_0, .int .i64 a0_1, .int .i64 a0_2, .int .u64 a0_3, .int .u64 a0_4, .int .u64 a0_5] 24 (0, 0))) := ⟨h1_⟩
          have n2_ : Aside0 (Below w.heap.size w w15) := ⟨h2_⟩
          clear BK164
          clear HB
          clear h0_ h1_ h2_
          have HO167 := n0_
          have BK164 := n1_
          have HB := n2_
          clear n0_ n1_ n2_
          have hHeld : w15.cell? ⟨gb164, 0, none⟩ = some (.int .i64 a0_0) ∧ w15.cell? ⟨gb164, 1, none⟩ = some (.int .i64 a0_1) ∧ w15.cell? ⟨gb164, 2, none⟩ = some (.int .i64 a0_2) ∧ w15.cell? ⟨gb164, 3, none⟩ = some (.int .u64 a0_3) ∧ w15.cell? ⟨gb164, 4, none⟩ = some (.int .u64 a0_4) ∧ w15.cell? ⟨gb164, 5, none⟩ = some (.int .u64 a0_5) := hS_
          refine norm_ (a' := ?_) ?_ ?_
          rotate_left
          ·simp only [putAll, Act.put, List.setIfInBounds_toArray, List.set_cons_zero, List.set_cons_succ]
           rfl
          refine two_ (i := 7) (j := 10) (Ni := some 21) (Nj := some 24) #[true, true, true, true, true, true, true, true, true, false, false, true, false, false, false, false, false, false, false] #[true, true, true, true, true, true, true, false, true, false, true, true, false, false, false, false, false, false, false] rfl rfl rfl rfl (two_of HT_.out (by kernel_rfl)) (by decide) (by decide) (fun K hK => ?_) (fun K hK => ?_)
          ·skip
           refine Kd.R_lit_step (Kd.int .u8) _ 5 ?hg (N := 21) ?hd (xs := ([] : List Int)) (inner := []) (ok := fun _ => True) (okp := fun _ => True) ?hr ?hp (fun _ hk => hk) trivial (Below.refl _ _) (Nat.le_refl _) (by simp) ?_; (case hd => rfl); (case hg => rfl); (case hr => first | (go_simp; done) | (go_simp; rfl)); (case hp => exact (Reps.none _ _))
           intro v169 w16 ho17 hb hg_ hnew_
           clear hg_ hnew_
           (first | rw [← Ny168.out] at ho17 | (simp only [Int.reduceToNat] at ho17; rw [← Ny168.out] at ho17))
           have n0_ := Aside0.mk (Kd.S_elder' (by (with_reducible repeat (first | apply Kd.S_alloc | apply Kd.S_drewN | apply Kd.S_drew)); exact HO167.out) (Kd.R_base ho17) hb)
           have n1_ := Aside0.mk (Kd.R_lower ho17 (below_size bB))
           have n2_ := Aside0.mk (blk_below (g := gb164) (o := .cells #[.int .i64 a0_0, .int .i64 a0_1, .int .i64 a0_2, .int .u64 a0_3, .int .u64 a0_4, .int .u64 a0_5] 24 (0, 0)) (kB BK164.out) hb)
           have n3_ := Aside0.mk (below_step bB hb)
           clear HO167
           clear BK164
           clear HB
           have HO167 := n0_
           have HO170 := n1_
           have BK164 := n2_
           have HB := n3_
           clear n0_ n1_ n2_ n3_
           clear hb ho17
           refine hK.out _ _ ⟨(blk_cell BK164.out 0).trans rfl, (blk_cell BK164.out 1).trans rfl, (blk_cell BK164.out 2).trans rfl, (blk_cell BK164.out 3).trans rfl, (blk_cell BK164.out 4).trans rfl, (blk_cell BK164.out 5).trans rfl⟩ (fun hHeld => ?_)
           clear hK K
           refine norm_ (a' := ?_) ?_ ?_
           rotate_left
           ·show Act.put _ (some 21) _ = _
            simp only [Act.put, List.setIfInBounds_toArray, List.set_cons_zero, List.set_cons_succ, i64_w, i32_w]
            rfl
           exact norm_ (by first | (simp only [putAll, Act.put, List.setIfInBounds_toArray, List.set_cons_zero, List.set_cons_succ]; done) | (simp only [putAll, Act.put, List.setIfInBounds_toArray, List.set_cons_zero, List.set_cons_succ]; rfl)) (hJ6_7 (v166, v169) _ ⟨hHeld, (by (with_reducible repeat (first | apply Kd.S_alloc | apply Kd.S_drewN | apply Kd.S_drew)); exact Kd.S_mono HO167.out (fun _ hk => hk.2)), (kR HO170.out), (kB BK164.out), bB⟩)
          ·skip
           refine Kd.R_lit_step (Kd.int .u8) _ 5 ?hg (N := 24) ?hd (xs := ([] : List Int)) (inner := []) (ok := fun _ => True) (okp := fun _ => True) ?hr ?hp (fun _ hk => hk) trivial (Below.refl _ _) (Nat.le_refl _) (by simp) ?_; (case hd => rfl); (case hg => rfl); (case hr => first | (go_simp; done) | (go_simp; rfl)); (case hp => exact (Reps.none _ _))
           intro v175 w16 ho17 hb hg_ hnew_
           clear hg_ hnew_
           (first | rw [← Ny174.out] at ho17 | (simp only [Int.reduceToNat] at ho17; rw [← Ny174.out] at ho17))
           have n0_ := Aside0.mk (Kd.S_elder' (by (with_reducible repeat (first | apply Kd.S_alloc | apply Kd.S_drewN | apply Kd.S_drew)); exact HO167.out) (Kd.R_base ho17) hb)
           have n1_ := Aside0.mk (Kd.R_lower ho17 (below_size bB))
           have n2_ := Aside0.mk (blk_below (g := gb164) (o := .cells #[.int .i64 a0_0, .int .i64 a0_1, .int .i64 a0_2, .int .u64 a0_3, .int .u64 a0_4, .int .u64 a0_5] 24 (0, 0)) (kB BK164.out) hb)
           have n3_ := Aside0.mk (below_step bB hb)
           clear HO167
           clear BK164
           clear HB
           have HO167 := n0_
           have HO176 := n1_
           have BK164 := n2_
           have HB := n3_
           clear n0_ n1_ n2_ n3_
           clear hb ho17
           refine hK.out _ _ ⟨(blk_cell BK164.out 0).trans rfl, (blk_cell BK164.out 1).trans rfl, (blk_cell BK164.out 2).trans rfl, (blk_cell BK164.out 3).trans rfl, (blk_cell BK164.out 4).trans rfl, (blk_cell BK164.out 5).trans rfl⟩ (fun hHeld => ?_)
           clear hK K
           refine norm_ (a' := ?_) ?_ ?_
           rotate_left
           ·show Act.put _ (some 24) _ = _
            simp only [Act.put, List.setIfInBounds_toArray, List.set_cons_zero, List.set_cons_succ, i64_w, i32_w]
            rfl
           exact norm_ (by first | (simp only [putAll, Act.put, List.setIfInBounds_toArray, List.set_cons_zero, List.set_cons_succ]; done) | (simp only [putAll, Act.put, List.setIfInBounds_toArray, List.set_cons_zero, List.set_cons_succ]; rfl)) (hJ6_10 (v166, v175) _ ⟨hHeld, (by (with_reducible repeat (first | apply Kd.S_alloc | apply Kd.S_drewN | apply Kd.S_drew)); exact Kd.S_mono HO167.out (fun _ hk => hk.2)), (kR HO176.out), (kB BK164.out), bB⟩)
        ·skip
         rintro ⟨v169, v175⟩ w18 ⟨hS_, h0_, h1_, h2_, h3_⟩
         have n0_ : Aside0 (Kd.R (Kd.int .u8) 5 w18 w.heap.size (fun k_ => some k_ ≠ (v175 : Value).ownBlock) v169 y168) := ⟨h0_⟩
         have n1_ : Aside0 (Kd.R (Kd.int .u8) 5 w18 w.heap.size (fun k_ => some k_ ≠ (v169 : Value).ownBlock) v175 y174) := ⟨h1_⟩
         have n2_ : Aside0 (w18.heap[gb164]? = some (.cells #[.int .i64 a0_0, .int .i64 a0_1, .int .i64 a0_2, .int .u64 a0_3, .int .u64 a0_4, .int .u64 a0_5] 24 (0, 0))) := ⟨h2_⟩
         have n3_ : Aside0 (Below w.heap.size w w18) := ⟨h3_⟩
         clear BK164
         clear HB
         clear h0_ h1_ h2_ h3_
         have HO170 := n0_
         have HO176 := n1_
         have BK164 := n2_
         have HB := n3_
         clear n0_ n1_ n2_ n3_
         have hHeld : w18.cell? ⟨gb164, 0, none⟩ = some (.int .i64 a0_0) ∧ w18.cell? ⟨gb164, 1, none⟩ = some (.int .i64 a0_1) ∧ w18.cell? ⟨gb164, 2, none⟩ = some (.int .i64 a0_2) ∧ w18.cell? ⟨gb164, 3, none⟩ = some (.int .u64 a0_3) ∧ w18.cell? ⟨gb164, 4, none⟩ = some (.int .u64 a0_4) ∧ w18.cell? ⟨gb164, 5, none⟩ = some (.int .u64 a0_5) := hS_
         refine norm_ (a' := ?_) ?_ ?_
         rotate_left
         ·simp only [putAll, Act.put, List.setIfInBounds_toArray, List.set_cons_zero, List.set_cons_succ]
          rfl
         refine one_ (i := 6) (N := some 20) #[true, true, true, true, true, true, true, true, true, false, true, true, false, false, false, false, false, false, false] rfl rfl (one_of HT_.out (by kernel_rfl)) (by decide) (fun K hK => ?_)
         refine goes_ Tryd.func46 (by kernel_rfl) rfl #[.slice A3 l3.length c3] (by rfl) rfl rfl aV ?_
         with_reducible refine (impl_texts.calls k _ _ l3 t165 _ ?side1 ?side2 A7.out).mono ?_
         (case side1 => repeat (first | exact (Kd.C_below HR3.out HB.out) | (with_reducible refine Kd.C_alloc ?_ _) | (with_reducible refine Kd.C_drewN ?_ _) | (with_reducible refine Kd.C_drew ?_)))
         (case side2 => exact HC3.out)
         rintro e w19 ⟨v166, rfl, ho0, hb⟩
         refine ⟨_, rfl, ?_⟩
         have n0_ := Aside0.mk (Kd.R_below (kR HO170.out) hb)
         have n1_ := Aside0.mk (Kd.R_below (kR HO176.out) hb)
         have n2_ := Aside0.mk (Kd.S_lower (Kd.S_new' (Kd.S_new' ho0 (Kd.R_lt (kR HO170.out))) (Kd.R_lt (kR HO176.out))) (below_size bB))
         have n3_ := Aside0.mk (blk_below (g := gb164) (o := .cells #[.int .i64 a0_0, .int .i64 a0_1, .int .i64 a0_2, .int .u64 a0_3, .int .u64 a0_4, .int .u64 a0_5] 24 (0, 0)) (kB BK164.out) hb)
         have n4_ := Aside0.mk (below_step bB hb)
         clear HO170
         clear HO176
         clear BK164
         clear HB
         have HO170 := n0_
         have HO176 := n1_
         have HO167 := n2_
         have BK164 := n3_
         have HB := n4_
         clear n0_ n1_ n2_ n3_ n4_
         (try clear hb)
         (try clear hb2)
         (try clear hk)
         (try clear hi)
         (try clear ho0)
         refine hK.out _ _ ⟨(blk_cell BK164.out 0).trans rfl, (blk_cell BK164.out 1).trans rfl, (blk_cell BK164.out 2).trans rfl, (blk_cell BK164.out 3).trans rfl, (blk_cell BK164.out 4).trans rfl, (blk_cell BK164.out 5).trans rfl⟩ (fun hHeld => ?_)
         clear hK K
         refine norm_ (a' := ?_) ?_ ?_
         rotate_left
         ·show Act.put _ (some 20) _ = _
          simp only [Act.put, List.setIfInBounds_toArray, List.set_cons_zero, List.set_cons_succ, i64_w, i32_w]
          rfl
         exact norm_ (by first | (simp only [putAll, Act.put, List.setIfInBounds_toArray, List.set_cons_zero, List.set_cons_succ]; done) | (simp only [putAll, Act.put, List.setIfInBounds_toArray, List.set_cons_zero, List.set_cons_succ]; rfl)) (hJ6_7_10 (v166, v169, v175) _ ⟨hHeld, (by (with_reducible repeat (first | apply Kd.S_alloc | apply Kd.S_drewN | apply Kd.S_drew)); exact Kd.S_mono HO167.out (fun _ hk => ⟨hk.1.2, hk.2⟩)), (kR HO170.out), (kR HO176.out), (kB BK164.out), bB⟩)
       ·skip
        rintro ⟨v166, v175⟩ w17 ⟨hS_, h0_, h1_, h2_, h3_⟩
        have n0_ : Aside0 (Kd.S (Kd.slice 5 (Kd.int .u8)) 27 w17 w.heap.size (fun k_ => some k_ ≠ (v175 : Value).ownBlock) v166 t165) := ⟨h0_⟩
        have n1_ : Aside0 (Kd.R (Kd.int .u8) 5 w17 w.heap.size (fun _ => True) v175 y174) := ⟨h1_⟩
        have n2_ : Aside0 (w17.heap[gb164]? = some (.cells #[.int .i64 a0_0, .int .i64 a0_1, .int .i64 a0_2, .int .u64 a0_3, .int .u64 a0_4, .int .u64 a0_5] 24 (0, 0))) := ⟨h2_⟩
        have n3_ : Aside0 (Below w.heap.size w w17) := ⟨h3_⟩
        clear BK164
        clear HB
        clear h0_ h1_ h2_ h3_
        have HO167 := n0_
        have HO176 := n1_
        have BK164 := n2_
        have HB := n3_
        clear n0_ n1_ n2_ n3_
        have hHeld : w17.cell? ⟨gb164, 0, none⟩ = some (.int .i64 a0_0) ∧ w17.cell? ⟨gb164, 1, none⟩ = some (.int .i64 a0_1) ∧ w17.cell? ⟨gb164, 2, none⟩ = some (.int .i64 a0_2) ∧ w17.cell? ⟨gb164, 3, none⟩ = some (.int .u64 a0_3) ∧ w17.cell? ⟨gb164, 4, none⟩ = some (.int .u64 a0_4) ∧ w17.cell? ⟨gb164, 5, none⟩ = some (.int .u64 a0_5) := hS_
        refine norm_ (a' := ?_) ?_ ?_
        rotate_left
        ·simp only [putAll, Act.put, List.setIfInBounds_toArray, List.set_cons_zero, List.set_cons_succ]
         rfl
        refine one_ (i := 7) (N := some 21) #[true, true, true, true, true, true, true, true, true, false, true, true, false, false, false, false, false, false, false] rfl rfl (one_of HT_.out (by kernel_rfl)) (by decide) (fun K hK => ?_)
        refine Kd.R_lit_step (Kd.int .u8) _ 5 ?hg (N := 21) ?hd (xs := ([] : List Int)) (inner := []) (ok := fun _ => True) (okp := fun _ => True) ?hr ?hp (fun _ hk => hk) trivial (Below.refl _ _) (Nat.le_refl _) (by simp) ?_; (case hd => rfl); (case hg => rfl); (case hr => first | (go_simp; done) | (go_simp; rfl)); (case hp => exact (Reps.none _ _))
        intro v169 w18 ho19 hb hg_ hnew_
        clear hg_ hnew_
        (first | rw [← Ny168.out] at ho19 | (simp only [Int.reduceToNat] at ho19; rw [← Ny168.out] at ho19))
        have n0_ := Aside0.mk (Kd.S_elder' (by (with_reducible repeat (first | apply Kd.S_alloc | apply Kd.S_drewN | apply Kd.S_drew)); exact HO167.out) (Kd.R_base ho19) hb)
        have n1_ := Aside0.mk (Kd.R_elder' (kR HO176.out) (Kd.R_base ho19) hb)
        have n2_ := Aside0.mk (Kd.R_lower (Kd.R_new' ho19 (Kd.R_lt (kR HO176.out))) (below_size bB))
        have n3_ := Aside0.mk (blk_below (g := gb164) (o := .cells #[.int .i64 a0_0, .int .i64 a0_1, .int .i64 a0_2, .int .u64 a0_3, .int .u64 a0_4, .int .u64 a0_5] 24 (0, 0)) (kB BK164.out) hb)
        have n4_ := Aside0.mk (below_step bB hb)
        clear HO167
        clear HO176
        clear BK164
        clear HB
        have HO167 := n0_
        have HO176 := n1_
        have HO170 := n2_
        have BK164 := n3_
        have HB := n4_
        clear n0_ n1_ n2_ n3_ n4_
        clear hb ho19
        refine hK.out _ _ ⟨(blk_cell BK164.out 0).trans rfl, (blk_cell BK164.out 1).trans rfl, (blk_cell BK164.out 2).trans rfl, (blk_cell BK164.out 3).trans rfl, (blk_cell BK164.out 4).trans rfl, (blk_cell BK164.out 5).trans rfl⟩ (fun hHeld => ?_)
        clear hK K
        refine norm_ (a' := ?_) ?_ ?_
        rotate_left
        ·show Act.put _ (some 21) _ = _
         simp only [Act.put, List.setIfInBounds_toArray, List.set_cons_zero, List.set_cons_succ, i64_w, i32_w]
         rfl
        exact norm_ (by first | (simp only [putAll, Act.put, List.setIfInBounds_toArray, List.set_cons_zero, List.set_cons_succ]; done) | (simp only [putAll, Act.put, List.setIfInBounds_toArray, List.set_cons_zero, List.set_cons_succ]; rfl)) (hJ6_7_10 (v166, v169, v175) _ ⟨hHeld, (by (with_reducible repeat (first | apply Kd.S_alloc | apply Kd.S_drewN | apply Kd.S_drew)); exact Kd.S_mono HO167.out (fun _ hk => ⟨hk.2, hk.1⟩)), (by (with_reducible repeat (first | apply Kd.R_alloc | apply Kd.R_drewN | apply Kd.R_drew)); exact Kd.R_mono HO170.out (fun _ hk => hk.2)), (by (with_reducible repeat (first | apply Kd.R_alloc | apply Kd.R_drewN | apply Kd.R_drew)); exact Kd.R_mono HO176.out (fun _ hk => hk.2)), (kB BK164.out), bB⟩)
      ·skip
       rintro ⟨v166, v169⟩ w17 ⟨hS_, h0_, h1_, h2_, h3_⟩
       have n0_ : Aside0 (Kd.S (Kd.slice 5 (Kd.int .u8)) 27 w17 w.heap.size (fun k_ => some k_ ≠ (v169 : Value).ownBlock) v166 t165) := ⟨h0_⟩
       have n1_ : Aside0 (Kd.R (Kd.int .u8) 5 w17 w.heap.size (fun _ => True) v169 y168) := ⟨h1_⟩
       have n2_ : Aside0 (w17.heap[gb164]? = some (.cells #[.int .i64 a0_0, .int .i64 a0_1, .int .i64 a0_2, .int .u64 a0_3, .int .u64 a0_4, .int .u64 a0_5] 24 (0, 0))) := ⟨h2_⟩
       have n3_ : Aside0 (Below w.heap.size w w17) := ⟨h3_⟩
       clear BK164
       clear HB
       clear h0_ h1_ h2_ h3_
       have HO167 := n0_
       have HO170 := n1_
       have BK164 := n2_
       have HB := n3_
       clear n0_ n1_ n2_ n3_
       have hHeld : w17.cell? ⟨gb164, 0, none⟩ = some (.int .i64 a0_0) ∧ w17.cell? ⟨gb164, 1, none⟩ = some (.int .i64 a0_1) ∧ w17.cell? ⟨gb164, 2, none⟩ = some (.int .i64 a0_2) ∧ w17.cell? ⟨gb164, 3, none⟩ = some (.int .u64 a0_3) ∧ w17.cell? ⟨gb164, 4, none⟩ = some (.int .u64 a0_4) ∧ w17.cell? ⟨gb164, 5, none⟩ = some (.int .u64 a0_5) := hS_
       refine norm_ (a' := ?_) ?_ ?_
       rotate_left
       ·simp only [putAll, Act.put, List.setIfInBounds_toArray, List.set_cons_zero, List.set_cons_succ]
        rfl
       refine two_ (i := 9) (j := 10) (Ni := some 23) (Nj := some 24) #[true, true, true, true, true, true, true, true, true, true, false, true, false, false, false, false, false, false, false] #[true, true, true, true, true, true, true, true, true, false, true, true, false, false, false, false, false, false, false] rfl rfl rfl rfl (two_of HT_.out (by kernel_rfl)) (by decide) (by decide) (fun K hK => ?_) (fun K hK => ?_)
       ·skip
        refine Kd.R_append_rows_step (Kd.int .u8) (w0 := w) w.heap.size (by rfl) (.tmp 21) (.tmp 22) 27 5 (.int .u8 0) 1 rfl Tryd.underlying27 info5 rfl (by decide) (by omega) v169 y168 l4 _ _ _ (fun _ => True) (fun _ => False) rfl rfl ?aO ?aR (fun _ _ h => h) (fun _ h => h.elim) ?aF ?aB ?aS ?aL ?_
        (case aR => repeat (first | exact (Kd.C_below HR4.out HB.out) | (with_reducible refine Kd.C_alloc ?_ _) | (with_reducible refine Kd.C_drewN ?_ _) | (with_reducible refine Kd.C_drew ?_)))
        (case aB => exact bB)
        (case aF => exact (fun _ _ => trivial))
        (case aO => exact (kR HO170.out))
        (case aS => exact (below_size bB))
        (case aL => have := LMc8.out; omega)
        intro v172 w18 ho hb hg hat
        rw [← Ny171.out] at ho
        have n0_ := Aside0.mk (blk_grown (g := gb164) (o := .cells #[.int .i64 a0_0, .int .i64 a0_1, .int .i64 a0_2, .int .u64 a0_3, .int .u64 a0_4, .int .u64 a0_5] 24 (0, 0)) (kB BK164.out) hg (Kd.R_ne HO170.out BK164.out (by decide)))
        have n1_ := Aside0.mk (Kd.S_after (ok := (fun _ => True)) (by (with_reducible repeat (first | apply Kd.S_alloc | apply Kd.S_drewN | apply Kd.S_drew)); exact Kd.S_mono HO167.out (fun _ hk => ⟨trivial, hk⟩)) hg hat)
        have n2_ := Aside0.mk (hb)
        have n3_ := Aside0.mk (ho)
        clear BK164
        clear HO167
        clear HB
        clear HO170
        have BK164 := n0_
        have HO167 := n1_
        have HB := n2_
        have HO173 := n3_
        clear n0_ n1_ n2_ n3_
        clear ho hb hg hat
        refine hK.out _ _ ⟨(blk_cell BK164.out 0).trans rfl, (blk_cell BK164.out 1).trans rfl, (blk_cell BK164.out 2).trans rfl, (blk_cell BK164.out 3).trans rfl, (blk_cell BK164.out 4).trans rfl, (blk_cell BK164.out 5).trans rfl⟩ (fun hHeld => ?_)
        clear hK K
        refine norm_ (a' := ?_) ?_ ?_
        rotate_left
        ·show Act.put _ (some 23) _ = _
         simp only [Act.put, List.setIfInBounds_toArray, List.set_cons_zero, List.set_cons_succ, i64_w, i32_w]
         rfl
        exact norm_ (by first | (simp only [putAll, Act.put, List.setIfInBounds_toArray, List.set_cons_zero, List.set_cons_succ]; done) | (simp only [putAll, Act.put, List.setIfInBounds_toArray, List.set_cons_zero, List.set_cons_succ]; rfl)) (hJ6_7_9 (v166, v169, v172) _ ⟨hHeld, (by (with_reducible repeat (first | apply Kd.S_alloc | apply Kd.S_drewN | apply Kd.S_drew)); exact Kd.S_mono HO167.out (fun _ hk => hk.2)), (kR HO173.out), (kB BK164.out), bB⟩)
       ·skip
        refine Kd.R_lit_step (Kd.int .u8) _ 5 ?hg (N := 24) ?hd (xs := ([] : List Int)) (inner := []) (ok := fun _ => True) (okp := fun _ => True) ?hr ?hp (fun _ hk => hk) trivial (Below.refl _ _) (Nat.le_refl _) (by simp) ?_; (case hd => rfl); (case hg => rfl); (case hr => first | (go_simp; done) | (go_simp; rfl)); (case hp => exact (Reps.none _ _))
        intro v175 w18 ho19 hb hg_ hnew_
        clear hg_ hnew_
        (first | rw [← Ny174.out] at ho19 | (simp only [Int.reduceToNat] at ho19; rw [← Ny174.out] at ho19))
        have n0_ := Aside0.mk (Kd.S_elder' (by (with_reducible repeat (first | apply Kd.S_alloc | apply Kd.S_drewN | apply Kd.S_drew)); exact HO167.out) (Kd.R_base ho19) hb)
        have n1_ := Aside0.mk (Kd.R_elder' (kR HO170.out) (Kd.R_base ho19) hb)
        have n2_ := Aside0.mk (Kd.R_lower (Kd.R_new' ho19 (Kd.R_lt (kR HO170.out))) (below_size bB))
        have n3_ := Aside0.mk (blk_below (g := gb164) (o := .cells #[.int .i64 a0_0, .int .i64 a0_1, .int .i64 a0_2, .int .u64 a0_3, .int .u64 a0_4, .int .u64 a0_5] 24 (0, 0)) (kB BK164.out) hb)
        have n4_ := Aside0.mk (below_step bB hb)
        clear HO167
        clear HO170
        clear BK164
        clear HB
        have HO167 := n0_
        have HO170 := n1_
        have HO176 := n2_
        have BK164 := n3_
        have HB := n4_
        clear n0_ n1_ n2_ n3_ n4_
        clear hb ho19
        refine hK.out _ _ ⟨(blk_cell BK164.out 0).trans rfl, (blk_cell BK164.out 1).trans rfl, (blk_cell BK164.out 2).trans rfl, (blk_cell BK164.out 3).trans rfl, (blk_cell BK164.out 4).trans rfl, (blk_cell BK164.out 5).trans rfl⟩ (fun hHeld => ?_)
        clear hK K
        refine norm_ (a' := ?_) ?_ ?_
        rotate_left
        ·show Act.put _ (some 24) _ = _
         simp only [Act.put, List.setIfInBounds_toArray, List.set_cons_zero, List.set_cons_succ, i64_w, i32_w]
         rfl
        exact norm_ (by first | (simp only [putAll, Act.put, List.setIfInBounds_toArray, List.set_cons_zero, List.set_cons_succ]; done) | (simp only [putAll, Act.put, List.setIfInBounds_toArray, List.set_cons_zero, List.set_cons_succ]; rfl)) (hJ6_7_10 (v166, v169, v175) _ ⟨hHeld, (by (with_reducible repeat (first | apply Kd.S_alloc | apply Kd.S_drewN | apply Kd.S_drew)); exact HO167.out), (by (with_reducible repeat (first | apply Kd.R_alloc | apply Kd.R_drewN | apply Kd.R_drew)); exact Kd.R_mono HO170.out (fun _ hk => hk.2)), (by (with_reducible repeat (first | apply Kd.R_alloc | apply Kd.R_drewN | apply Kd.R_drew)); exact Kd.R_mono HO176.out (fun _ hk => hk.2)), (kB BK164.out), bB⟩)
     ·skip
      rintro ⟨v166, v169, v175⟩ w19 ⟨hS_, h0_, h1_, h2_, h3_, h4_⟩
      have n0_ : Aside0 (Kd.S (Kd.slice 5 (Kd.int .u8)) 27 w19 w.heap.size (fun k_ => some k_ ≠ (v169 : Value).ownBlock ∧ some k_ ≠ (v175 : Value).ownBlock) v166 t165) := ⟨h0_⟩
      have n1_ : Aside0 (Kd.R (Kd.int .u8) 5 w19 w.heap.size (fun k_ => some k_ ≠ (v175 : Value).ownBlock) v169 y168) := ⟨h1_⟩
      have n2_ : Aside0 (Kd.R (Kd.int .u8) 5 w19 w.heap.size (fun k_ => some k_ ≠ (v169 : Value).ownBlock) v175 y174) := ⟨h2_⟩
      have n3_ : Aside0 (w19.heap[gb164]? = some (.cells #[.int .i64 a0_0, .int .i64 a0_1, .int .i64 a0_2, .int .u64 a0_3, .int .u64 a0_4, .int .u64 a0_5] 24 (0, 0))) := ⟨h3_⟩
      have n4_ : Aside0 (Below w.heap.size w w19) := ⟨h4_⟩
      clear BK164
      clear HB
      clear h0_ h1_ h2_ h3_ h4_
      have HO167 := n0_
      have HO170 := n1_
      have HO176 := n2_
      have BK164 := n3_
      have HB := n4_
      clear n0_ n1_ n2_ n3_ n4_
      have hHeld : w19.cell? ⟨gb164, 0, none⟩ = some (.int .i64 a0_0) ∧ w19.cell? ⟨gb164, 1, none⟩ = some (.int .i64 a0_1) ∧ w19.cell? ⟨gb164, 2, none⟩ = some (.int .i64 a0_2) ∧ w19.cell? ⟨gb164, 3, none⟩ = some (.int .u64 a0_3) ∧ w19.cell? ⟨gb164, 4, none⟩ = some (.int .u64 a0_4) ∧ w19.cell? ⟨gb164, 5, none⟩ = some (.int .u64 a0_5) := hS_
      refine norm_ (a' := ?_) ?_ ?_
      rotate_left
      ·simp only [putAll, Act.put, List.setIfInBounds_toArray, List.set_cons_zero, List.set_cons_succ]
       rfl
      refine one_ (i := 9) (N := some 23) #[true, true, true, true, true, true, true, true, true, true, true, true, false, false, false, false, false, false, false] rfl rfl (one_of HT_.out (by kernel_rfl)) (by decide) (fun K hK => ?_)
      refine Kd.R_append_rows_step (Kd.int .u8) (w0 := w) w.heap.size (by rfl) (.tmp 21) (.tmp 22) 27 5 (.int .u8 0) 1 rfl Tryd.underlying27 info5 rfl (by decide) (by omega) v169 y168 l4 _ _ _ (fun k_ => some k_ ≠ (v175 : Value).ownBlock) (fun _ => False) rfl rfl ?aO ?aR (fun _ _ h => h) (fun _ h => h.elim) ?aF ?aB ?aS ?aL ?_
      (case aR => repeat (first | exact (Kd.C_below HR4.out HB.out) | (with_reducible refine Kd.C_alloc ?_ _) | (with_reducible refine Kd.C_drewN ?_ _) | (with_reducible refine Kd.C_drew ?_)))
      (case aB => exact bB)
      (case aF => exact (fun k_ hk => Kd.fresh' (Kd.R_lt (kR HO176.out)) k_ hk))
      (case aO => exact (kR HO170.out))
      (case aS => exact (below_size bB))
      (case aL => have := LMc8.out; omega)
      intro v172 w20 ho hb hg hat
      rw [← Ny171.out] at ho
      have n0_ := Aside0.mk (blk_grown (g := gb164) (o := .cells #[.int .i64 a0_0, .int .i64 a0_1, .int .i64 a0_2, .int .u64 a0_3, .int .u64 a0_4, .int .u64 a0_5] 24 (0, 0)) (kB BK164.out) hg (Kd.R_ne HO170.out BK164.out (by decide)))
      have n1_ := Aside0.mk (Kd.S_after (ok := (fun k_ => some k_ ≠ (v175 : Value).ownBlock)) (by (with_reducible repeat (first | apply Kd.S_alloc | apply Kd.S_drewN | apply Kd.S_drew)); exact Kd.S_mono HO167.out (fun _ hk => ⟨hk.2, hk.1⟩)) hg hat)
      have n2_ := Aside0.mk (Kd.R_after (ok := (fun _ => True)) (by (with_reducible repeat (first | apply Kd.R_alloc | apply Kd.R_drewN | apply Kd.R_drew)); exact Kd.R_mono HO176.out (fun _ hk => ⟨trivial, hk⟩)) hg hat)
      have n3_ := Aside0.mk (hb)
      have n4_ := Aside0.mk (ho)
      clear BK164
      clear HO167
      clear HO176
      clear HB
      clear HO170
      have BK164 := n0_
      have HO167 := n1_
      have HO176 := n2_
      have HB := n3_
      have HO173 := n4_
      clear n0_ n1_ n2_ n3_ n4_
      clear ho hb hg hat
      refine hK.out _ _ ⟨(blk_cell BK164.out 0).trans rfl, (blk_cell BK164.out 1).trans rfl, (blk_cell BK164.out 2).trans rfl, (blk_cell BK164.out 3).trans rfl, (blk_cell BK164.out 4).trans rfl, (blk_cell BK164.out 5).trans rfl⟩ (fun hHeld => ?_)
      clear hK K
      refine norm_ (a' := ?_) ?_ ?_
      rotate_left
      ·show Act.put _ (some 23) _ = _
       simp only [Act.put, List.setIfInBounds_toArray, List.set_cons_zero, List.set_cons_succ, i64_w, i32_w]
       rfl
      exact norm_ (by first | (simp only [putAll, Act.put, List.setIfInBounds_toArray, List.set_cons_zero, List.set_cons_succ]; done) | (simp only [putAll, Act.put, List.setIfInBounds_toArray, List.set_cons_zero, List.set_cons_succ]; rfl)) (hJ6_7_9_10 (v166, v169, v172, v175) _ ⟨hHeld, (by (with_reducible repeat (first | apply Kd.S_alloc | apply Kd.S_drewN | apply Kd.S_drew)); exact Kd.S_mono HO167.out (fun _ hk => ⟨hk.2, hk.1⟩)), (kR HO173.out), (by (with_reducible repeat (first | apply Kd.R_alloc | apply Kd.R_drewN | apply Kd.R_drew)); exact Kd.R_mono HO176.out (fun _ hk => hk.2)), (kB BK164.out), bB⟩)
    ·skip
     rintro ⟨v166, v169, v172⟩ w18 ⟨hS_, h0_, h1_, h2_, h3_⟩
     have n0_ : Aside0 (Kd.S (Kd.slice 5 (Kd.int .u8)) 27 w18 w.heap.size (fun k_ => some k_ ≠ (v172 : Value).ownBlock) v166 t165) := ⟨h0_⟩
     have n1_ : Aside0 (Kd.R (Kd.int .u8) 5 w18 w.heap.size (fun _ => True) v172 y171) := ⟨h1_⟩
     have n2_ : Aside0 (w18.heap[gb164]? = some (.cells #[.int .i64 a0_0, .int .i64 a0_1, .int .i64 a0_2, .int .u64 a0_3, .int .u64 a0_4, .int .u64 a0_5] 24 (0, 0))) := ⟨h2_⟩
     have n3_ : Aside0 (Below w.heap.size w w18) := ⟨h3_⟩
     clear BK164
     clear HB
     clear h0_ h1_ h2_ h3_
     have HO167 := n0_
     have HO173 := n1_
     have BK164 := n2_
     have HB := n3_
     clear n0_ n1_ n2_ n3_
     have hHeld : w18.cell? ⟨gb164, 0, none⟩ = some (.int .i64 a0_0) ∧ w18.cell? ⟨gb164, 1, none⟩ = some (.int .i64 a0_1) ∧ w18.cell? ⟨gb164, 2, none⟩ = some (.int .i64 a0_2) ∧ w18.cell? ⟨gb164, 3, none⟩ = some (.int .u64 a0_3) ∧ w18.cell? ⟨gb164, 4, none⟩ = some (.int .u64 a0_4) ∧ w18.cell? ⟨gb164, 5, none⟩ = some (.int .u64 a0_5) := hS_
     refine norm_ (a' := ?_) ?_ ?_
     rotate_left
     ·simp only [putAll, Act.put, List.setIfInBounds_toArray, List.set_cons_zero, List.set_cons_succ]
      rfl
     refine one_ (i := 10) (N := some 24) #[true, true, true, true, true, true, true, true, true, true, true, true, false, false, false, false, false, false, false] rfl rfl (one_of HT_.out (by kernel_rfl)) (by decide) (fun K hK => ?_)
     refine Kd.R_lit_step (Kd.int .u8) _ 5 ?hg (N := 24) ?hd (xs := ([] : List Int)) (inner := []) (ok := fun _ => True) (okp := fun _ => True) ?hr ?hp (fun _ hk => hk) trivial (Below.refl _ _) (Nat.le_refl _) (by simp) ?_; (case hd => rfl); (case hg => rfl); (case hr => first | (go_simp; done) | (go_simp; rfl)); (case hp => exact (Reps.none _ _))
     intro v175 w19 ho20 hb hg_ hnew_
     clear hg_ hnew_
     (first | rw [← Ny174.out] at ho20 | (simp only [Int.reduceToNat] at ho20; rw [← Ny174.out] at ho20))
     have n0_ := Aside0.mk (Kd.S_elder' (by (with_reducible repeat (first | apply Kd.S_alloc | apply Kd.S_drewN | apply Kd.S_drew)); exact HO167.out) (Kd.R_base ho20) hb)
     have n1_ := Aside0.mk (Kd.R_elder' (kR HO173.out) (Kd.R_base ho20) hb)
     have n2_ := Aside0.mk (Kd.R_lower (Kd.R_new' ho20 (Kd.R_lt (kR HO173.out))) (below_size bB))
     have n3_ := Aside0.mk (blk_below (g := gb164) (o := .cells #[.int .i64 a0_0, .int .i64 a0_1, .int .i64 a0_2, .int .u64 a0_3, .int .u64 a0_4, .int .u64 a0_5] 24 (0, 0)) (kB BK164.out) hb)
     have n4_ := Aside0.mk (below_step bB hb)
     clear HO167
     clear HO173
     clear BK164
     clear HB
     have HO167 := n0_
     have HO173 := n1_
     have HO176 := n2_
     have BK164 := n3_
     have HB := n4_
     clear n0_ n1_ n2_ n3_ n4_
     clear hb ho20
     refine hK.out _ _ ⟨(blk_cell BK164.out 0).trans rfl, (blk_cell BK164.out 1).trans rfl, (blk_cell BK164.out 2).trans rfl, (blk_cell BK164.out 3).trans rfl, (blk_cell BK164.out 4).trans rfl, (blk_cell BK164.out 5).trans rfl⟩ (fun hHeld => ?_)
     clear hK K
     refine norm_ (a' := ?_) ?_ ?_
     rotate_left
     ·show Act.put _ (some 24) _ = _
      simp only [Act.put, List.setIfInBounds_toArray, List.set_cons_zero, List.set_cons_succ, i64_w, i32_w]
      rfl
     exact norm_ (by first | (simp only [putAll, Act.put, List.setIfInBounds_toArray, List.set_cons_zero, List.set_cons_succ]; done) | (simp only [putAll, Act.put, List.setIfInBounds_toArray, List.set_cons_zero, List.set_cons_succ]; rfl)) (hJ6_7_9_10 (v166, v169, v172, v175) _ ⟨hHeld, (by (with_reducible repeat (first | apply Kd.S_alloc | apply Kd.S_drewN | apply Kd.S_drew)); exact HO167.out), (by (with_reducible repeat (first | apply Kd.R_alloc | apply Kd.R_drewN | apply Kd.R_drew)); exact Kd.R_mono HO173.out (fun _ hk => hk.2)), (by (with_reducible repeat (first | apply Kd.R_alloc | apply Kd.R_drewN | apply Kd.R_drew)); exact Kd.R_mono HO176.out (fun _ hk => hk.2)), (kB BK164.out), bB⟩)
   rintro ⟨v166, v169, v172, v175⟩ w20 ⟨hS_, h0_, h1_, h2_, h3_, h4_⟩
   have n0_ : Aside0 (Kd.S (Kd.slice 5 (Kd.int .u8)) 27 w20 w.heap.size (fun k_ => some k_ ≠ (v172 : Value).ownBlock ∧ some k_ ≠ (v175 : Value).ownBlock) v166 t165) := ⟨h0_⟩
   have n1_ : Aside0 (Kd.R (Kd.int .u8) 5 w20 w.heap.size (fun k_ => some k_ ≠ (v175 : Value).ownBlock) v172 y171) := ⟨h1_⟩
   have n2_ : Aside0 (Kd.R (Kd.int .u8) 5 w20 w.heap.size (fun k_ => some k_ ≠ (v172 : Value).ownBlock) v175 y174) := ⟨h2_⟩
   have n3_ : Aside0 (w20.heap[gb164]? = some (.cells #[.int .i64 a0_0, .int .i64 a0_1, .int .i64 a0_2, .int .u64 a0_3, .int .u64 a0_4, .int .u64 a0_5] 24 (0, 0))) := ⟨h3_⟩
   have n4_ : Aside0 (Below w.heap.size w w20) := ⟨h4_⟩
   clear BK164
   clear HB
   clear h0_ h1_ h2_ h3_ h4_
   have HO167 := n0_
   have HO173 := n1_
   have HO176 := n2_
   have BK164 := n3_
   have HB := n4_
   clear n0_ n1_ n2_ n3_ n4_
   have hHeld : w20.cell? ⟨gb164, 0, none⟩ = some (.int .i64 a0_0) ∧ w20.cell? ⟨gb164, 1, none⟩ = some (.int .i64 a0_1) ∧ w20.cell? ⟨gb164, 2, none⟩ = some (.int .i64 a0_2) ∧ w20.cell? ⟨gb164, 3, none⟩ = some (.int .u64 a0_3) ∧ w20.cell? ⟨gb164, 4, none⟩ = some (.int .u64 a0_4) ∧ w20.cell? ⟨gb164, 5, none⟩ = some (.int .u64 a0_5) := hS_
   refine norm_ (a' := ?_) ?_ ?_
   rotate_left
   ·simp only [putAll, Act.put, List.setIfInBounds_toArray, List.set_cons_zero, List.set_cons_succ]
    rfl
   refine one_ (i := 12) (N := some 26) #[true, true, true, true, true, true, true, true, true, true, true, true, true, false, false, false, false, false, false] rfl rfl (one_of HT_.out (by kernel_rfl)) (by decide) (fun K hK => ?_)
   refine Kd.R_append_rows_step (Kd.int .u8) (w0 := w) w.heap.size (by rfl) (.tmp 24) (.tmp 25) 27 5 (.int .u8 0) 1 rfl Tryd.underlying27 info5 rfl (by decide) (by omega) v175 y174 l5 _ _ _ (fun k_ => some k_ ≠ (v172 : Value).ownBlock) (fun _ => False) rfl rfl ?aO ?aR (fun _ _ h => h) (fun _ h => h.elim) ?aF ?aB ?aS ?aL ?_
   (case aR => repeat (first | exact (Kd.C_below HR5.out HB.out) | (with_reducible refine Kd.C_alloc ?_ _) | (with_reducible refine Kd.C_drewN ?_ _) | (with_reducible refine Kd.C_drew ?_)))
   (case aB => exact bB)
   (case aF => exact (fun k_ hk => Kd.fresh' (Kd.R_lt (kR HO173.out)) k_ hk))
   (case aO => exact (kR HO176.out))
   (case aS => exact (below_size bB))
   (case aL => have := LMc9.out; omega)
   intro v178 w21 ho hb hg hat
   rw [← Ny177.out] at ho
   have n0_ := Aside0.mk (blk_grown (g := gb164) (o := .cells #[.int .i64 a0_0, .int .i64 a0_1, .int .i64 a0_2, .int .u64 a0_3, .int .u64 a0_4, .int .u64 a0_5] 24 (0, 0)) (kB BK164.out) hg (Kd.R_ne HO176.out BK164.out (by decide)))
   have n1_ := Aside0.mk (Kd.S_after (ok := (fun k_ => some k_ ≠ (v172 : Value).ownBlock)) (by (with_reducible repeat (first | apply Kd.S_alloc | apply Kd.S_drewN | apply Kd.S_drew)); exact HO167.out) hg hat)
   have n2_ := Aside0.mk (Kd.R_after (ok := (fun _ => True)) (by (with_reducible repeat (first | apply Kd.R_alloc | apply Kd.R_drewN | apply Kd.R_drew)); exact Kd.R_mono HO173.out (fun _ hk => ⟨trivial, hk⟩)) hg hat)
   have n3_ := Aside0.mk (hb)
   have n4_ := Aside0.mk (ho)
   clear BK164
   clear HO167
   clear HO173
   clear HB
   clear HO176
   have BK164 := n0_
   have HO167 := n1_
   have HO173 := n2_
   have HB := n3_
   have HO179 := n4_
   clear n0_ n1_ n2_ n3_ n4_
   clear ho hb hg hat
   obtain ⟨Ao22, co22, eo22⟩ := Kd.S_slice HO167.out
   (first | subst eo22 | (injection eo22 with f1_ f2_ f3_; have f4_ := f1_.symm; have f5_ := f3_.symm; clear f1_ f2_ f3_; subst f4_; subst f5_))
   obtain ⟨Ao23, co23, eo23⟩ := Kd.R_slice HO173.out
   (first | subst eo23 | (injection eo23 with f1_ f2_ f3_; have f4_ := f1_.symm; have f5_ := f3_.symm; clear f1_ f2_ f3_; subst f4_; subst f5_))
   obtain ⟨Ao24, co24, eo24⟩ := Kd.R_slice HO179.out
   (first | subst eo24 | (injection eo24 with f1_ f2_ f3_; have f4_ := f1_.symm; have f5_ := f3_.symm; clear f1_ f2_ f3_; subst f4_; subst f5_))
   refine hK.out _ _ ⟨(blk_cell BK164.out 0).trans rfl, (blk_cell BK164.out 1).trans rfl, (blk_cell BK164.out 2).trans rfl, (blk_cell BK164.out 3).trans rfl, (blk_cell BK164.out 4).trans rfl, (blk_cell BK164.out 5).trans rfl⟩ (fun hHeld => ?_)
   clear hK K
   refine norm_ (a' := ?_) ?_ ?_
   rotate_left
   ·show Act.put _ (some 26) _ = _
    simp only [Act.put, List.setIfInBounds_toArray, List.set_cons_zero, List.set_cons_succ, i64_w, i32_w]
    rfl
   refine one_ (i := 13) (N := some 27) #[true, true, true, true, true, true, true, true, true, true, true, true, true, true, false, false, false, false, false] rfl rfl (one_of HT_.out (by kernel_rfl)) (by decide) (fun K hK => ?_)
   refine goes_ Tryd.func49 (by kernel_rfl) rfl #[.iface 85 (.agg #[.int .i64 a0_0, .int .i64 a0_1, .int .i64 a0_2, .int .u64 a0_3, .int .u64 a0_4, .int .u64 a0_5]), .int .u64 a1, .int .u64 a2, .slice Ao22 t165.length co22, .slice Ao23 y171.length co23, .slice Ao24 y177.length co24] (by rfl) rfl rfl aV ?_
   with_reducible refine (proof_VerifyConsistency.calls k a0_0 a0_1 a0_2 a0_3 a0_4 a0_5 a1 a2 (fun k_ => ((some k_ ≠ (.slice Ao23 y171.length co23 : Value).ownBlock ∧ some k_ ≠ (.slice Ao24 y177.length co24 : Value).ownBlock) ∧ k_ ≠ gb164)) _ _ t165 (fun k_ => some k_ = (.slice Ao23 y171.length co23 : Value).ownBlock) _ _ y171 (fun k_ => some k_ = (.slice Ao24 y177.length co24 : Value).ownBlock) _ _ y177 t180 t181 t184 t187 _ ?side1 ?side2 ?side3 ?side4 A10.out).mono ?_
   (case side1 => exact TabOK.below HT.out bB)
   (case side2 => first | exact Kd.S_V (Kd.S_types (HO167.out) BK164.out (by decide)) | exact Kd.V_mono Kd.S_V (Kd.S_types (HO167.out) BK164.out (by decide)) (fun k_ h_ => by simp only [and_assoc] at h_ ⊢; exact h_))
   (case side3 => first | exact Kd.R_V (Kd.R_tight rfl (Kd.R_types (Kd.R_apart' (HO173.out) (Kd.S_typed HO167.out) (by decide)) BK164.out (by decide))) | exact Kd.V_mono Kd.R_V (Kd.R_tight rfl (Kd.R_types (Kd.R_apart' (HO173.out) (Kd.S_typed HO167.out) (by decide)) BK164.out (by decide))) (fun k_ h_ => by simp only [and_assoc] at h_ ⊢; exact h_))
   (case side4 => first | exact Kd.R_V (Kd.R_tight rfl (Kd.R_types (Kd.R_apart' (HO179.out) (Kd.S_typed HO167.out) (by decide)) BK164.out (by decide))) | exact Kd.V_mono Kd.R_V (Kd.R_tight rfl (Kd.R_types (Kd.R_apart' (HO179.out) (Kd.S_typed HO167.out) (by decide)) BK164.out (by decide))) (fun k_ h_ => by simp only [and_assoc] at h_ ⊢; exact h_))
   rintro e w25 ⟨v182, v185, v188, rfl, ho0, ho1, ho2, hb⟩
   refine ⟨_, rfl, ?_⟩
   have n0_ := Aside0.mk (Kd.S_below (by (with_reducible repeat (first | apply Kd.S_alloc | apply Kd.S_drewN | apply Kd.S_drew)); exact HO167.out) hb)
   have n1_ := Aside0.mk (Kd.R_below (kR HO173.out) hb)
   have n2_ := Aside0.mk (Kd.R_below (kR HO179.out) hb)
   have n3_ := Aside0.mk (Kd.V_lower (Kd.V_mono (ok' := fun k_ => k_ ≠ gb164) ho0 (fun k_ hk_ => Or.elim hk_ (fun hs_ => Or.elim hs_ (fun hs_ => hs_.2) (fun hs_ => Or.elim hs_ (fun hs_ => ((Kd.R_types (Kd.R_apart' (HO173.out) (Kd.S_typed HO167.out) (by decide)) BK164.out (by decide)).1 k_ hs_.symm).2) (fun hs_ => ((Kd.R_types (Kd.R_apart' (HO179.out) (Kd.S_typed HO167.out) (by decide)) BK164.out (by decide)).1 k_ hs_.symm).2))) (fun hn_ => (Kd.freshB (g := gb164) (o := .cells #[.int .i64 a0_0, .int .i64 a0_1, .int .i64 a0_2, .int .u64 a0_3, .int .u64 a0_4, .int .u64 a0_5] 24 (0, 0)) (kB BK164.out) k_ hn_)))) (below_size bB))
   have n4_ := Aside0.mk (Kd.V_lower (Kd.V_mono (ok' := fun k_ => k_ ≠ gb164) ho1 (fun k_ hk_ => Or.elim hk_ (fun hs_ => Or.elim hs_ (fun hs_ => hs_.2) (fun hs_ => Or.elim hs_ (fun hs_ => ((Kd.R_types (Kd.R_apart' (HO173.out) (Kd.S_typed HO167.out) (by decide)) BK164.out (by decide)).1 k_ hs_.symm).2) (fun hs_ => ((Kd.R_types (Kd.R_apart' (HO179.out) (Kd.S_typed HO167.out) (by decide)) BK164.out (by decide)).1 k_ hs_.symm).2))) (fun hn_ => (Kd.freshB (g := gb164) (o := .cells #[.int .i64 a0_0, .int .i64 a0_1, .int .i64 a0_2, .int .u64 a0_3, .int .u64 a0_4, .int .u64 a0_5] 24 (0, 0)) (kB BK164.out) k_ hn_)))) (below_size bB))
   have n5_ := Aside0.mk (Kd.V_lower (Kd.V_mono (ok' := fun k_ => k_ ≠ gb164) ho2 (fun k_ hk_ => Or.elim hk_ (fun hs_ => Or.elim hs_ (fun hs_ => hs_.2) (fun hs_ => Or.elim hs_ (fun hs_ => ((Kd.R_types (Kd.R_apart' (HO173.out) (Kd.S_typed HO167.out) (by decide)) BK164.out (by decide)).1 k_ hs_.symm).2) (fun hs_ => ((Kd.R_types (Kd.R_apart' (HO179.out) (Kd.S_typed HO167.out) (by decide)) BK164.out (by decide)).1 k_ hs_.symm).2))) (fun hn_ => (Kd.freshB (g := gb164) (o := .cells #[.int .i64 a0_0, .int .i64 a0_1, .int .i64 a0_2, .int .u64 a0_3, .int .u64 a0_4, .int .u64 a0_5] 24 (0, 0)) (kB BK164.out) k_ hn_)))) (below_size bB))
   have n6_ := Aside0.mk (blk_below (g := gb164) (o := .cells #[.int .i64 a0_0, .int .i64 a0_1, .int .i64 a0_2, .int .u64 a0_3, .int .u64 a0_4, .int .u64 a0_5] 24 (0, 0)) (kB BK164.out) hb)
   have n7_ := Aside0.mk (below_step bB hb)
   clear HO167
   clear HO173
   clear HO179
   clear BK164
   clear HB
   have HO167 := n0_
   have HO173 := n1_
   have HO179 := n2_
   have HO183 := n3_
   have HO186 := n4_
   have HO189 := n5_
   have BK164 := n6_
   have HB := n7_
   clear n0_ n1_ n2_ n3_ n4_ n5_ n6_ n7_
   (try clear hb)
   (try clear hb2)
   (try clear hk)
   (try clear hi)
   (try clear ho0)
   (try clear ho1)
   (try clear ho2)
   obtain ⟨Ao26, co26, eo26⟩ := Kd.V_slice HO183.out
   (first | subst eo26 | (injection eo26 with f1_ f2_ f3_; have f4_ := f1_.symm; have f5_ := f3_.symm; clear f1_ f2_ f3_; subst f4_; subst f5_))
   obtain ⟨Ao27, co27, eo27⟩ := Kd.V_slice HO186.out
   (first | subst eo27 | (injection eo27 with f1_ f2_ f3_; have f4_ := f1_.symm; have f5_ := f3_.symm; clear f1_ f2_ f3_; subst f4_; subst f5_))
   obtain ⟨Ao28, co28, eo28⟩ := Kd.V_slice HO189.out
   (first | subst eo28 | (injection eo28 with f1_ f2_ f3_; have f4_ := f1_.symm; have f5_ := f3_.symm; clear f1_ f2_ f3_; subst f4_; subst f5_))
   refine hK.out _ _ ⟨(blk_cell BK164.out 0).trans rfl, (blk_cell BK164.out 1).trans rfl, (blk_cell BK164.out 2).trans rfl, (blk_cell BK164.out 3).trans rfl, (blk_cell BK164.out 4).trans rfl, (blk_cell BK164.out 5).trans rfl⟩ (fun hHeld => ?_)
   clear hK K
   refine norm_ (a' := ?_) ?_ ?_
   rotate_left
   ·show Act.put _ (some 27) _ = _
    simp only [Act.put, List.setIfInBounds_toArray, List.set_cons_zero, List.set_cons_succ, i64_w, i32_w]
    rfl
   refine one_ (i := 14) (N := some 28) #[true, true, true, true, true, true, true, true, true, true, true, true, true, true, true, false, false, false, false] rfl rfl (one_of HT_.out (by kernel_rfl)) (by decide) (fun K hK => ?_)
   refine goes_ Tryd.func48 (by kernel_rfl) rfl #[errVc #[.int .i64 t180, .slice Ao26 t181.length co26, .slice Ao27 t184.length co27, .slice Ao28 t187.length co28]] (by rfl) rfl rfl aV ?_
   with_reducible refine (impl_verdict.calls k t180 _ _ t181 _ _ t184 _ _ t187 t190 t191 _ ?side1 ?side2 ?side3 ?side4 ?side5 ?side6 A11.out).mono ?_
   (case side1 => repeat (first | exact (Kd.V_reads' HO183.out).2.2 | (with_reducible refine Kd.C_alloc ?_ _) | (with_reducible refine Kd.C_drewN ?_ _) | (with_reducible refine Kd.C_drew ?_)))
   (case side2 => exact (Kd.V_reads' HO183.out).2.1)
   (case side3 => repeat (first | exact (Kd.V_reads' HO186.out).2.2 | (with_reducible refine Kd.C_alloc ?_ _) | (with_reducible refine Kd.C_drewN ?_ _) | (with_reducible refine Kd.C_drew ?_)))
   (case side4 => exact (Kd.V_reads' HO186.out).2.1)
   (case side5 => repeat (first | exact (Kd.V_reads' HO189.out).2.2 | (with_reducible refine Kd.C_alloc ?_ _) | (with_reducible refine Kd.C_drewN ?_ _) | (with_reducible refine Kd.C_drew ?_)))
   (case side6 => exact (Kd.V_reads' HO189.out).2.1)
   rintro e w29 ⟨v192, rfl, ho0, hb⟩
   refine ⟨_, rfl, ?_⟩
   have n0_ := Aside0.mk (Kd.S_elder' (by (with_reducible repeat (first | apply Kd.S_alloc | apply Kd.S_drewN | apply Kd.S_drew)); exact HO167.out) (Kd.R_base ho0) hb)
   have n1_ := Aside0.mk (Kd.R_elder' (kR HO173.out) (Kd.R_base ho0) hb)
   have n2_ := Aside0.mk (Kd.R_elder' (kR HO179.out) (Kd.R_base ho0) hb)
   have n3_ := Aside0.mk (Kd.V_elder' (kV HO183.out) (Kd.R_base ho0) hb)
   have n4_ := Aside0.mk (Kd.V_elder' (kV HO186.out) (Kd.R_base ho0) hb)
   have n5_ := Aside0.mk (Kd.V_elder' (kV HO189.out) (Kd.R_base ho0) hb)
   have n6_ := Aside0.mk (Kd.R_lower (Kd.R_new' (Kd.R_new' ho0 (Kd.R_lt (kR HO173.out))) (Kd.R_lt (kR HO179.out))) (below_size bB))
   have n7_ := Aside0.mk (blk_below (g := gb164) (o := .cells #[.int .i64 a0_0, .int .i64 a0_1, .int .i64 a0_2, .int .u64 a0_3, .int .u64 a0_4, .int .u64 a0_5] 24 (0, 0)) (kB BK164.out) hb)
   have n8_ := Aside0.mk (below_step bB hb)
   clear HO167
   clear HO173
   clear HO179
   clear HO183
   clear HO186
   clear HO189
   clear BK164
   clear HB
   have HO167 := n0_
   have HO173 := n1_
   have HO179 := n2_
   have HO183 := n3_
   have HO186 := n4_
   have HO189 := n5_
   have HO193 := n6_
   have BK164 := n7_
   have HB := n8_
   clear n0_ n1_ n2_ n3_ n4_ n5_ n6_ n7_ n8_
   (try clear hb)
   (try clear hb2)
   (try clear hk)
   (try clear hi)
   (try clear ho0)
   refine hK.out _ _ ⟨(blk_cell BK164.out 0).trans rfl, (blk_cell BK164.out 1).trans rfl, (blk_cell BK164.out 2).trans rfl, (blk_cell BK164.out 3).trans rfl, (blk_cell BK164.out 4).trans rfl, (blk_cell BK164.out 5).trans rfl⟩ (fun hHeld => ?_)
   clear hK K
   refine norm_ (a' := ?_) ?_ ?_
   rotate_left
   ·show Act.put _ (some 28) _ = _
    simp only [Act.put, List.setIfInBounds_toArray, List.set_cons_zero, List.set_cons_succ, i64_w, i32_w]
    rfl
   refine pure_ (i := 15) (N := some 29) (v := ?_) (a' := ?_) #[true, true, true, true, true, true, true, true, true, true, true, true, true, true, true, true, false, false, false] rfl rfl (any_of HT_.out (by kernel_rfl)) (fun _ _ _ h => h) (Or.inl ⟨by rfl, ?_⟩) ?_ ?_
   rotate_left
   ·intro w'
    go_simp
    with_reducible rfl
   rotate_left
   ·simp only [Act.put, List.setIfInBounds_toArray, List.set_cons_zero, List.set_cons_succ, i64_w, i32_w]
    rfl
   refine pure_ (i := 16) (N := some 30) (v := ?_) (a' := ?_) #[true, true, true, true, true, true, true, true, true, true, true, true, true, true, true, true, true, false, false] rfl rfl (any_of HT_.out (by kernel_rfl)) (fun _ _ _ h => h) (Or.inl ⟨by rfl, ?_⟩) ?_ ?_
   rotate_left
   ·intro w'
    go_simp
    with_reducible rfl
   rotate_left
   ·simp only [Act.put, List.setIfInBounds_toArray, List.set_cons_zero, List.set_cons_succ, i64_w, i32_w]
    rfl
   refine pure_ (i := 17) (N := some 12) (v := ?_) (a' := ?_) #[true, true, true, true, true, true, true, true, true, true, true, true, true, true, true, true, true, true, false] rfl rfl (any_of HT_.out (by kernel_rfl)) (fun _ _ _ h => h) (Or.inl ⟨by rfl, ?_⟩) ?_ ?_
   rotate_left
   ·intro w'
    go_simp
    with_reducible rfl
   rotate_left
   ·simp only [Act.put, List.setIfInBounds_toArray, List.set_cons_zero, List.set_cons_succ, i64_w, i32_w]
    rfl
   refine pure_ (i := 18) (N := some 13) (v := ?_) (a' := ?_) #[true, true, true, true, true, true, true, true, true, true, true, true, true, true, true, true, true, true, true] rfl rfl (any_of HT_.out (by kernel_rfl)) (fun _ _ _ h => h) (Or.inl ⟨by rfl, ?_⟩) ?_ ?_
   rotate_left
   ·intro w'
    go_simp
    with_reducible rfl
   rotate_left
   ·simp only [Act.put, List.setIfInBounds_toArray, List.set_cons_zero, List.set_cons_succ, i64_w, i32_w]
    rfl
   refine done_ (done_of HT_.out (by kernel_rfl)) ?_
   try go_wp2
   go_ret2
   exact ⟨_, by first | rfl | (simp [errW_none, errW_some] <;> rfl) | (simp [*, errW_none, errW_some] <;> rfl), by (with_reducible repeat (first | apply Kd.R_alloc | apply Kd.R_drewN | apply Kd.R_drew)); exact Kd.R_mono HO193.out (fun _ hk => trivial), bB⟩
  ·rw [if_neg c9] at H
   exact absurd H (by simp)
 ·rw [if_neg c8] at H
  exact absurd H (by simp)

end Go.Proofs.YtkmdkmlgahfcpaaDoor.M

