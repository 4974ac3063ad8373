-- Written by a program of ours (wip/xp) out of the translation; Lean checks it.
import Derived.Test.YtkmdkmlgahfcpaaMm1
import Derived.Test.YtkmdkmlgahfcpaaMm2
namespace Go.Proofs.Ytkmdkmlgahfcpaa.M
open Go.RowKit Go.Proofs.YtkmdkmlgahfcpaaW.PrintWords Go.Proofs.YtkmdkmlgahfcpaaW.PrintLast Go.Proofs.YtkmdkmlgahfcpaaW.PrintMore
attribute [local go_sem] max2_int min2_int max_two min_two max_three min_three max_four min_four   -- for this text's walks alone
set_option linter.unusedVariables false
set_option linter.unusedSimpArgs false

/-! ### spec_HashChildren: function 48 -/
def spec_HashChildren.l0 : Nat → List Int → List Int → List Int → Int → Option (List Int)
  | 0, _, _, _, _ => none
  | k + 1, x1, x2, x7, x8 => if x8 ≥ 0 then (if 0 ≤ x8 then ((some (([(shr .u64 (IntKind.u64.wrap ((x1.length : Int))) x8) % 256] : List Int) : List Int)).bind fun y314 => (if x7.length + y314.length < 140737488355328 then (spec_HashChildren.l0 k x1 x2 (x7 ++ y314) (wrap64 (x8 - 8))) else (none))) else (none)) else (if x7.length + x1.length < 140737488355328 then ((some (x7 ++ x1 : List Int)).bind fun y320 => (if y320.length + x2.length < 140737488355328 then (some (y320 ++ x2)) else (none))) else (none))
def spec_HashChildren.f (k : Nat) (a0_0 : Int) (a0_1 : Int) (a0_2 : Int) (a0_3 : Int) (a0_4 : Int) (a0_5 : Int) (l1 : List Int) (l2 : List Int) : Option (List Int) := (spec_Terms.f a0_0 a0_1 a0_2 a0_3 a0_4 a0_5).bind fun t310 => (if t310 = true then (spec_HashChildren.l0 k l1 l2 (([1] : List Int)) 56) else ((some (([] : List Int) : List Int)).bind fun y326 => (if y326.length + l1.length < 140737488355328 then ((some (y326 ++ l1 : List Int)).bind fun y329 => ((some (([255] : List Int) : List Int)).bind fun y332 => (if y329.length + y332.length < 140737488355328 then ((some (y329 ++ y332 : List Int)).bind fun y335 => (if y335.length + l2.length < 140737488355328 then ((spec_word.f k a0_0 a0_1 a0_2 a0_3 a0_4 a0_5 a0_5 (y335 ++ l2)).bind fun t341 => (some t341)) else (none))) else (none)))) else (none))))
theorem spec_HashChildren.mono_l : ∀ k, (∀ y0 y1 y2 y3, LeO (spec_HashChildren.l0 k y0 y1 y2 y3) (spec_HashChildren.l0 (k + 1) y0 y1 y2 y3))
  | 0 => fun _ _ _ _ r h => by simp [spec_HashChildren.l0] at h
  | k + 1 => by
    have ih0 := spec_HashChildren.mono_l k
    · intro y0 y1 y2 y3
      unfold spec_HashChildren.l0
      repeat' first
      | (with_reducible exact ih0 _ _ _ _)
      | (with_reducible exact spec_word.mono _ _ _ _ _ _ _ _ _)
      | (with_reducible exact LeO.refl _)
      | (with_reducible exact LeO.none _)
      | (with_reducible refine LeO.ite ?_ ?_)
      | (with_reducible refine LeO.bind ?_ (fun _ => ?_))
      | exact ih0 _ _ _ _
      | exact spec_word.mono _ _ _ _ _ _ _ _ _
      | exact LeO.none _
      | refine LeO.ite ?_ ?_
      | refine LeO.bind ?_ (fun _ => ?_)
theorem spec_HashChildren.mono : ∀ a0 a1 a2 a3 a4 a5 a6 a7 k, LeO (spec_HashChildren.f k a0 a1 a2 a3 a4 a5 a6 a7) (spec_HashChildren.f (k + 1) a0 a1 a2 a3 a4 a5 a6 a7) := by
  intro a0 a1 a2 a3 a4 a5 a6 a7 k
  have ih0 := spec_HashChildren.mono_l k
  unfold spec_HashChildren.f
  repeat' first
      | (with_reducible exact ih0 _ _ _ _)
      | (with_reducible exact spec_word.mono _ _ _ _ _ _ _ _ _)
      | (with_reducible exact LeO.refl _)
      | (with_reducible exact LeO.none _)
      | (with_reducible refine LeO.ite ?_ ?_)
      | (with_reducible refine LeO.bind ?_ (fun _ => ?_))
      | exact ih0 _ _ _ _
      | exact spec_word.mono _ _ _ _ _ _ _ _ _
      | exact LeO.none _
      | refine LeO.ite ?_ ?_
      | refine LeO.bind ?_ (fun _ => ?_)
def spec_HashChildren.T8 : Bool × List (List Nat × List Nat) := (true, [([], []), ([], []), ([1], [1]), ([], []), ([], []), ([3, 4], [3, 4]), ([], []), ([5, 6, 5], [5, 6]), ([], []), ([7, 8, 7], [7, 8]), ([0, 2, 9, 9], [0, 2, 9]), ([10, 10, 0, 1, 2, 3, 4, 5, 6, 7, 8, 9, 10], [10])])
def spec_HashChildren.B8 : List Nat := [0, 0, 2, 0, 0, 24, 0, 120, 0, 504, 1023, 2047]
theorem spec_HashChildren.tab8 : rtab .any (opsOf Try.f48 8) = spec_HashChildren.T8 := by kernel_rfl
theorem spec_HashChildren.bits8 : waitsOk spec_HashChildren.T8.2 spec_HashChildren.B8 = true := by kernel_rfl
set_option maxHeartbeats 8000000 in
set_option maxRecDepth 100000 in
theorem spec_HashChildren.calls (k : Nat) (a0_0 : Int) (a0_1 : Int) (a0_2 : Int) (a0_3 : Int) (a0_4 : Int) (a0_5 : Int) (A1 : Option Addr) (c1 : Nat) (l1 : List Int) (A2 : Option Addr) (c2 : Nat) (l2 : List Int) (r : List Int) (w : World) (hr1 : Kd.C (Kd.int .u8) w A1 l1.length l1) (hc1 : l1.length ≤ c1) (hr2 : Kd.C (Kd.int .u8) w A2 l2.length l2) (hc2 : l2.length ≤ c2) (h : spec_HashChildren.f k a0_0 a0_1 a0_2 a0_3 a0_4 a0_5 l1 l2 = some r) :
    Calls Try.prog 48 #[.agg #[.int .i64 a0_0, .int .i64 a0_1, .int .i64 a0_2, .int .u64 a0_3, .int .u64 a0_4, .int .u64 a0_5], .slice A1 l1.length c1, .slice A2 l2.length c2] w fun e w' => ∃ v0_ : Value, e = .returned (v0_) ∧ Kd.R (Kd.int .u8) 5 w' w.heap.size (fun _ => True) v0_ r ∧ Below w.heap.size w w' := by
  have hu29 := Try.underlying29
  have HR1 := Aside0.mk hr1
  have HC1 := Aside0.mk hc1
  clear hr1 hc1
  have HR2 := Aside0.mk hr2
  have HC2 := Aside0.mk hc2
  clear hr2 hc2
  have HB := Aside0.mk (Below.refl w.heap.size w)
  have H : ((spec_Terms.f a0_0 a0_1 a0_2 a0_3 a0_4 a0_5).bind fun t310 => (if t310 = true then (spec_HashChildren.l0 k l1 l2 (([1] : List Int)) 56) else ((some (([] : List Int) : List Int)).bind fun y326 => (if y326.length + l1.length < 140737488355328 then ((some (y326 ++ l1 : List Int)).bind fun y329 => ((some (([255] : List Int) : List Int)).bind fun y332 => (if y329.length + y332.length < 140737488355328 then ((some (y329 ++ y332 : List Int)).bind fun y335 => (if y335.length + l2.length < 140737488355328 then ((spec_word.f k a0_0 a0_1 a0_2 a0_3 a0_4 a0_5 a0_5 (y335 ++ l2)).bind fun t341 => (some t341)) else (none))) else (none)))) else (none))))) = some r := h
  clear h
  replace H := Option.bind_eq_some_iff.mp H
  obtain ⟨t310, A40, H⟩ := H
  replace H : (if t310 = true then (spec_HashChildren.l0 k l1 l2 (([1] : List Int)) 56) else ((some (([] : List Int) : List Int)).bind fun y326 => (if y326.length + l1.length < 140737488355328 then ((some (y326 ++ l1 : List Int)).bind fun y329 => ((some (([255] : List Int) : List Int)).bind fun y332 => (if y329.length + y332.length < 140737488355328 then ((some (y329 ++ y332 : List Int)).bind fun y335 => (if y335.length + l2.length < 140737488355328 then ((spec_word.f k a0_0 a0_1 a0_2 a0_3 a0_4 a0_5 a0_5 (y335 ++ l2)).bind fun t341 => (some t341)) else (none))) else (none)))) else (none)))) = some r := H
  have A4 := Aside0.mk A40
  clear A40
  by_cases c5 : t310 = true
  · subst c5
    have H1 : (spec_HashChildren.l0 k l1 l2 (([1] : List Int)) 56) = some r := by rw [if_pos rfl] at H; exact H
    clear H
    have H := H1
    clear H1
    obtain ⟨y311, hy311⟩ : ∃ y_ : List Int, y_ = (([1] : List Int)) := ⟨_, rfl⟩
    replace H : (spec_HashChildren.l0 k l1 l2 y311 56) = some r := by first | (rw [hy311]; with_reducible exact H) | (have H2_ := (Option.bind_some _ _).symm.trans H; rw [hy311]; with_reducible exact H2_) | (have H2_ := (Option.bind_some _ _).symm.trans H; with_reducible exact H2_) | with_reducible exact H | (rw [hy311]; exact H) | exact H
    have Ny311 := Aside0.mk hy311
    clear hy311
    have H' := Aside0.mk H
    clear H
    go_enter Try.func48, Try.ntmps48
    go_wp2_with (first | ((with_reducible refine gate_dst (N := 3) rfl ?_); refine box_event ?hg (N := 3) ?hd (cs := #[.int .i64 a0_0, .int .i64 a0_1, .int .i64 a0_2, .int .u64 a0_3, .int .u64 a0_4, .int .u64 a0_5]) (t := 29) ?hr ?_; (case hd => rfl); (case hg => rfl); (case hr => first | (go_simp; done) | (go_simp; rfl)); intro gb309 hg w6 hbox hb; have n0_ := Aside0.mk (below_step (by repeat (first | (with_reducible first | exact HB.out | apply below_alloc | apply pw_below_drewN | apply below_drew1) | exact HB.out)) hb); have n1_ := Aside0.mk (hbox); have n2_ := Aside0.mk ((by rw [hg]; exact (below_size (by repeat (first | (with_reducible first | exact HB.out | apply below_alloc | apply pw_below_drewN | apply below_drew1) | exact HB.out))) : w.heap.size ≤ gb309)); have n3_ := Aside0.mk ((by rw [hg]; exact (below_size (by repeat (first | (with_reducible first | exact HB.out | apply below_alloc | apply pw_below_drewN | apply below_drew1) | exact HB.out))) : w.heap.size ≤ gb309)); clear HB; have HB := n0_; have BK309 := n1_; have GW309 := n2_; have GE309 := n3_; clear n0_ n1_ n2_ n3_; clear hb hbox hg; have hcz7_0 : w6.cell? ⟨gb309, 0, none⟩ = some (.int .i64 a0_0) := (blk_cell BK309.out 0).trans rfl; have hcz7_1 : w6.cell? ⟨gb309, 1, none⟩ = some (.int .i64 a0_1) := (blk_cell BK309.out 1).trans rfl; have hcz7_2 : w6.cell? ⟨gb309, 2, none⟩ = some (.int .i64 a0_2) := (blk_cell BK309.out 2).trans rfl; have hcz7_3 : w6.cell? ⟨gb309, 3, none⟩ = some (.int .u64 a0_3) := (blk_cell BK309.out 3).trans rfl; have hcz7_4 : w6.cell? ⟨gb309, 4, none⟩ = some (.int .u64 a0_4) := (blk_cell BK309.out 4).trans rfl; have hcz7_5 : w6.cell? ⟨gb309, 5, none⟩ = some (.int .u64 a0_5) := (blk_cell BK309.out 5).trans rfl; have hfz7_0 := blk_frozen BK309.out 0; have hfz7_1 := blk_frozen BK309.out 1; have hfz7_2 := blk_frozen BK309.out 2; have hfz7_3 := blk_frozen BK309.out 3; have hfz7_4 := blk_frozen BK309.out 4; have hfz7_5 := blk_frozen BK309.out 5) | ((with_reducible refine gate_callee (f := 50) rfl ?_); refine goesL_ (some 10) rfl rfl Try.func50 (by kernel_rfl) rfl #[.agg #[.int .i64 a0_0, .int .i64 a0_1, .int .i64 a0_2, .int .u64 a0_3, .int .u64 a0_4, .int .u64 a0_5]] rfl (by (try simp only [List.map_toArray, List.map_cons, List.map_nil]); first | done | rfl | (simp only [List.length_drop, List.length_take]; rfl)) ?_; (with_reducible refine (spec_Terms.calls a0_0 a0_1 a0_2 a0_3 a0_4 a0_5 true _ A4.out).mono ?_); rintro e w8 ⟨rfl, hb⟩; refine ⟨_, rfl, ?_⟩; have n0_ := Aside0.mk (blk_below (g := gb309) (o := .cells #[.int .i64 a0_0, .int .i64 a0_1, .int .i64 a0_2, .int .u64 a0_3, .int .u64 a0_4, .int .u64 a0_5] 29 (0, 0)) (by (with_reducible repeat (first | refine blk_drewN ?_ _ | refine blk_drew ?_ | refine blk_alloc ?_ _)); exact BK309.out) hb); have n1_ := Aside0.mk (below_step (by repeat (first | (with_reducible first | exact HB.out | apply below_alloc | apply pw_below_drewN | apply below_drew1 | refine below_set ?_ GE309.out) | exact HB.out)) hb); clear BK309; clear HB; have BK309 := n0_; have HB := n1_; clear n0_ n1_; (try clear hb); (try clear hb2); (try clear hk); (try clear hi)) | ((with_reducible refine gate_dst (N := 11) rfl ?_); refine Kd.R_lit (Kd.int .u8) _ 5 ?hg (N := 11) ?hd (xs := ([1] : List Int)) (inner := [.int .u8 1]) (ok := fun _ => True) (okp := fun _ => True) ?hr ?hp (fun _ hk => hk) trivial (Below.refl _ _) (Nat.le_refl _) (by simp) ?_; (case hd => rfl); (case hg => rfl); (case hr => first | (go_simp; done) | (go_simp; rfl)); (case hp => exact (Reps.one (show Kd.M (Kd.int .u8) _ _ _ 1 [.int .u8 1] from rfl) (Reps.none _ _))); intro v312 w9 ho10 hb hg_ hnew_; clear hg_ hnew_; (first | rw [← Ny311.out] at ho10 | (simp only [Int.reduceToNat] at ho10; rw [← Ny311.out] at ho10)); have n0_ := Aside0.mk (Kd.R_lower ho10 (below_size (by repeat (first | (with_reducible first | exact HB.out | apply below_alloc | apply pw_below_drewN | apply below_drew1 | refine below_set ?_ GE309.out) | exact HB.out)))); have n1_ := Aside0.mk (blk_below (g := gb309) (o := .cells #[.int .i64 a0_0, .int .i64 a0_1, .int .i64 a0_2, .int .u64 a0_3, .int .u64 a0_4, .int .u64 a0_5] 29 (0, 0)) (by (with_reducible repeat (first | refine blk_drewN ?_ _ | refine blk_drew ?_ | refine blk_alloc ?_ _)); exact BK309.out) hb); have n2_ := Aside0.mk (below_step (by repeat (first | (with_reducible first | exact HB.out | apply below_alloc | apply pw_below_drewN | apply below_drew1 | refine below_set ?_ GE309.out) | exact HB.out)) hb); clear BK309; clear HB; have HO313 := n0_; have BK309 := n1_; have HB := n2_; clear n0_ n1_ n2_; clear hb ho10))
    go_loopg [7, 8] k (fun kq v7 v8 w' => ∃ (x7_1 : List Int) (x8_1 : Int), v8 = .int .i64 x8_1 ∧ Aside0 (spec_HashChildren.l0 kq l1 l2 x7_1 x8_1 = some r) ∧ Aside0 (kq ≤ k) ∧ Aside0 (Kd.R (Kd.int .u8) 5 w' w.heap.size (fun _ => True) v7 x7_1) ∧ Aside0 (w'.heap[gb309]? = some (.cells #[.int .i64 a0_0, .int .i64 a0_1, .int .i64 a0_2, .int .u64 a0_3, .int .u64 a0_4, .int .u64 a0_5] 29 (0, 0))) ∧ Aside0 (Below w.heap.size w w'))
    case atStart => exact ⟨(y311), (56), (by first | rfl | (simp; done) | (simp [*]; done)), H', ⟨Nat.le_refl _⟩, ⟨by (with_reducible repeat (first | apply Kd.R_alloc | apply Kd.R_drewN | apply Kd.R_drew)); exact HO313.out⟩, ⟨by (with_reducible repeat (first | refine blk_drewN ?_ _ | refine blk_drew ?_ | refine blk_alloc ?_ _)); exact BK309.out⟩, ⟨by repeat (first | (with_reducible first | exact HB.out | apply below_alloc | apply pw_below_drewN | apply below_drew1 | refine below_set ?_ GE309.out) | exact HB.out)⟩⟩
    case round =>
      clear H'
      try clear c1
      try clear c2
      try clear p2
      try clear c4
      try clear c5
      try clear hcz7_0
      try clear hcz7_1
      try clear hcz7_2
      try clear hcz7_3
      try clear hcz7_4
      try clear hcz7_5
      try clear hfz7_0
      try clear hfz7_1
      try clear hfz7_2
      try clear hfz7_3
      try clear hfz7_4
      try clear hfz7_5
      obtain ⟨x7_1, x8_1, rfl, HA, HK1, HO_7, BK309, HB⟩ := hrel
      cases gk with
      | zero => exact absurd HA.out (by simp [spec_HashChildren.l0])
      | succ k1 =>
        have H := HA.out
        clear HA
        simp only [spec_HashChildren.l0] at H
        by_cases c11 : x8_1 ≥ 0
        · rw [if_pos c11] at H
          have c11b0 : decide (0 ≤ x8_1) = true := decide_eq_true c11
          clear c11
          by_cases c12 : 0 ≤ x8_1
          · rw [if_pos c12] at H
            have c12b0 := eq_true c12
            have c12b1 : decide (0 ≤ x8_1) = true := decide_eq_true c12
            clear c12
            obtain ⟨ji13, hji13⟩ : ∃ j_ : Int, (shr .u64 (IntKind.u64.wrap ((l1.length : Int))) x8_1) = j_ := ⟨_, rfl⟩
            replace H : ((some (([(ji13) % 256] : List Int) : List Int)).bind fun y314 => (if x7_1.length + y314.length < 140737488355328 then (spec_HashChildren.l0 k1 l1 l2 (x7_1 ++ y314) (wrap64 (x8_1 - 8))) else (none))) = some r := by first | (rw [hji13] at H; exact H) | (simp only [hji13] at H ⊢; exact H)
            have hji13_ : ((IntKind.u64.wrap ((l1.length : Int))) / 2 ^ min x8_1.toNat 64) = ji13 := hji13
            have hji13z : x8_1 ≤ 64 → ((IntKind.u64.wrap ((l1.length : Int))) / 2 ^ x8_1.toNat) = ji13 := shr_small hji13
            obtain ⟨y314, hy314⟩ : ∃ y_ : List Int, y_ = (([(ji13) % 256] : List Int)) := ⟨_, rfl⟩
            replace H : (if x7_1.length + y314.length < 140737488355328 then (spec_HashChildren.l0 k1 l1 l2 (x7_1 ++ y314) (wrap64 (x8_1 - 8))) else (none)) = some r := by first | (rw [hy314]; with_reducible exact H) | (have H2_ := (Option.bind_some _ _).symm.trans H; rw [hy314]; with_reducible exact H2_) | (have H2_ := (Option.bind_some _ _).symm.trans H; with_reducible exact H2_) | with_reducible exact H | (rw [hy314]; exact H) | exact H
            have Ny314 := Aside0.mk hy314
            clear hy314
            by_cases c14 : x7_1.length + y314.length < 140737488355328
            · rw [if_pos c14] at H
              have LMc14 := Aside0.mk c14
              clear c14
              obtain ⟨y317, hy317⟩ : ∃ y_ : List Int, y_ = (x7_1 ++ y314) := ⟨_, rfl⟩
              replace H : (spec_HashChildren.l0 k1 l1 l2 y317 (wrap64 (x8_1 - 8))) = some r := by first | (rw [hy317]; with_reducible exact H) | (have H2_ := (Option.bind_some _ _).symm.trans H; rw [hy317]; with_reducible exact H2_) | (have H2_ := (Option.bind_some _ _).symm.trans H; with_reducible exact H2_) | with_reducible exact H | (rw [hy317]; exact H) | exact H
              have Ny317 := Aside0.mk hy317
              clear hy317
              have H' := Aside0.mk H
              clear H
              go_wp2_with (first | ((with_reducible refine gate_dst (N := 23) rfl ?_); refine Kd.R_lit (Kd.int .u8) _ 5 ?hg (N := 23) ?hd (xs := ([(ji13) % 256] : List Int)) (inner := [.int .u8 ((ji13) % 256)]) (ok := fun _ => True) (okp := fun _ => True) ?hr ?hp (fun _ hk => hk) trivial (Below.refl _ _) (Nat.le_refl _) (by simp) ?_; (case hd => rfl); (case hg => rfl); (case hr => first | (go_simp; done) | (go_simp; rfl)); (case hp => exact (Reps.one (show Kd.M (Kd.int .u8) _ _ _ ((ji13) % 256) [.int .u8 ((ji13) % 256)] from rfl) (Reps.none _ _))); intro v315 w15 ho16 hb hg_ hnew_; clear hg_ hnew_; (first | rw [← Ny314.out] at ho16 | (simp only [Int.reduceToNat] at ho16; rw [← Ny314.out] at ho16)); have n0_ := Aside0.mk (Kd.R_elder' (by (with_reducible repeat (first | apply Kd.R_alloc | apply Kd.R_drewN | apply Kd.R_drew)); exact HO_7.out) (Kd.R_base ho16) hb); have n1_ := Aside0.mk (Kd.R_lower (Kd.R_new' ho16 (Kd.R_lt (by (with_reducible repeat (first | apply Kd.R_alloc | apply Kd.R_drewN | apply Kd.R_drew)); exact HO_7.out))) (below_size (by repeat (first | (with_reducible first | exact HB.out | apply below_alloc | apply pw_below_drewN | apply below_drew1 | refine below_set ?_ GE309.out) | exact HB.out)))); have n2_ := Aside0.mk (blk_below (g := gb309) (o := .cells #[.int .i64 a0_0, .int .i64 a0_1, .int .i64 a0_2, .int .u64 a0_3, .int .u64 a0_4, .int .u64 a0_5] 29 (0, 0)) (by (with_reducible repeat (first | refine blk_drewN ?_ _ | refine blk_drew ?_ | refine blk_alloc ?_ _)); exact BK309.out) hb); have n3_ := Aside0.mk (below_step (by repeat (first | (with_reducible first | exact HB.out | apply below_alloc | apply pw_below_drewN | apply below_drew1 | refine below_set ?_ GE309.out) | exact HB.out)) hb); clear HO_7; clear BK309; clear HB; have HO_7 := n0_; have HO316 := n1_; have BK309 := n2_; have HB := n3_; clear n0_ n1_ n2_ n3_; clear hb ho16; obtain ⟨Ao18, co18, eo18⟩ := Kd.R_slice HO316.out; subst eo18) | ((with_reducible refine gate_builtin (b := .append) (xs := #[.tmp 16, .tmp 23]) rfl ?_); at_builtin; refine Kd.R_append_rows (Kd.int .u8) (w0 := w) w.heap.size rfl (.tmp 16) (.tmp 23) 30 5 (.int .u8 0) 1 rfl Try.underlying30 info5 rfl (by decide) (by omega) u7 x7_1 y314 _ _ _ (fun k_ => some k_ ≠ (.slice Ao18 y314.length co18 : Value).ownBlock) (fun _ => False) rfl rfl ?aO ?aR (fun _ _ h => h) (fun _ h => h.elim) ?aF ?aB ?aS ?aL ?_; (case aR => repeat (first | exact (Kd.R_reads' HO316.out).2.2 | (with_reducible refine Kd.C_alloc ?_ _) | (with_reducible refine Kd.C_drewN ?_ _) | (with_reducible refine Kd.C_drew ?_))); (case aB => exact (by repeat (first | (with_reducible first | exact HB.out | apply below_alloc | apply pw_below_drewN | apply below_drew1 | refine below_set ?_ GE309.out) | exact HB.out))); (case aF => exact (fun k_ hk => Kd.fresh' (Kd.R_lt (by (with_reducible repeat (first | apply Kd.R_alloc | apply Kd.R_drewN | apply Kd.R_drew)); exact HO316.out)) k_ hk)); (case aO => exact (by (with_reducible repeat (first | apply Kd.R_alloc | apply Kd.R_drewN | apply Kd.R_drew)); exact Kd.R_mono HO_7.out (fun _ hk => hk.2))); (case aS => exact (below_size (by repeat (first | (with_reducible first | exact HB.out | apply below_alloc | apply pw_below_drewN | apply below_drew1 | refine below_set ?_ GE309.out) | exact HB.out)))); (case aL => have := LMc14.out; omega); intro v318 w17 ho hb hg hat; rw [← Ny317.out] at ho; have n0_ := Aside0.mk (blk_grown (g := gb309) (o := .cells #[.int .i64 a0_0, .int .i64 a0_1, .int .i64 a0_2, .int .u64 a0_3, .int .u64 a0_4, .int .u64 a0_5] 29 (0, 0)) (by (with_reducible repeat (first | refine blk_drewN ?_ _ | refine blk_drew ?_ | refine blk_alloc ?_ _)); exact BK309.out) hg (Kd.R_ne HO_7.out BK309.out (by decide))); have n1_ := Aside0.mk (Kd.R_after (ok := (fun _ => True)) (by (with_reducible repeat (first | apply Kd.R_alloc | apply Kd.R_drewN | apply Kd.R_drew)); exact HO316.out) hg hat); have n2_ := Aside0.mk (hb); have n3_ := Aside0.mk (ho); clear BK309; clear HO316; clear HB; clear HO_7; have BK309 := n0_; have HO316 := n1_; have HB := n2_; have HO319 := n3_; clear n0_ n1_ n2_ n3_; clear ho hb hg hat))
              go_roundg k1
              case measure => have := HK1.out; omega
              case rel => exact ⟨(y317), (wrap64 (x8_1 - 8)), (by first | rfl | (simp; done) | (simp [*]; done)), H', ⟨by have := HK1.out; omega⟩, ⟨by (with_reducible repeat (first | apply Kd.R_alloc | apply Kd.R_drewN | apply Kd.R_drew)); exact Kd.R_mono HO319.out (fun _ hk => trivial)⟩, ⟨by (with_reducible repeat (first | refine blk_drewN ?_ _ | refine blk_drew ?_ | refine blk_alloc ?_ _)); exact BK309.out⟩, ⟨by repeat (first | (with_reducible first | exact HB.out | apply below_alloc | apply pw_below_drewN | apply below_drew1 | refine below_set ?_ GE309.out) | exact HB.out)⟩⟩
            · rw [if_neg c14] at H
              exact absurd H (by simp)
          · rw [if_neg c12] at H
            exact absurd H (by simp)
        · rw [if_neg c11] at H
          have c11b0 : decide (0 ≤ x8_1) = false := decide_eq_false c11
          clear c11
          by_cases c19 : x7_1.length + l1.length < 140737488355328
          · rw [if_pos c19] at H
            have LMc19 := Aside0.mk c19
            clear c19
            obtain ⟨y320, hy320⟩ : ∃ y_ : List Int, y_ = (x7_1 ++ l1) := ⟨_, rfl⟩
            replace H : (if y320.length + l2.length < 140737488355328 then (some (y320 ++ l2)) else (none)) = some r := by first | (rw [hy320]; with_reducible exact H) | (have H2_ := (Option.bind_some _ _).symm.trans H; rw [hy320]; with_reducible exact H2_) | (have H2_ := (Option.bind_some _ _).symm.trans H; with_reducible exact H2_) | with_reducible exact H | (rw [hy320]; exact H) | exact H
            have Ny320 := Aside0.mk hy320
            clear hy320
            by_cases c20 : y320.length + l2.length < 140737488355328
            · rw [if_pos c20] at H
              have LMc20 := Aside0.mk c20
              clear c20
              obtain ⟨y323, hy323⟩ : ∃ y_ : List Int, y_ = (y320 ++ l2) := ⟨_, rfl⟩
              replace H : (some y323) = some r := by first | (rw [hy323]; with_reducible exact H) | (have H2_ := (Option.bind_some _ _).symm.trans H; rw [hy323]; with_reducible exact H2_) | (have H2_ := (Option.bind_some _ _).symm.trans H; with_reducible exact H2_) | with_reducible exact H | (rw [hy323]; exact H) | exact H
              have Ny323 := Aside0.mk hy323
              clear hy323
              obtain rfl := Option.some.inj H
              go_wp2_with (first | ((with_reducible refine gate_builtin (b := .append) (xs := #[.tmp 25, .tmp 26]) rfl ?_); at_builtin; refine Kd.R_append_rows (Kd.int .u8) (w0 := w) w.heap.size rfl (.tmp 25) (.tmp 26) 30 5 (.int .u8 0) 1 rfl Try.underlying30 info5 rfl (by decide) (by omega) u7 x7_1 l1 _ _ _ (fun _ => True) (fun _ => False) rfl rfl ?aO ?aR (fun _ _ h => h) (fun _ h => h.elim) ?aF ?aB ?aS ?aL ?_; (case aR => repeat (first | exact (Kd.C_below HR1.out HB.out) | (with_reducible refine Kd.C_alloc ?_ _) | (with_reducible refine Kd.C_drewN ?_ _) | (with_reducible refine Kd.C_drew ?_))); (case aB => exact (by repeat (first | (with_reducible first | exact HB.out | apply below_alloc | apply pw_below_drewN | apply below_drew1 | refine below_set ?_ GE309.out) | exact HB.out))); (case aF => exact (fun _ _ => trivial)); (case aO => exact (by (with_reducible repeat (first | apply Kd.R_alloc | apply Kd.R_drewN | apply Kd.R_drew)); exact HO_7.out)); (case aS => exact (below_size (by repeat (first | (with_reducible first | exact HB.out | apply below_alloc | apply pw_below_drewN | apply below_drew1 | refine below_set ?_ GE309.out) | exact HB.out)))); (case aL => have := LMc19.out; omega); intro v321 w21 ho hb hg hat; rw [← Ny320.out] at ho; have n0_ := Aside0.mk (blk_grown (g := gb309) (o := .cells #[.int .i64 a0_0, .int .i64 a0_1, .int .i64 a0_2, .int .u64 a0_3, .int .u64 a0_4, .int .u64 a0_5] 29 (0, 0)) (by (with_reducible repeat (first | refine blk_drewN ?_ _ | refine blk_drew ?_ | refine blk_alloc ?_ _)); exact BK309.out) hg (Kd.R_ne HO_7.out BK309.out (by decide))); have n1_ := Aside0.mk (hb); have n2_ := Aside0.mk (ho); clear BK309; clear HB; clear HO_7; have BK309 := n0_; have HB := n1_; have HO322 := n2_; clear n0_ n1_ n2_; clear ho hb hg hat) | ((with_reducible refine gate_builtin (b := .append) (xs := #[.tmp 27, .tmp 28]) rfl ?_); at_builtin; refine Kd.R_append_rows (Kd.int .u8) (w0 := w) w.heap.size rfl (.tmp 27) (.tmp 28) 30 5 (.int .u8 0) 1 rfl Try.underlying30 info5 rfl (by decide) (by omega) v321 y320 l2 _ _ _ (fun _ => True) (fun _ => False) rfl rfl ?aO ?aR (fun _ _ h => h) (fun _ h => h.elim) ?aF ?aB ?aS ?aL ?_; (case aR => repeat (first | exact (Kd.C_below HR2.out HB.out) | (with_reducible refine Kd.C_alloc ?_ _) | (with_reducible refine Kd.C_drewN ?_ _) | (with_reducible refine Kd.C_drew ?_))); (case aB => exact (by repeat (first | (with_reducible first | exact HB.out | apply below_alloc | apply pw_below_drewN | apply below_drew1 | refine below_set ?_ GE309.out) | exact HB.out))); (case aF => exact (fun _ _ => trivial)); (case aO => exact (by (with_reducible repeat (first | apply Kd.R_alloc | apply Kd.R_drewN | apply Kd.R_drew)); exact HO322.out)); (case aS => exact (below_size (by repeat (first | (with_reducible first | exact HB.out | apply below_alloc | apply pw_below_drewN | apply below_drew1 | refine below_set ?_ GE309.out) | exact HB.out)))); (case aL => have := LMc20.out; omega); intro v324 w22 ho hb hg hat; rw [← Ny323.out] at ho; have n0_ := Aside0.mk (blk_grown (g := gb309) (o := .cells #[.int .i64 a0_0, .int .i64 a0_1, .int .i64 a0_2, .int .u64 a0_3, .int .u64 a0_4, .int .u64 a0_5] 29 (0, 0)) (by (with_reducible repeat (first | refine blk_drewN ?_ _ | refine blk_drew ?_ | refine blk_alloc ?_ _)); exact BK309.out) hg (Kd.R_ne HO322.out BK309.out (by decide))); have n1_ := Aside0.mk (hb); have n2_ := Aside0.mk (ho); clear BK309; clear HB; clear HO322; have BK309 := n0_; have HB := n1_; have HO325 := n2_; clear n0_ n1_ n2_; clear ho hb hg hat))
              go_ret
              exact ⟨_, by first | rfl | (simp [errW_none, errW_some] <;> rfl) | (simp [*, errW_none, errW_some] <;> rfl), by (with_reducible repeat (first | apply Kd.R_alloc | apply Kd.R_drewN | apply Kd.R_drew)); exact HO325.out, by repeat (first | (with_reducible first | exact HB.out | apply below_alloc | apply pw_below_drewN | apply below_drew1 | refine below_set ?_ GE309.out) | exact HB.out)⟩
            · rw [if_neg c20] at H
              exact absurd H (by simp)
          · rw [if_neg c19] at H
            exact absurd H (by simp)
  · replace c5 := Bool.eq_false_iff.mpr c5
    subst c5
    have H1 : ((some (([] : List Int) : List Int)).bind fun y326 => (if y326.length + l1.length < 140737488355328 then ((some (y326 ++ l1 : List Int)).bind fun y329 => ((some (([255] : List Int) : List Int)).bind fun y332 => (if y329.length + y332.length < 140737488355328 then ((some (y329 ++ y332 : List Int)).bind fun y335 => (if y335.length + l2.length < 140737488355328 then ((spec_word.f k a0_0 a0_1 a0_2 a0_3 a0_4 a0_5 a0_5 (y335 ++ l2)).bind fun t341 => (some t341)) else (none))) else (none)))) else (none))) = some r := by rw [if_neg (show ¬ (false = true) by decide)] at H; exact H
    clear H
    have H := H1
    clear H1
    obtain ⟨y326, hy326⟩ : ∃ y_ : List Int, y_ = (([] : List Int)) := ⟨_, rfl⟩
    replace H : (if y326.length + l1.length < 140737488355328 then ((some (y326 ++ l1 : List Int)).bind fun y329 => ((some (([255] : List Int) : List Int)).bind fun y332 => (if y329.length + y332.length < 140737488355328 then ((some (y329 ++ y332 : List Int)).bind fun y335 => (if y335.length + l2.length < 140737488355328 then ((spec_word.f k a0_0 a0_1 a0_2 a0_3 a0_4 a0_5 a0_5 (y335 ++ l2)).bind fun t341 => (some t341)) else (none))) else (none)))) else (none)) = some r := by first | (rw [hy326]; with_reducible exact H) | (have H2_ := (Option.bind_some _ _).symm.trans H; rw [hy326]; with_reducible exact H2_) | (have H2_ := (Option.bind_some _ _).symm.trans H; with_reducible exact H2_) | with_reducible exact H | (rw [hy326]; exact H) | exact H
    have Ny326 := Aside0.mk hy326
    clear hy326
    by_cases c23 : y326.length + l1.length < 140737488355328
    · rw [if_pos c23] at H
      have LMc23 := Aside0.mk c23
      clear c23
      obtain ⟨y329, hy329⟩ : ∃ y_ : List Int, y_ = (y326 ++ l1) := ⟨_, rfl⟩
      replace H : ((some (([255] : List Int) : List Int)).bind fun y332 => (if y329.length + y332.length < 140737488355328 then ((some (y329 ++ y332 : List Int)).bind fun y335 => (if y335.length + l2.length < 140737488355328 then ((spec_word.f k a0_0 a0_1 a0_2 a0_3 a0_4 a0_5 a0_5 (y335 ++ l2)).bind fun t341 => (some t341)) else (none))) else (none))) = some r := by first | (rw [hy329]; with_reducible exact H) | (have H2_ := (Option.bind_some _ _).symm.trans H; rw [hy329]; with_reducible exact H2_) | (have H2_ := (Option.bind_some _ _).symm.trans H; with_reducible exact H2_) | with_reducible exact H | (rw [hy329]; exact H) | exact H
      have Ny329 := Aside0.mk hy329
      clear hy329
      obtain ⟨y332, hy332⟩ : ∃ y_ : List Int, y_ = (([255] : List Int)) := ⟨_, rfl⟩
      replace H : (if y329.length + y332.length < 140737488355328 then ((some (y329 ++ y332 : List Int)).bind fun y335 => (if y335.length + l2.length < 140737488355328 then ((spec_word.f k a0_0 a0_1 a0_2 a0_3 a0_4 a0_5 a0_5 (y335 ++ l2)).bind fun t341 => (some t341)) else (none))) else (none)) = some r := by first | (rw [hy332]; with_reducible exact H) | (have H2_ := (Option.bind_some _ _).symm.trans H; rw [hy332]; with_reducible exact H2_) | (have H2_ := (Option.bind_some _ _).symm.trans H; with_reducible exact H2_) | with_reducible exact H | (rw [hy332]; exact H) | exact H
      have Ny332 := Aside0.mk hy332
      clear hy332
      by_cases c24 : y329.length + y332.length < 140737488355328
      · rw [if_pos c24] at H
        have LMc24 := Aside0.mk c24
        clear c24
        obtain ⟨y335, hy335⟩ : ∃ y_ : List Int, y_ = (y329 ++ y332) := ⟨_, rfl⟩
        replace H : (if y335.length + l2.length < 140737488355328 then ((spec_word.f k a0_0 a0_1 a0_2 a0_3 a0_4 a0_5 a0_5 (y335 ++ l2)).bind fun t341 => (some t341)) else (none)) = some r := by first | (rw [hy335]; with_reducible exact H) | (have H2_ := (Option.bind_some _ _).symm.trans H; rw [hy335]; with_reducible exact H2_) | (have H2_ := (Option.bind_some _ _).symm.trans H; with_reducible exact H2_) | with_reducible exact H | (rw [hy335]; exact H) | exact H
        have Ny335 := Aside0.mk hy335
        clear hy335
        by_cases c25 : y335.length + l2.length < 140737488355328
        · rw [if_pos c25] at H
          have LMc25 := Aside0.mk c25
          clear c25
          obtain ⟨y338, hy338⟩ : ∃ y_ : List Int, y_ = (y335 ++ l2) := ⟨_, rfl⟩
          replace H : ((spec_word.f k a0_0 a0_1 a0_2 a0_3 a0_4 a0_5 a0_5 y338).bind fun t341 => (some t341)) = some r := by first | (rw [hy338]; with_reducible exact H) | (have H2_ := (Option.bind_some _ _).symm.trans H; rw [hy338]; with_reducible exact H2_) | (have H2_ := (Option.bind_some _ _).symm.trans H; with_reducible exact H2_) | with_reducible exact H | (rw [hy338]; exact H) | exact H
          have Ny338 := Aside0.mk hy338
          clear hy338
          replace H := Option.bind_eq_some_iff.mp H
          obtain ⟨t341, A260, H⟩ := H
          replace H : (some t341) = some r := H
          have A26 := Aside0.mk A260
          clear A260
          obtain rfl := Option.some.inj H
          go_enter Try.func48, Try.ntmps48
          try go_wp2_with (first | ((with_reducible refine gate_dst (N := 3) rfl ?_); refine box_event ?hg (N := 3) ?hd (cs := #[.int .i64 a0_0, .int .i64 a0_1, .int .i64 a0_2, .int .u64 a0_3, .int .u64 a0_4, .int .u64 a0_5]) (t := 29) ?hr ?_; (case hd => rfl); (case hg => rfl); (case hr => first | (go_simp; done) | (go_simp; rfl)); intro gb309 hg w27 hbox hb; have n0_ := Aside0.mk (below_step (by repeat (first | (with_reducible first | exact HB.out | apply below_alloc | apply pw_below_drewN | apply below_drew1) | exact HB.out)) hb); have n1_ := Aside0.mk (hbox); have n2_ := Aside0.mk ((by rw [hg]; exact (below_size (by repeat (first | (with_reducible first | exact HB.out | apply below_alloc | apply pw_below_drewN | apply below_drew1) | exact HB.out))) : w.heap.size ≤ gb309)); have n3_ := Aside0.mk ((by rw [hg]; exact (below_size (by repeat (first | (with_reducible first | exact HB.out | apply below_alloc | apply pw_below_drewN | apply below_drew1) | exact HB.out))) : w.heap.size ≤ gb309)); clear HB; have HB := n0_; have BK309 := n1_; have GW309 := n2_; have GE309 := n3_; clear n0_ n1_ n2_ n3_; clear hb hbox hg; have hcz28_0 : w27.cell? ⟨gb309, 0, none⟩ = some (.int .i64 a0_0) := (blk_cell BK309.out 0).trans rfl; have hcz28_1 : w27.cell? ⟨gb309, 1, none⟩ = some (.int .i64 a0_1) := (blk_cell BK309.out 1).trans rfl; have hcz28_2 : w27.cell? ⟨gb309, 2, none⟩ = some (.int .i64 a0_2) := (blk_cell BK309.out 2).trans rfl; have hcz28_3 : w27.cell? ⟨gb309, 3, none⟩ = some (.int .u64 a0_3) := (blk_cell BK309.out 3).trans rfl; have hcz28_4 : w27.cell? ⟨gb309, 4, none⟩ = some (.int .u64 a0_4) := (blk_cell BK309.out 4).trans rfl; have hcz28_5 : w27.cell? ⟨gb309, 5, none⟩ = some (.int .u64 a0_5) := (blk_cell BK309.out 5).trans rfl; have hfz28_0 := blk_frozen BK309.out 0; have hfz28_1 := blk_frozen BK309.out 1; have hfz28_2 := blk_frozen BK309.out 2; have hfz28_3 := blk_frozen BK309.out 3; have hfz28_4 := blk_frozen BK309.out 4; have hfz28_5 := blk_frozen BK309.out 5) | ((with_reducible refine gate_callee (f := 50) rfl ?_); refine goesL_ (some 10) rfl rfl Try.func50 (by kernel_rfl) rfl #[.agg #[.int .i64 a0_0, .int .i64 a0_1, .int .i64 a0_2, .int .u64 a0_3, .int .u64 a0_4, .int .u64 a0_5]] rfl (by (try simp only [List.map_toArray, List.map_cons, List.map_nil]); first | done | rfl | (simp only [List.length_drop, List.length_take]; rfl)) ?_; (with_reducible refine (spec_Terms.calls a0_0 a0_1 a0_2 a0_3 a0_4 a0_5 false _ A4.out).mono ?_); rintro e w29 ⟨rfl, hb⟩; refine ⟨_, rfl, ?_⟩; have n0_ := Aside0.mk (blk_below (g := gb309) (o := .cells #[.int .i64 a0_0, .int .i64 a0_1, .int .i64 a0_2, .int .u64 a0_3, .int .u64 a0_4, .int .u64 a0_5] 29 (0, 0)) (by (with_reducible repeat (first | refine blk_drewN ?_ _ | refine blk_drew ?_ | refine blk_alloc ?_ _)); exact BK309.out) hb); have n1_ := Aside0.mk (below_step (by repeat (first | (with_reducible first | exact HB.out | apply below_alloc | apply pw_below_drewN | apply below_drew1 | refine below_set ?_ GE309.out) | exact HB.out)) hb); clear BK309; clear HB; have BK309 := n0_; have HB := n1_; clear n0_ n1_; (try clear hb); (try clear hb2); (try clear hk); (try clear hi)))
          have n0_ := Aside0.mk (blk_drew BK309.out)
          have n1_ := Aside0.mk (below_drew1 HB.out)
          clear BK309
          clear HB
          have BK309 := n0_
          have HB := n1_
          clear n0_ n1_
          refine start_ (n := 12) (S := fun w' => w'.cell? ⟨gb309, 0, none⟩ = some (.int .i64 a0_0) ∧ w'.cell? ⟨gb309, 1, none⟩ = some (.int .i64 a0_1) ∧ w'.cell? ⟨gb309, 2, none⟩ = some (.int .i64 a0_2) ∧ w'.cell? ⟨gb309, 3, none⟩ = some (.int .u64 a0_3) ∧ w'.cell? ⟨gb309, 4, none⟩ = some (.int .u64 a0_4) ∧ w'.cell? ⟨gb309, 5, none⟩ = some (.int .u64 a0_5)) (ds := []) #[false, false, false, false, false, false, false, false, false, false, false, false] (by kernel_rfl) rfl rfl ⟨(blk_cell BK309.out 0).trans rfl, (blk_cell BK309.out 1).trans rfl, (blk_cell BK309.out 2).trans rfl, (blk_cell BK309.out 3).trans rfl, (blk_cell BK309.out 4).trans rfl, (blk_cell BK309.out 5).trans rfl⟩ (fun hHeld => ?_); refine with_tabW spec_HashChildren.tab8 spec_HashChildren.bits8 (fun HT_ HW_ => ?_)
          generalize w29.drew = w30 at BK309 HB hHeld ⊢
          refine pure_ (i := 1) (N := some 31) (v := ?_) (a' := ?_) #[false, true, false, false, false, false, false, false, false, false, false, false] rfl rfl (any_of HT_.out (by kernel_rfl)) (fun _ _ _ h => h) (Or.inl ⟨by rfl, ?_⟩) ?_ ?_
          rotate_left
          · intro w'
            go_simp
            with_reducible rfl
          rotate_left
          · simp only [Act.put, List.setIfInBounds_toArray, List.set_cons_zero, List.set_cons_succ, i64_w, i32_w]
            rfl
          refine pure_ (i := 4) (N := some 34) (v := ?_) (a' := ?_) #[false, true, false, false, true, false, false, false, false, false, false, false] rfl rfl (any_of HT_.out (by kernel_rfl)) (fun _ _ _ h => h) (Or.inl ⟨by rfl, ?_⟩) ?_ ?_
          rotate_left
          · intro w'
            go_simp
            with_reducible rfl
          rotate_left
          · simp only [Act.put, List.setIfInBounds_toArray, List.set_cons_zero, List.set_cons_succ, i64_w, i32_w]
            rfl
          refine pure_ (i := 8) (N := some 38) (v := ?_) (a' := ?_) #[false, true, false, false, true, false, false, false, true, false, false, false] rfl rfl (any_of HT_.out (by kernel_rfl)) (fun _ _ _ h => h) (Or.inl ⟨by rfl, ?_⟩) ?_ ?_
          rotate_left
          · intro w'
            go_simp
            with_reducible rfl
          rotate_left
          · simp only [Act.put, List.setIfInBounds_toArray, List.set_cons_zero, List.set_cons_succ, i64_w, i32_w]
            rfl
          refine take_ (i := 0) (N := some 30) (v := ?_) (a' := ?_) #[true, true, false, false, true, false, false, false, true, false, false, false] rfl rfl (take_ofW HT_.out HW_.out (by kernel_rfl)) (fun _ _ _ h => h) (Or.inl ⟨by rfl, ?_⟩) hHeld ?_ ?_
          rotate_left
          · rintro w' ⟨s0, s1, s2, s3, s4, s5⟩
            go_simp
            with_reducible rfl
          rotate_left
          · simp only [Act.put, List.setIfInBounds_toArray, List.set_cons_zero, List.set_cons_succ, i64_w, i32_w]
            rfl
          refine take_ (i := 2) (N := some 32) (v := ?_) (a' := ?_) #[true, true, true, false, true, false, false, false, true, false, false, false] rfl rfl (take_ofW HT_.out HW_.out (by kernel_rfl)) (fun _ _ _ h => h) (Or.inl ⟨by rfl, ?_⟩) hHeld ?_ ?_
          rotate_left
          · rintro w' ⟨s0, s1, s2, s3, s4, s5⟩
            go_simp
            with_reducible rfl
          rotate_left
          · simp only [Act.put, List.setIfInBounds_toArray, List.set_cons_zero, List.set_cons_succ, i64_w, i32_w]
            rfl
          refine join_ (σ := Value × Value × Value) 4 #[true, true, true, true, true, true, true, false, true, false, false, false] (fun s_ => [(33, s_.1), (35, s_.2.1), (36, s_.2.2)]) (fun s_ w' => (w'.cell? ⟨gb309, 0, none⟩ = some (.int .i64 a0_0) ∧ w'.cell? ⟨gb309, 1, none⟩ = some (.int .i64 a0_1) ∧ w'.cell? ⟨gb309, 2, none⟩ = some (.int .i64 a0_2) ∧ w'.cell? ⟨gb309, 3, none⟩ = some (.int .u64 a0_3) ∧ w'.cell? ⟨gb309, 4, none⟩ = some (.int .u64 a0_4) ∧ w'.cell? ⟨gb309, 5, none⟩ = some (.int .u64 a0_5)) ∧ (Kd.R (Kd.int .u8) 5 w' w.heap.size (fun k_ => some k_ ≠ (s_.2.2 : Value).ownBlock) s_.2.1 y329) ∧ (Kd.R (Kd.int .u8) 5 w' w.heap.size (fun k_ => some k_ ≠ (s_.2.1 : Value).ownBlock) s_.2.2 y332) ∧ (w'.heap[gb309]? = some (.cells #[.int .i64 a0_0, .int .i64 a0_1, .int .i64 a0_2, .int .u64 a0_3, .int .u64 a0_4, .int .u64 a0_5] 29 (0, 0))) ∧ (Below w.heap.size w w')) ?_ ?_
          rotate_left
          · intro hCont
            refine two_ (i := 3) (j := 6) (Ni := some 33) (Nj := some 36) #[true, true, true, true, true, false, false, false, true, false, false, false] #[true, true, true, false, true, false, true, false, true, false, false, false] rfl rfl rfl rfl (two_of HT_.out (by kernel_rfl)) (by decide) (by decide) (fun K hK => ?_) (fun K hK => ?_)
            · skip
              refine Kd.R_lit_step (Kd.int .u8) _ 5 ?hg (N := 33) ?hd (xs := ([] : List Int)) (inner := []) (ok := fun _ => True) (okp := fun _ => True) ?hr ?hp (fun _ hk => hk) trivial (Below.refl _ _) (Nat.le_refl _) (by simp) ?_; (case hd => rfl); (case hg => rfl); (case hr => first | (go_simp; done) | (go_simp; rfl)); (case hp => exact (Reps.none _ _))
              intro v327 w31 ho32 hb hg_ hnew_
              clear hg_ hnew_
              (first | rw [← Ny326.out] at ho32 | (simp only [Int.reduceToNat] at ho32; rw [← Ny326.out] at ho32))
              have n0_ := Aside0.mk (Kd.R_lower ho32 (below_size (by repeat (first | (with_reducible first | exact HB.out | apply below_alloc | apply pw_below_drewN | apply below_drew1 | refine below_set ?_ GE309.out) | exact HB.out))))
              have n1_ := Aside0.mk (blk_below (g := gb309) (o := .cells #[.int .i64 a0_0, .int .i64 a0_1, .int .i64 a0_2, .int .u64 a0_3, .int .u64 a0_4, .int .u64 a0_5] 29 (0, 0)) (by (with_reducible repeat (first | refine blk_drewN ?_ _ | refine blk_drew ?_ | refine blk_alloc ?_ _)); exact BK309.out) hb)
              have n2_ := Aside0.mk (below_step (by repeat (first | (with_reducible first | exact HB.out | apply below_alloc | apply pw_below_drewN | apply below_drew1 | refine below_set ?_ GE309.out) | exact HB.out)) hb)
              clear BK309
              clear HB
              have HO328 := n0_
              have BK309 := n1_
              have HB := n2_
              clear n0_ n1_ n2_
              clear hb ho32
              refine hK.out _ _ ⟨(blk_cell BK309.out 0).trans rfl, (blk_cell BK309.out 1).trans rfl, (blk_cell BK309.out 2).trans rfl, (blk_cell BK309.out 3).trans rfl, (blk_cell BK309.out 4).trans rfl, (blk_cell BK309.out 5).trans rfl⟩ (fun hHeld => ?_)
              clear hK K
              refine norm_ (a' := ?_) ?_ ?_
              rotate_left
              · show Act.put _ (some 33) _ = _
                simp only [Act.put, List.setIfInBounds_toArray, List.set_cons_zero, List.set_cons_succ, i64_w, i32_w]
                rfl
              refine two_ (i := 5) (j := 6) (Ni := some 35) (Nj := some 36) #[true, true, true, true, true, true, false, false, true, false, false, false] #[true, true, true, true, true, false, true, false, true, false, false, false] rfl rfl rfl rfl (two_of HT_.out (by kernel_rfl)) (by decide) (by decide) (fun K hK => ?_) (fun K hK => ?_)
              · skip
                refine Kd.R_append_rows_step (Kd.int .u8) (w0 := w) w.heap.size (by rfl) (.tmp 33) (.tmp 34) 30 5 (.int .u8 0) 1 rfl Try.underlying30 info5 rfl (by decide) (by omega) v327 y326 l1 _ _ _ (fun _ => True) (fun _ => False) rfl rfl ?aO ?aR (fun _ _ h => h) (fun _ h => h.elim) ?aF ?aB ?aS ?aL ?_
                (case aR => repeat (first | exact (Kd.C_below HR1.out HB.out) | (with_reducible refine Kd.C_alloc ?_ _) | (with_reducible refine Kd.C_drewN ?_ _) | (with_reducible refine Kd.C_drew ?_)))
                (case aB => exact (by repeat (first | (with_reducible first | exact HB.out | apply below_alloc | apply pw_below_drewN | apply below_drew1 | refine below_set ?_ GE309.out) | exact HB.out)))
                (case aF => exact (fun _ _ => trivial))
                (case aO => exact (by (with_reducible repeat (first | apply Kd.R_alloc | apply Kd.R_drewN | apply Kd.R_drew)); exact HO328.out))
                (case aS => exact (below_size (by repeat (first | (with_reducible first | exact HB.out | apply below_alloc | apply pw_below_drewN | apply below_drew1 | refine below_set ?_ GE309.out) | exact HB.out))))
                (case aL => have := LMc23.out; omega)
                intro v330 w33 ho hb hg hat
                rw [← Ny329.out] at ho
                have n0_ := Aside0.mk (blk_grown (g := gb309) (o := .cells #[.int .i64 a0_0, .int .i64 a0_1, .int .i64 a0_2, .int .u64 a0_3, .int .u64 a0_4, .int .u64 a0_5] 29 (0, 0)) (by (with_reducible repeat (first | refine blk_drewN ?_ _ | refine blk_drew ?_ | refine blk_alloc ?_ _)); exact BK309.out) hg (Kd.R_ne HO328.out BK309.out (by decide)))
                have n1_ := Aside0.mk (hb)
                have n2_ := Aside0.mk (ho)
                clear BK309
                clear HB
                clear HO328
                have BK309 := n0_
                have HB := n1_
                have HO331 := n2_
                clear n0_ n1_ n2_
                clear ho hb hg hat
                refine hK.out _ _ ⟨(blk_cell BK309.out 0).trans rfl, (blk_cell BK309.out 1).trans rfl, (blk_cell BK309.out 2).trans rfl, (blk_cell BK309.out 3).trans rfl, (blk_cell BK309.out 4).trans rfl, (blk_cell BK309.out 5).trans rfl⟩ (fun hHeld => ?_)
                clear hK K
                refine norm_ (a' := ?_) ?_ ?_
                rotate_left
                · show Act.put _ (some 35) _ = _
                  simp only [Act.put, List.setIfInBounds_toArray, List.set_cons_zero, List.set_cons_succ, i64_w, i32_w]
                  rfl
                refine one_ (i := 6) (N := some 36) #[true, true, true, true, true, true, true, false, true, false, false, false] rfl rfl (one_of HT_.out (by kernel_rfl)) (by decide) (fun K hK => ?_)
                refine Kd.R_lit_step (Kd.int .u8) _ 5 ?hg (N := 36) ?hd (xs := ([255] : List Int)) (inner := [.int .u8 255]) (ok := fun _ => True) (okp := fun _ => True) ?hr ?hp (fun _ hk => hk) trivial (Below.refl _ _) (Nat.le_refl _) (by simp) ?_; (case hd => rfl); (case hg => rfl); (case hr => first | (go_simp; done) | (go_simp; rfl)); (case hp => exact (Reps.one (show Kd.M (Kd.int .u8) _ _ _ 255 [.int .u8 255] from rfl) (Reps.none _ _)))
                intro v333 w34 ho35 hb hg_ hnew_
                clear hg_ hnew_
                (first | rw [← Ny332.out] at ho35 | (simp only [Int.reduceToNat] at ho35; rw [← Ny332.out] at ho35))
                have n0_ := Aside0.mk (Kd.R_elder' (by (with_reducible repeat (first | apply Kd.R_alloc | apply Kd.R_drewN | apply Kd.R_drew)); exact HO331.out) (Kd.R_base ho35) hb)
                have n1_ := Aside0.mk (Kd.R_lower (Kd.R_new' ho35 (Kd.R_lt (by (with_reducible repeat (first | apply Kd.R_alloc | apply Kd.R_drewN | apply Kd.R_drew)); exact HO331.out))) (below_size (by repeat (first | (with_reducible first | exact HB.out | apply below_alloc | apply pw_below_drewN | apply below_drew1 | refine below_set ?_ GE309.out) | exact HB.out))))
                have n2_ := Aside0.mk (blk_below (g := gb309) (o := .cells #[.int .i64 a0_0, .int .i64 a0_1, .int .i64 a0_2, .int .u64 a0_3, .int .u64 a0_4, .int .u64 a0_5] 29 (0, 0)) (by (with_reducible repeat (first | refine blk_drewN ?_ _ | refine blk_drew ?_ | refine blk_alloc ?_ _)); exact BK309.out) hb)
                have n3_ := Aside0.mk (below_step (by repeat (first | (with_reducible first | exact HB.out | apply below_alloc | apply pw_below_drewN | apply below_drew1 | refine below_set ?_ GE309.out) | exact HB.out)) hb)
                clear HO331
                clear BK309
                clear HB
                have HO331 := n0_
                have HO334 := n1_
                have BK309 := n2_
                have HB := n3_
                clear n0_ n1_ n2_ n3_
                clear hb ho35
                refine hK.out _ _ ⟨(blk_cell BK309.out 0).trans rfl, (blk_cell BK309.out 1).trans rfl, (blk_cell BK309.out 2).trans rfl, (blk_cell BK309.out 3).trans rfl, (blk_cell BK309.out 4).trans rfl, (blk_cell BK309.out 5).trans rfl⟩ (fun hHeld => ?_)
                clear hK K
                refine norm_ (a' := ?_) ?_ ?_
                rotate_left
                · show Act.put _ (some 36) _ = _
                  simp only [Act.put, List.setIfInBounds_toArray, List.set_cons_zero, List.set_cons_succ, i64_w, i32_w]
                  rfl
                exact norm_ (by simp only [putAll, Act.put, List.setIfInBounds_toArray, List.set_cons_zero, List.set_cons_succ]) (hCont (v327, v330, v333) _ ⟨hHeld, (by (with_reducible repeat (first | apply Kd.R_alloc | apply Kd.R_drewN | apply Kd.R_drew)); exact Kd.R_mono HO331.out (fun _ hk => hk.2)), (by (with_reducible repeat (first | apply Kd.R_alloc | apply Kd.R_drewN | apply Kd.R_drew)); exact Kd.R_mono HO334.out (fun _ hk => hk.2)), (by (with_reducible repeat (first | refine blk_drewN ?_ _ | refine blk_drew ?_ | refine blk_alloc ?_ _)); exact BK309.out), (by repeat (first | (with_reducible first | exact HB.out | apply below_alloc | apply pw_below_drewN | apply below_drew1 | refine below_set ?_ GE309.out) | exact HB.out))⟩)
              · skip
                refine Kd.R_lit_step (Kd.int .u8) _ 5 ?hg (N := 36) ?hd (xs := ([255] : List Int)) (inner := [.int .u8 255]) (ok := fun _ => True) (okp := fun _ => True) ?hr ?hp (fun _ hk => hk) trivial (Below.refl _ _) (Nat.le_refl _) (by simp) ?_; (case hd => rfl); (case hg => rfl); (case hr => first | (go_simp; done) | (go_simp; rfl)); (case hp => exact (Reps.one (show Kd.M (Kd.int .u8) _ _ _ 255 [.int .u8 255] from rfl) (Reps.none _ _)))
                intro v333 w33 ho34 hb hg_ hnew_
                clear hg_ hnew_
                (first | rw [← Ny332.out] at ho34 | (simp only [Int.reduceToNat] at ho34; rw [← Ny332.out] at ho34))
                have n0_ := Aside0.mk (Kd.R_elder' (by (with_reducible repeat (first | apply Kd.R_alloc | apply Kd.R_drewN | apply Kd.R_drew)); exact HO328.out) (Kd.R_base ho34) hb)
                have n1_ := Aside0.mk (Kd.R_lower (Kd.R_new' ho34 (Kd.R_lt (by (with_reducible repeat (first | apply Kd.R_alloc | apply Kd.R_drewN | apply Kd.R_drew)); exact HO328.out))) (below_size (by repeat (first | (with_reducible first | exact HB.out | apply below_alloc | apply pw_below_drewN | apply below_drew1 | refine below_set ?_ GE309.out) | exact HB.out))))
                have n2_ := Aside0.mk (blk_below (g := gb309) (o := .cells #[.int .i64 a0_0, .int .i64 a0_1, .int .i64 a0_2, .int .u64 a0_3, .int .u64 a0_4, .int .u64 a0_5] 29 (0, 0)) (by (with_reducible repeat (first | refine blk_drewN ?_ _ | refine blk_drew ?_ | refine blk_alloc ?_ _)); exact BK309.out) hb)
                have n3_ := Aside0.mk (below_step (by repeat (first | (with_reducible first | exact HB.out | apply below_alloc | apply pw_below_drewN | apply below_drew1 | refine below_set ?_ GE309.out) | exact HB.out)) hb)
                clear HO328
                clear BK309
                clear HB
                have HO328 := n0_
                have HO334 := n1_
                have BK309 := n2_
                have HB := n3_
                clear n0_ n1_ n2_ n3_
                clear hb ho34
                refine hK.out _ _ ⟨(blk_cell BK309.out 0).trans rfl, (blk_cell BK309.out 1).trans rfl, (blk_cell BK309.out 2).trans rfl, (blk_cell BK309.out 3).trans rfl, (blk_cell BK309.out 4).trans rfl, (blk_cell BK309.out 5).trans rfl⟩ (fun hHeld => ?_)
                clear hK K
                refine norm_ (a' := ?_) ?_ ?_
                rotate_left
                · show Act.put _ (some 36) _ = _
                  simp only [Act.put, List.setIfInBounds_toArray, List.set_cons_zero, List.set_cons_succ, i64_w, i32_w]
                  rfl
                refine one_ (i := 5) (N := some 35) #[true, true, true, true, true, true, true, false, true, false, false, false] rfl rfl (one_of HT_.out (by kernel_rfl)) (by decide) (fun K hK => ?_)
                refine Kd.R_append_rows_step (Kd.int .u8) (w0 := w) w.heap.size (by rfl) (.tmp 33) (.tmp 34) 30 5 (.int .u8 0) 1 rfl Try.underlying30 info5 rfl (by decide) (by omega) v327 y326 l1 _ _ _ (fun k_ => some k_ ≠ (v333 : Value).ownBlock) (fun _ => False) rfl rfl ?aO ?aR (fun _ _ h => h) (fun _ h => h.elim) ?aF ?aB ?aS ?aL ?_
                (case aR => repeat (first | exact (Kd.C_below HR1.out HB.out) | (with_reducible refine Kd.C_alloc ?_ _) | (with_reducible refine Kd.C_drewN ?_ _) | (with_reducible refine Kd.C_drew ?_)))
                (case aB => exact (by repeat (first | (with_reducible first | exact HB.out | apply below_alloc | apply pw_below_drewN | apply below_drew1 | refine below_set ?_ GE309.out) | exact HB.out)))
                (case aF => exact (fun k_ hk => Kd.fresh' (Kd.R_lt (by (with_reducible repeat (first | apply Kd.R_alloc | apply Kd.R_drewN | apply Kd.R_drew)); exact HO334.out)) k_ hk))
                (case aO => exact (by (with_reducible repeat (first | apply Kd.R_alloc | apply Kd.R_drewN | apply Kd.R_drew)); exact Kd.R_mono HO328.out (fun _ hk => hk.2)))
                (case aS => exact (below_size (by repeat (first | (with_reducible first | exact HB.out | apply below_alloc | apply pw_below_drewN | apply below_drew1 | refine below_set ?_ GE309.out) | exact HB.out))))
                (case aL => have := LMc23.out; omega)
                intro v330 w35 ho hb hg hat
                rw [← Ny329.out] at ho
                have n0_ := Aside0.mk (blk_grown (g := gb309) (o := .cells #[.int .i64 a0_0, .int .i64 a0_1, .int .i64 a0_2, .int .u64 a0_3, .int .u64 a0_4, .int .u64 a0_5] 29 (0, 0)) (by (with_reducible repeat (first | refine blk_drewN ?_ _ | refine blk_drew ?_ | refine blk_alloc ?_ _)); exact BK309.out) hg (Kd.R_ne HO328.out BK309.out (by decide)))
                have n1_ := Aside0.mk (Kd.R_after (ok := (fun _ => True)) (by (with_reducible repeat (first | apply Kd.R_alloc | apply Kd.R_drewN | apply Kd.R_drew)); exact HO334.out) hg hat)
                have n2_ := Aside0.mk (hb)
                have n3_ := Aside0.mk (ho)
                clear BK309
                clear HO334
                clear HB
                clear HO328
                have BK309 := n0_
                have HO334 := n1_
                have HB := n2_
                have HO331 := n3_
                clear n0_ n1_ n2_ n3_
                clear ho hb hg hat
                refine hK.out _ _ ⟨(blk_cell BK309.out 0).trans rfl, (blk_cell BK309.out 1).trans rfl, (blk_cell BK309.out 2).trans rfl, (blk_cell BK309.out 3).trans rfl, (blk_cell BK309.out 4).trans rfl, (blk_cell BK309.out 5).trans rfl⟩ (fun hHeld => ?_)
                clear hK K
                refine norm_ (a' := ?_) ?_ ?_
                rotate_left
                · show Act.put _ (some 35) _ = _
                  simp only [Act.put, List.setIfInBounds_toArray, List.set_cons_zero, List.set_cons_succ, i64_w, i32_w]
                  rfl
                exact norm_ (by simp only [putAll, Act.put, List.setIfInBounds_toArray, List.set_cons_zero, List.set_cons_succ]) (hCont (v327, v330, v333) _ ⟨hHeld, (by (with_reducible repeat (first | apply Kd.R_alloc | apply Kd.R_drewN | apply Kd.R_drew)); exact HO331.out), (by (with_reducible repeat (first | apply Kd.R_alloc | apply Kd.R_drewN | apply Kd.R_drew)); exact Kd.R_mono HO334.out (fun _ hk => hk.2)), (by (with_reducible repeat (first | refine blk_drewN ?_ _ | refine blk_drew ?_ | refine blk_alloc ?_ _)); exact BK309.out), (by repeat (first | (with_reducible first | exact HB.out | apply below_alloc | apply pw_below_drewN | apply below_drew1 | refine below_set ?_ GE309.out) | exact HB.out))⟩)
            · skip
              refine Kd.R_lit_step (Kd.int .u8) _ 5 ?hg (N := 36) ?hd (xs := ([255] : List Int)) (inner := [.int .u8 255]) (ok := fun _ => True) (okp := fun _ => True) ?hr ?hp (fun _ hk => hk) trivial (Below.refl _ _) (Nat.le_refl _) (by simp) ?_; (case hd => rfl); (case hg => rfl); (case hr => first | (go_simp; done) | (go_simp; rfl)); (case hp => exact (Reps.one (show Kd.M (Kd.int .u8) _ _ _ 255 [.int .u8 255] from rfl) (Reps.none _ _)))
              intro v333 w31 ho32 hb hg_ hnew_
              clear hg_ hnew_
              (first | rw [← Ny332.out] at ho32 | (simp only [Int.reduceToNat] at ho32; rw [← Ny332.out] at ho32))
              have n0_ := Aside0.mk (Kd.R_lower ho32 (below_size (by repeat (first | (with_reducible first | exact HB.out | apply below_alloc | apply pw_below_drewN | apply below_drew1 | refine below_set ?_ GE309.out) | exact HB.out))))
              have n1_ := Aside0.mk (blk_below (g := gb309) (o := .cells #[.int .i64 a0_0, .int .i64 a0_1, .int .i64 a0_2, .int .u64 a0_3, .int .u64 a0_4, .int .u64 a0_5] 29 (0, 0)) (by (with_reducible repeat (first | refine blk_drewN ?_ _ | refine blk_drew ?_ | refine blk_alloc ?_ _)); exact BK309.out) hb)
              have n2_ := Aside0.mk (below_step (by repeat (first | (with_reducible first | exact HB.out | apply below_alloc | apply pw_below_drewN | apply below_drew1 | refine below_set ?_ GE309.out) | exact HB.out)) hb)
              clear BK309
              clear HB
              have HO334 := n0_
              have BK309 := n1_
              have HB := n2_
              clear n0_ n1_ n2_
              clear hb ho32
              refine hK.out _ _ ⟨(blk_cell BK309.out 0).trans rfl, (blk_cell BK309.out 1).trans rfl, (blk_cell BK309.out 2).trans rfl, (blk_cell BK309.out 3).trans rfl, (blk_cell BK309.out 4).trans rfl, (blk_cell BK309.out 5).trans rfl⟩ (fun hHeld => ?_)
              clear hK K
              refine norm_ (a' := ?_) ?_ ?_
              rotate_left
              · show Act.put _ (some 36) _ = _
                simp only [Act.put, List.setIfInBounds_toArray, List.set_cons_zero, List.set_cons_succ, i64_w, i32_w]
                rfl
              refine one_ (i := 3) (N := some 33) #[true, true, true, true, true, false, true, false, true, false, false, false] rfl rfl (one_of HT_.out (by kernel_rfl)) (by decide) (fun K hK => ?_)
              refine Kd.R_lit_step (Kd.int .u8) _ 5 ?hg (N := 33) ?hd (xs := ([] : List Int)) (inner := []) (ok := fun _ => True) (okp := fun _ => True) ?hr ?hp (fun _ hk => hk) trivial (Below.refl _ _) (Nat.le_refl _) (by simp) ?_; (case hd => rfl); (case hg => rfl); (case hr => first | (go_simp; done) | (go_simp; rfl)); (case hp => exact (Reps.none _ _))
              intro v327 w33 ho34 hb hg_ hnew_
              clear hg_ hnew_
              (first | rw [← Ny326.out] at ho34 | (simp only [Int.reduceToNat] at ho34; rw [← Ny326.out] at ho34))
              have n0_ := Aside0.mk (Kd.R_elder' (by (with_reducible repeat (first | apply Kd.R_alloc | apply Kd.R_drewN | apply Kd.R_drew)); exact HO334.out) (Kd.R_base ho34) hb)
              have n1_ := Aside0.mk (Kd.R_lower (Kd.R_new' ho34 (Kd.R_lt (by (with_reducible repeat (first | apply Kd.R_alloc | apply Kd.R_drewN | apply Kd.R_drew)); exact HO334.out))) (below_size (by repeat (first | (with_reducible first | exact HB.out | apply below_alloc | apply pw_below_drewN | apply below_drew1 | refine below_set ?_ GE309.out) | exact HB.out))))
              have n2_ := Aside0.mk (blk_below (g := gb309) (o := .cells #[.int .i64 a0_0, .int .i64 a0_1, .int .i64 a0_2, .int .u64 a0_3, .int .u64 a0_4, .int .u64 a0_5] 29 (0, 0)) (by (with_reducible repeat (first | refine blk_drewN ?_ _ | refine blk_drew ?_ | refine blk_alloc ?_ _)); exact BK309.out) hb)
              have n3_ := Aside0.mk (below_step (by repeat (first | (with_reducible first | exact HB.out | apply below_alloc | apply pw_below_drewN | apply below_drew1 | refine below_set ?_ GE309.out) | exact HB.out)) hb)
              clear HO334
              clear BK309
              clear HB
              have HO334 := n0_
              have HO328 := n1_
              have BK309 := n2_
              have HB := n3_
              clear n0_ n1_ n2_ n3_
              clear hb ho34
              refine hK.out _ _ ⟨(blk_cell BK309.out 0).trans rfl, (blk_cell BK309.out 1).trans rfl, (blk_cell BK309.out 2).trans rfl, (blk_cell BK309.out 3).trans rfl, (blk_cell BK309.out 4).trans rfl, (blk_cell BK309.out 5).trans rfl⟩ (fun hHeld => ?_)
              clear hK K
              refine norm_ (a' := ?_) ?_ ?_
              rotate_left
              · show Act.put _ (some 33) _ = _
                simp only [Act.put, List.setIfInBounds_toArray, List.set_cons_zero, List.set_cons_succ, i64_w, i32_w]
                rfl
              refine one_ (i := 5) (N := some 35) #[true, true, true, true, true, true, true, false, true, false, false, false] rfl rfl (one_of HT_.out (by kernel_rfl)) (by decide) (fun K hK => ?_)
              refine Kd.R_append_rows_step (Kd.int .u8) (w0 := w) w.heap.size (by rfl) (.tmp 33) (.tmp 34) 30 5 (.int .u8 0) 1 rfl Try.underlying30 info5 rfl (by decide) (by omega) v327 y326 l1 _ _ _ (fun k_ => some k_ ≠ (v333 : Value).ownBlock) (fun _ => False) rfl rfl ?aO ?aR (fun _ _ h => h) (fun _ h => h.elim) ?aF ?aB ?aS ?aL ?_
              (case aR => repeat (first | exact (Kd.C_below HR1.out HB.out) | (with_reducible refine Kd.C_alloc ?_ _) | (with_reducible refine Kd.C_drewN ?_ _) | (with_reducible refine Kd.C_drew ?_)))
              (case aB => exact (by repeat (first | (with_reducible first | exact HB.out | apply below_alloc | apply pw_below_drewN | apply below_drew1 | refine below_set ?_ GE309.out) | exact HB.out)))
              (case aF => exact (fun k_ hk => Kd.fresh' (Kd.R_lt (by (with_reducible repeat (first | apply Kd.R_alloc | apply Kd.R_drewN | apply Kd.R_drew)); exact HO334.out)) k_ hk))
              (case aO => exact (by (with_reducible repeat (first | apply Kd.R_alloc | apply Kd.R_drewN | apply Kd.R_drew)); exact Kd.R_mono HO328.out (fun _ hk => hk.2)))
              (case aS => exact (below_size (by repeat (first | (with_reducible first | exact HB.out | apply below_alloc | apply pw_below_drewN | apply below_drew1 | refine below_set ?_ GE309.out) | exact HB.out))))
              (case aL => have := LMc23.out; omega)
              intro v330 w35 ho hb hg hat
              rw [← Ny329.out] at ho
              have n0_ := Aside0.mk (blk_grown (g := gb309) (o := .cells #[.int .i64 a0_0, .int .i64 a0_1, .int .i64 a0_2, .int .u64 a0_3, .int .u64 a0_4, .int .u64 a0_5] 29 (0, 0)) (by (with_reducible repeat (first | refine blk_drewN ?_ _ | refine blk_drew ?_ | refine blk_alloc ?_ _)); exact BK309.out) hg (Kd.R_ne HO328.out BK309.out (by decide)))
              have n1_ := Aside0.mk (Kd.R_after (ok := (fun _ => True)) (by (with_reducible repeat (first | apply Kd.R_alloc | apply Kd.R_drewN | apply Kd.R_drew)); exact HO334.out) hg hat)
              have n2_ := Aside0.mk (hb)
              have n3_ := Aside0.mk (ho)
              clear BK309
              clear HO334
              clear HB
              clear HO328
              have BK309 := n0_
              have HO334 := n1_
              have HB := n2_
              have HO331 := n3_
              clear n0_ n1_ n2_ n3_
              clear ho hb hg hat
              refine hK.out _ _ ⟨(blk_cell BK309.out 0).trans rfl, (blk_cell BK309.out 1).trans rfl, (blk_cell BK309.out 2).trans rfl, (blk_cell BK309.out 3).trans rfl, (blk_cell BK309.out 4).trans rfl, (blk_cell BK309.out 5).trans rfl⟩ (fun hHeld => ?_)
              clear hK K
              refine norm_ (a' := ?_) ?_ ?_
              rotate_left
              · show Act.put _ (some 35) _ = _
                simp only [Act.put, List.setIfInBounds_toArray, List.set_cons_zero, List.set_cons_succ, i64_w, i32_w]
                rfl
              exact norm_ (by simp only [putAll, Act.put, List.setIfInBounds_toArray, List.set_cons_zero, List.set_cons_succ]) (hCont (v327, v330, v333) _ ⟨hHeld, (by (with_reducible repeat (first | apply Kd.R_alloc | apply Kd.R_drewN | apply Kd.R_drew)); exact HO331.out), (by (with_reducible repeat (first | apply Kd.R_alloc | apply Kd.R_drewN | apply Kd.R_drew)); exact Kd.R_mono HO334.out (fun _ hk => hk.2)), (by (with_reducible repeat (first | refine blk_drewN ?_ _ | refine blk_drew ?_ | refine blk_alloc ?_ _)); exact BK309.out), (by repeat (first | (with_reducible first | exact HB.out | apply below_alloc | apply pw_below_drewN | apply below_drew1 | refine below_set ?_ GE309.out) | exact HB.out))⟩)
          rintro ⟨v327, v330, v333⟩ w36 ⟨hS_, h0_, h1_, h2_, h3_⟩
          have n0_ : Aside0 (Kd.R (Kd.int .u8) 5 w36 w.heap.size (fun k_ => some k_ ≠ (v333 : Value).ownBlock) v330 y329) := ⟨h0_⟩
          have n1_ : Aside0 (Kd.R (Kd.int .u8) 5 w36 w.heap.size (fun k_ => some k_ ≠ (v330 : Value).ownBlock) v333 y332) := ⟨h1_⟩
          have n2_ : Aside0 (w36.heap[gb309]? = some (.cells #[.int .i64 a0_0, .int .i64 a0_1, .int .i64 a0_2, .int .u64 a0_3, .int .u64 a0_4, .int .u64 a0_5] 29 (0, 0))) := ⟨h2_⟩
          have n3_ : Aside0 (Below w.heap.size w w36) := ⟨h3_⟩
          clear BK309
          clear HB
          clear h0_ h1_ h2_ h3_
          have HO331 := n0_
          have HO334 := n1_
          have BK309 := n2_
          have HB := n3_
          clear n0_ n1_ n2_ n3_
          have hHeld : w36.cell? ⟨gb309, 0, none⟩ = some (.int .i64 a0_0) ∧ w36.cell? ⟨gb309, 1, none⟩ = some (.int .i64 a0_1) ∧ w36.cell? ⟨gb309, 2, none⟩ = some (.int .i64 a0_2) ∧ w36.cell? ⟨gb309, 3, none⟩ = some (.int .u64 a0_3) ∧ w36.cell? ⟨gb309, 4, none⟩ = some (.int .u64 a0_4) ∧ w36.cell? ⟨gb309, 5, none⟩ = some (.int .u64 a0_5) := hS_
          obtain ⟨Ao38, co38, eo38⟩ := Kd.R_slice HO334.out
          (first | subst eo38 | (injection eo38 with f1_ f2_ f3_; have f4_ := f1_.symm; have f5_ := f3_.symm; clear f1_ f2_ f3_; subst f4_; subst f5_))
          refine norm_ (a' := ?_) ?_ ?_
          rotate_left
          · simp only [putAll, Act.put, List.setIfInBounds_toArray, List.set_cons_zero, List.set_cons_succ]
            rfl
          refine one_ (i := 7) (N := some 37) #[true, true, true, true, true, true, true, true, true, false, false, false] rfl rfl (one_of HT_.out (by kernel_rfl)) (by decide) (fun K hK => ?_)
          refine Kd.R_append_rows_step (Kd.int .u8) (w0 := w) w.heap.size (by rfl) (.tmp 35) (.tmp 36) 30 5 (.int .u8 0) 1 rfl Try.underlying30 info5 rfl (by decide) (by omega) v330 y329 y332 _ _ _ (fun k_ => some k_ ≠ (.slice Ao38 y332.length co38 : Value).ownBlock) (fun _ => False) rfl rfl ?aO ?aR (fun _ _ h => h) (fun _ h => h.elim) ?aF ?aB ?aS ?aL ?_
          (case aR => repeat (first | exact (Kd.R_reads' HO334.out).2.2 | (with_reducible refine Kd.C_alloc ?_ _) | (with_reducible refine Kd.C_drewN ?_ _) | (with_reducible refine Kd.C_drew ?_)))
          (case aB => exact (by repeat (first | (with_reducible first | exact HB.out | apply below_alloc | apply pw_below_drewN | apply below_drew1 | refine below_set ?_ GE309.out) | exact HB.out)))
          (case aF => exact (fun k_ hk => Kd.fresh' (Kd.R_lt (by (with_reducible repeat (first | apply Kd.R_alloc | apply Kd.R_drewN | apply Kd.R_drew)); exact HO334.out)) k_ hk))
          (case aO => exact (by (with_reducible repeat (first | apply Kd.R_alloc | apply Kd.R_drewN | apply Kd.R_drew)); exact HO331.out))
          (case aS => exact (below_size (by repeat (first | (with_reducible first | exact HB.out | apply below_alloc | apply pw_below_drewN | apply below_drew1 | refine below_set ?_ GE309.out) | exact HB.out))))
          (case aL => have := LMc24.out; omega)
          intro v336 w37 ho hb hg hat
          rw [← Ny335.out] at ho
          have n0_ := Aside0.mk (blk_grown (g := gb309) (o := .cells #[.int .i64 a0_0, .int .i64 a0_1, .int .i64 a0_2, .int .u64 a0_3, .int .u64 a0_4, .int .u64 a0_5] 29 (0, 0)) (by (with_reducible repeat (first | refine blk_drewN ?_ _ | refine blk_drew ?_ | refine blk_alloc ?_ _)); exact BK309.out) hg (Kd.R_ne HO331.out BK309.out (by decide)))
          have n1_ := Aside0.mk (Kd.R_after (ok := (fun _ => True)) (by (with_reducible repeat (first | apply Kd.R_alloc | apply Kd.R_drewN | apply Kd.R_drew)); exact Kd.R_mono HO334.out (fun _ hk => ⟨trivial, hk⟩)) hg hat)
          have n2_ := Aside0.mk (hb)
          have n3_ := Aside0.mk (ho)
          clear BK309
          clear HO334
          clear HB
          clear HO331
          have BK309 := n0_
          have HO334 := n1_
          have HB := n2_
          have HO337 := n3_
          clear n0_ n1_ n2_ n3_
          clear ho hb hg hat
          refine hK.out _ _ ⟨(blk_cell BK309.out 0).trans rfl, (blk_cell BK309.out 1).trans rfl, (blk_cell BK309.out 2).trans rfl, (blk_cell BK309.out 3).trans rfl, (blk_cell BK309.out 4).trans rfl, (blk_cell BK309.out 5).trans rfl⟩ (fun hHeld => ?_)
          clear hK K
          refine norm_ (a' := ?_) ?_ ?_
          rotate_left
          · show Act.put _ (some 37) _ = _
            simp only [Act.put, List.setIfInBounds_toArray, List.set_cons_zero, List.set_cons_succ, i64_w, i32_w]
            rfl
          refine one_ (i := 9) (N := some 39) #[true, true, true, true, true, true, true, true, true, true, false, false] rfl rfl (one_of HT_.out (by kernel_rfl)) (by decide) (fun K hK => ?_)
          refine Kd.R_append_rows_step (Kd.int .u8) (w0 := w) w.heap.size (by rfl) (.tmp 37) (.tmp 38) 30 5 (.int .u8 0) 1 rfl Try.underlying30 info5 rfl (by decide) (by omega) v336 y335 l2 _ _ _ (fun k_ => some k_ ≠ (.slice Ao38 y332.length co38 : Value).ownBlock) (fun _ => False) rfl rfl ?aO ?aR (fun _ _ h => h) (fun _ h => h.elim) ?aF ?aB ?aS ?aL ?_
          (case aR => repeat (first | exact (Kd.C_below HR2.out HB.out) | (with_reducible refine Kd.C_alloc ?_ _) | (with_reducible refine Kd.C_drewN ?_ _) | (with_reducible refine Kd.C_drew ?_)))
          (case aB => exact (by repeat (first | (with_reducible first | exact HB.out | apply below_alloc | apply pw_below_drewN | apply below_drew1 | refine below_set ?_ GE309.out) | exact HB.out)))
          (case aF => exact (fun k_ hk => Kd.fresh' (Kd.R_lt (by (with_reducible repeat (first | apply Kd.R_alloc | apply Kd.R_drewN | apply Kd.R_drew)); exact HO334.out)) k_ hk))
          (case aO => exact (by (with_reducible repeat (first | apply Kd.R_alloc | apply Kd.R_drewN | apply Kd.R_drew)); exact HO337.out))
          (case aS => exact (below_size (by repeat (first | (with_reducible first | exact HB.out | apply below_alloc | apply pw_below_drewN | apply below_drew1 | refine below_set ?_ GE309.out) | exact HB.out))))
          (case aL => have := LMc25.out; omega)
          intro v339 w39 ho hb hg hat
          rw [← Ny338.out] at ho
          have n0_ := Aside0.mk (blk_grown (g := gb309) (o := .cells #[.int .i64 a0_0, .int .i64 a0_1, .int .i64 a0_2, .int .u64 a0_3, .int .u64 a0_4, .int .u64 a0_5] 29 (0, 0)) (by (with_reducible repeat (first | refine blk_drewN ?_ _ | refine blk_drew ?_ | refine blk_alloc ?_ _)); exact BK309.out) hg (Kd.R_ne HO337.out BK309.out (by decide)))
          have n1_ := Aside0.mk (Kd.R_after (ok := (fun _ => True)) (by (with_reducible repeat (first | apply Kd.R_alloc | apply Kd.R_drewN | apply Kd.R_drew)); exact HO334.out) hg hat)
          have n2_ := Aside0.mk (hb)
          have n3_ := Aside0.mk (ho)
          clear BK309
          clear HO334
          clear HB
          clear HO337
          have BK309 := n0_
          have HO334 := n1_
          have HB := n2_
          have HO340 := n3_
          clear n0_ n1_ n2_ n3_
          clear ho hb hg hat
          obtain ⟨Ao40, co40, eo40⟩ := Kd.R_slice HO340.out
          (first | subst eo40 | (injection eo40 with f1_ f2_ f3_; have f4_ := f1_.symm; have f5_ := f3_.symm; clear f1_ f2_ f3_; subst f4_; subst f5_))
          refine hK.out _ _ ⟨(blk_cell BK309.out 0).trans rfl, (blk_cell BK309.out 1).trans rfl, (blk_cell BK309.out 2).trans rfl, (blk_cell BK309.out 3).trans rfl, (blk_cell BK309.out 4).trans rfl, (blk_cell BK309.out 5).trans rfl⟩ (fun hHeld => ?_)
          clear hK K
          refine norm_ (a' := ?_) ?_ ?_
          rotate_left
          · show Act.put _ (some 39) _ = _
            simp only [Act.put, List.setIfInBounds_toArray, List.set_cons_zero, List.set_cons_succ, i64_w, i32_w]
            rfl
          refine one_ (i := 10) (N := some 40) #[true, true, true, true, true, true, true, true, true, true, true, false] rfl rfl (one_of HT_.out (by kernel_rfl)) (by decide) (fun K hK => ?_)
          refine goes_ Try.func51 (by kernel_rfl) rfl #[.agg #[.int .i64 a0_0, .int .i64 a0_1, .int .i64 a0_2, .int .u64 a0_3, .int .u64 a0_4, .int .u64 a0_5], .int .u64 a0_5, .slice Ao40 y338.length co40] (by rfl) rfl rfl (by (try simp only [List.map_toArray, List.map_cons, List.map_nil]); first | done | rfl | (simp only [List.length_drop, List.length_take]; rfl)) ?_
          with_reducible refine (spec_word.calls k a0_0 a0_1 a0_2 a0_3 a0_4 a0_5 a0_5 _ _ y338 t341 _ ?side1 ?side2 A26.out).mono ?_
          (case side1 => repeat (first | exact (Kd.R_reads' HO340.out).2.2 | (with_reducible refine Kd.C_alloc ?_ _) | (with_reducible refine Kd.C_drewN ?_ _) | (with_reducible refine Kd.C_drew ?_)))
          (case side2 => exact (Kd.R_reads' HO340.out).2.1)
          rintro e w41 ⟨v342, rfl, ho0, hb⟩
          refine ⟨_, rfl, ?_⟩
          have n0_ := Aside0.mk (Kd.R_elder' (by (with_reducible repeat (first | apply Kd.R_alloc | apply Kd.R_drewN | apply Kd.R_drew)); exact HO334.out) (Kd.R_base ho0) hb)
          have n1_ := Aside0.mk (Kd.R_elder' (by (with_reducible repeat (first | apply Kd.R_alloc | apply Kd.R_drewN | apply Kd.R_drew)); exact HO340.out) (Kd.R_base ho0) hb)
          have n2_ := Aside0.mk (Kd.R_lower (Kd.R_new' (Kd.R_new' ho0 (Kd.R_lt (by (with_reducible repeat (first | apply Kd.R_alloc | apply Kd.R_drewN | apply Kd.R_drew)); exact HO334.out))) (Kd.R_lt (by (with_reducible repeat (first | apply Kd.R_alloc | apply Kd.R_drewN | apply Kd.R_drew)); exact HO340.out))) (below_size (by repeat (first | (with_reducible first | exact HB.out | apply below_alloc | apply pw_below_drewN | apply below_drew1 | refine below_set ?_ GE309.out) | exact HB.out))))
          have n3_ := Aside0.mk (blk_below (g := gb309) (o := .cells #[.int .i64 a0_0, .int .i64 a0_1, .int .i64 a0_2, .int .u64 a0_3, .int .u64 a0_4, .int .u64 a0_5] 29 (0, 0)) (by (with_reducible repeat (first | refine blk_drewN ?_ _ | refine blk_drew ?_ | refine blk_alloc ?_ _)); exact BK309.out) hb)
          have n4_ := Aside0.mk (below_step (by repeat (first | (with_reducible first | exact HB.out | apply below_alloc | apply pw_below_drewN | apply below_drew1 | refine below_set ?_ GE309.out) | exact HB.out)) hb)
          clear HO334
          clear HO340
          clear BK309
          clear HB
          have HO334 := n0_
          have HO340 := n1_
          have HO343 := n2_
          have BK309 := n3_
          have HB := n4_
          clear n0_ n1_ n2_ n3_ n4_
          (try clear hb)
          (try clear hb2)
          (try clear hk)
          (try clear hi)
          (try clear ho0)
          refine hK.out _ _ ⟨(blk_cell BK309.out 0).trans rfl, (blk_cell BK309.out 1).trans rfl, (blk_cell BK309.out 2).trans rfl, (blk_cell BK309.out 3).trans rfl, (blk_cell BK309.out 4).trans rfl, (blk_cell BK309.out 5).trans rfl⟩ (fun hHeld => ?_)
          clear hK K
          refine norm_ (a' := ?_) ?_ ?_
          rotate_left
          · show Act.put _ (some 40) _ = _
            simp only [Act.put, List.setIfInBounds_toArray, List.set_cons_zero, List.set_cons_succ, i64_w, i32_w]
            rfl
          refine pure_ (i := 11) (N := some 6) (v := ?_) (a' := ?_) #[true, true, true, true, true, true, true, true, true, true, true, true] rfl rfl (any_of HT_.out (by kernel_rfl)) (fun _ _ _ h => h) (Or.inl ⟨by rfl, ?_⟩) ?_ ?_
          rotate_left
          · intro w'
            go_simp
            with_reducible rfl
          rotate_left
          · simp only [Act.put, List.setIfInBounds_toArray, List.set_cons_zero, List.set_cons_succ, i64_w, i32_w]
            rfl
          refine done_ (done_of HT_.out (by kernel_rfl)) ?_
          try go_wp2
          go_ret
          exact ⟨_, by first | rfl | (simp [errW_none, errW_some] <;> rfl) | (simp [*, errW_none, errW_some] <;> rfl), by (with_reducible repeat (first | apply Kd.R_alloc | apply Kd.R_drewN | apply Kd.R_drew)); exact Kd.R_mono HO343.out (fun _ hk => trivial), by repeat (first | (with_reducible first | exact HB.out | apply below_alloc | apply pw_below_drewN | apply below_drew1 | refine below_set ?_ GE309.out) | exact HB.out)⟩
        · rw [if_neg c25] at H
          exact absurd H (by simp)
      · rw [if_neg c24] at H
        exact absurd H (by simp)
    · rw [if_neg c23] at H
      exact absurd H (by simp)

end Go.Proofs.Ytkmdkmlgahfcpaa.M

namespace Go.Proofs.Ytkmdkmlgahfcpaa.M
open Go.RowKit Go.Proofs.YtkmdkmlgahfcpaaW.PrintWords Go.Proofs.YtkmdkmlgahfcpaaW.PrintLast Go.Proofs.YtkmdkmlgahfcpaaW.PrintMore
attribute [local go_sem] max2_int min2_int max_two min_two max_three min_three max_four min_four   -- for this text's walks alone
set_option linter.unusedVariables false
set_option linter.unusedSimpArgs false

/-! ### spec_rootIn: function 44 -/
def spec_rootIn.f : Nat → Int → Int → Int → Int → Int → Int → Int → Int → Int → List Int → List (List Int) → Option (List Int)
  | 0, _, _, _, _, _, _, _, _, _, _, _ => none
  | k + 1, a0_0, a0_1, a0_2, a0_3, a0_4, a0_5, a1, a2_0, a2_1, l3, l4 => if (IntKind.u64.wrap (a2_1 - a2_0)) = 1 then (some l3) else ((spec_split.f k (IntKind.u64.wrap (a2_1 - a2_0))).bind fun t346 => (if a1 < (IntKind.u64.wrap (a2_0 + t346)) then (if 0 ≤ (wrap64 ((l4.length : Int) - 1)) then (if (wrap64 ((l4.length : Int) - 1)) ≤ (l4.length : Int) then ((spec_rootIn.f k a0_0 a0_1 a0_2 a0_3 a0_4 a0_5 a1 a2_0 (IntKind.u64.wrap (a2_0 + t346)) l3 (l4.take ((wrap64 ((l4.length : Int) - 1)) : Int).toNat)).bind fun t351 => (if (wrap64 ((l4.length : Int) - 1)) < (l4.length : Int) then ((spec_HashChildren.f k a0_0 a0_1 a0_2 a0_3 a0_4 a0_5 t351 (rd_L1 l4 (wrap64 ((l4.length : Int) - 1)))).bind fun t355 => (some t355)) else (none))) else (none)) else (none)) else (if 0 ≤ (wrap64 ((l4.length : Int) - 1)) then (if (wrap64 ((l4.length : Int) - 1)) < (l4.length : Int) then (if (wrap64 ((l4.length : Int) - 1)) ≤ (l4.length : Int) then ((spec_rootIn.f k a0_0 a0_1 a0_2 a0_3 a0_4 a0_5 a1 (IntKind.u64.wrap (a2_0 + t346)) a2_1 l3 (l4.take ((wrap64 ((l4.length : Int) - 1)) : Int).toNat)).bind fun t363 => ((spec_HashChildren.f k a0_0 a0_1 a0_2 a0_3 a0_4 a0_5 (rd_L1 l4 (wrap64 ((l4.length : Int) - 1))) t363).bind fun t366 => (some t366))) else (none)) else (none)) else (none))))
theorem spec_rootIn.mono_l : ∀ k, (∀ y0 y1 y2 y3 y4 y5 y6 y7 y8 y9 y10, LeO (spec_rootIn.f k y0 y1 y2 y3 y4 y5 y6 y7 y8 y9 y10) (spec_rootIn.f (k + 1) y0 y1 y2 y3 y4 y5 y6 y7 y8 y9 y10))
  | 0 => fun _ _ _ _ _ _ _ _ _ _ _ r h => by simp [spec_rootIn.f] at h
  | k + 1 => by
    have ih0 := spec_rootIn.mono_l k
    · intro y0 y1 y2 y3 y4 y5 y6 y7 y8 y9 y10
      unfold spec_rootIn.f
      repeat' first
      | (with_reducible exact ih0 _ _ _ _ _ _ _ _ _ _ _)
      | (with_reducible exact spec_HashChildren.mono _ _ _ _ _ _ _ _ _)
      | (with_reducible exact spec_split.mono _ _)
      | (with_reducible exact LeO.refl _)
      | (with_reducible exact LeO.none _)
      | (with_reducible refine LeO.ite ?_ ?_)
      | (with_reducible refine LeO.bind ?_ (fun _ => ?_))
      | exact ih0 _ _ _ _ _ _ _ _ _ _ _
      | exact spec_HashChildren.mono _ _ _ _ _ _ _ _ _
      | exact spec_split.mono _ _
      | exact LeO.none _
      | refine LeO.ite ?_ ?_
      | refine LeO.bind ?_ (fun _ => ?_)
theorem spec_rootIn.mono : ∀ a0 a1 a2 a3 a4 a5 a6 a7 a8 a9 a10 k, LeO (spec_rootIn.f k a0 a1 a2 a3 a4 a5 a6 a7 a8 a9 a10) (spec_rootIn.f (k + 1) a0 a1 a2 a3 a4 a5 a6 a7 a8 a9 a10) := by
  intro a0 a1 a2 a3 a4 a5 a6 a7 a8 a9 a10 k
  have ih0 := spec_rootIn.mono_l k
  exact ih0 a0 a1 a2 a3 a4 a5 a6 a7 a8 a9 a10
def spec_rootIn.T3 : Bool × List (List Nat × List Nat) := (true, [([], []), ([0], [0]), ([], []), ([2], [2]), ([], []), ([4], [4]), ([3, 5], [3, 5]), ([6], [6]), ([1, 7], [1, 7]), ([], []), ([9], [9]), ([10], [10]), ([8, 7, 0, 1, 2, 3, 4, 5, 6, 7, 8], [8]), ([11, 12, 0, 1, 2, 3, 4, 5, 6, 7, 8, 9, 10, 11, 12], [11])])
def spec_rootIn.B3 : List Nat := [0, 1, 0, 4, 0, 16, 60, 124, 255, 0, 512, 1536, 511, 8191]
theorem spec_rootIn.tab3 : rtab .any (opsOf Try.f44 3) = spec_rootIn.T3 := by kernel_rfl
theorem spec_rootIn.bits3 : waitsOk spec_rootIn.T3.2 spec_rootIn.B3 = true := by kernel_rfl
def spec_rootIn.T5 : Bool × List (List Nat × List Nat) := (true, [([], []), ([], []), ([], []), ([], []), ([3], [3]), ([], []), ([4, 5], [4, 5]), ([], []), ([], []), ([], []), ([8, 9], [8, 9]), ([1, 2, 6, 7, 10], [1, 2, 6, 7, 10]), ([], []), ([], []), ([12, 13], [12, 13]), ([14], [14]), ([0, 11, 15, 11], [0, 11, 15]), ([16, 16, 0, 1, 2, 3, 4, 5, 6, 7, 8, 9, 10, 11, 12, 13, 14, 15, 16], [16])])
def spec_rootIn.B5 : List Nat := [0, 0, 0, 0, 8, 0, 56, 0, 0, 0, 768, 2046, 0, 0, 12288, 28672, 65535, 131071]
theorem spec_rootIn.tab5 : rtab .any (opsOf Try.f44 5) = spec_rootIn.T5 := by kernel_rfl
theorem spec_rootIn.bits5 : waitsOk spec_rootIn.T5.2 spec_rootIn.B5 = true := by kernel_rfl
def spec_rootIn.T6 : Bool × List (List Nat × List Nat) := (true, [([], []), ([], []), ([], []), ([1, 2], [1, 2]), ([3], [3]), ([], []), ([], []), ([], []), ([], []), ([8], [8]), ([7, 9], [7, 9]), ([], []), ([], []), ([], []), ([12, 13], [12, 13]), ([5, 6, 10, 11, 14], [5, 6, 10, 11, 14]), ([0, 4, 15, 15], [0, 4, 15]), ([16, 16, 0, 1, 2, 3, 4, 5, 6, 7, 8, 9, 10, 11, 12, 13, 14, 15, 16], [16])])
def spec_rootIn.B6 : List Nat := [0, 0, 0, 6, 14, 0, 0, 0, 0, 256, 896, 0, 0, 0, 12288, 32736, 65535, 131071]
theorem spec_rootIn.tab6 : rtab .any (opsOf Try.f44 6) = spec_rootIn.T6 := by kernel_rfl
theorem spec_rootIn.bits6 : waitsOk spec_rootIn.T6.2 spec_rootIn.B6 = true := by kernel_rfl
set_option maxHeartbeats 8000000 in
set_option maxRecDepth 100000 in
theorem spec_rootIn.calls (k : Nat) : ∀ (a0_0 : Int) (a0_1 : Int) (a0_2 : Int) (a0_3 : Int) (a0_4 : Int) (a0_5 : Int) (a1 : Int) (a2_0 : Int) (a2_1 : Int) (P3_ : Nat → Prop) (A3 : Option Addr) (c3 : Nat) (l3 : List Int) (A4 : Option Addr) (c4 : Nat) (l4 : List (List Int)) (r : List Int) (w : World) (hs3 : Kd.V (Kd.int .u8) 5 w w.heap.size (fun k_ => P3_ k_) (.slice A3 l3.length c3) l3) (hr4 : Kd.C (Kd.slice 5 (Kd.int .u8)) w A4 l4.length l4) (hc4 : l4.length ≤ c4) (h : spec_rootIn.f k a0_0 a0_1 a0_2 a0_3 a0_4 a0_5 a1 a2_0 a2_1 l3 l4 = some r),
    Calls Try.prog 44 #[.agg #[.int .i64 a0_0, .int .i64 a0_1, .int .i64 a0_2, .int .u64 a0_3, .int .u64 a0_4, .int .u64 a0_5], .int .u64 a1, .agg #[.int .u64 a2_0, .int .u64 a2_1], .slice A3 l3.length c3, .slice A4 l4.length c4] w fun e w' => ∃ v0_ : Value, e = .returned (v0_) ∧ Kd.V (Kd.int .u8) 5 w' w.heap.size (fun k_ => (P3_ k_ ∨ w.heap.size ≤ k_)) v0_ r ∧ Below w.heap.size w w' := by
  induction k using Nat.strongRecOn with
  | _ k ih =>
  intro a0_0 a0_1 a0_2 a0_3 a0_4 a0_5 a1 a2_0 a2_1 P3_ A3 c3 l3 A4 c4 l4 r w hs3 hr4 hc4 h
  cases k with
  | zero => exact absurd h (by simp [spec_rootIn.f])
  | succ k =>
  simp only [spec_rootIn.f] at h
  have hu29 := Try.underlying29
  have hu48 := Try.underlying48
  have HO3 := Aside0.mk (show Kd.V (Kd.int .u8) 5 w w.heap.size (fun k_ => (P3_ k_ ∨ w.heap.size ≤ k_)) (.slice A3 l3.length c3) l3 from Kd.V_mono hs3 (fun k_ hk => .inl hk))
  have HR4 := Aside0.mk hr4
  have HC4 := Aside0.mk hc4
  clear hr4 hc4
  have HB := Aside0.mk (Below.refl w.heap.size w)
  have H : (if (IntKind.u64.wrap (a2_1 - a2_0)) = 1 then (some l3) else ((spec_split.f k (IntKind.u64.wrap (a2_1 - a2_0))).bind fun t346 => (if a1 < (IntKind.u64.wrap (a2_0 + t346)) then (if 0 ≤ (wrap64 ((l4.length : Int) - 1)) then (if (wrap64 ((l4.length : Int) - 1)) ≤ (l4.length : Int) then ((spec_rootIn.f k a0_0 a0_1 a0_2 a0_3 a0_4 a0_5 a1 a2_0 (IntKind.u64.wrap (a2_0 + t346)) l3 (l4.take ((wrap64 ((l4.length : Int) - 1)) : Int).toNat)).bind fun t351 => (if (wrap64 ((l4.length : Int) - 1)) < (l4.length : Int) then ((spec_HashChildren.f k a0_0 a0_1 a0_2 a0_3 a0_4 a0_5 t351 (rd_L1 l4 (wrap64 ((l4.length : Int) - 1)))).bind fun t355 => (some t355)) else (none))) else (none)) else (none)) else (if 0 ≤ (wrap64 ((l4.length : Int) - 1)) then (if (wrap64 ((l4.length : Int) - 1)) < (l4.length : Int) then (if (wrap64 ((l4.length : Int) - 1)) ≤ (l4.length : Int) then ((spec_rootIn.f k a0_0 a0_1 a0_2 a0_3 a0_4 a0_5 a1 (IntKind.u64.wrap (a2_0 + t346)) a2_1 l3 (l4.take ((wrap64 ((l4.length : Int) - 1)) : Int).toNat)).bind fun t363 => ((spec_HashChildren.f k a0_0 a0_1 a0_2 a0_3 a0_4 a0_5 (rd_L1 l4 (wrap64 ((l4.length : Int) - 1))) t363).bind fun t366 => (some t366))) else (none)) else (none)) else (none))))) = some r := h
  clear h
  by_cases c6 : (IntKind.u64.wrap (a2_1 - a2_0)) = 1
  · rw [if_pos c6] at H
    have c6b0 : ((IntKind.u64.wrap (a2_1 - a2_0)) == 1) = true := beq_iff_eq.mpr c6
    have c6b1 : ((IntKind.u64.wrap (a2_1 - a2_0)) != 1) = false := bne_eq_false_iff_eq.mpr c6
    clear c6
    obtain rfl := Option.some.inj H
    go_enter Try.func44, Try.ntmps44
    go_wp2_with (first | ((with_reducible refine gate_dst (N := 5) rfl ?_); refine box_event ?hg (N := 5) ?hd (cs := #[.int .i64 a0_0, .int .i64 a0_1, .int .i64 a0_2, .int .u64 a0_3, .int .u64 a0_4, .int .u64 a0_5]) (t := 29) ?hr ?_; (case hd => rfl); (case hg => rfl); (case hr => first | (go_simp; done) | (go_simp; rfl)); intro gb344 hg w7 hbox hb; have n0_ := Aside0.mk (Kd.V_below (Kd.V_elderB (by (with_reducible repeat (first | apply Kd.V_alloc | apply Kd.V_drewN | apply Kd.V_drew)); exact HO3.out) gb344 (Nat.le_of_eq hg.symm)) hb); have n1_ := Aside0.mk (below_step (by repeat (first | (with_reducible first | exact HB.out | apply below_alloc | apply pw_below_drewN | apply below_drew1) | exact HB.out)) hb); have n2_ := Aside0.mk (hbox); have n3_ := Aside0.mk ((by rw [hg]; exact (below_size (by repeat (first | (with_reducible first | exact HB.out | apply below_alloc | apply pw_below_drewN | apply below_drew1) | exact HB.out))) : w.heap.size ≤ gb344)); have n4_ := Aside0.mk ((by rw [hg]; exact (below_size (by repeat (first | (with_reducible first | exact HB.out | apply below_alloc | apply pw_below_drewN | apply below_drew1) | exact HB.out))) : w.heap.size ≤ gb344)); clear HO3; clear HB; have HO3 := n0_; have HB := n1_; have BK344 := n2_; have GW344 := n3_; have GE344 := n4_; clear n0_ n1_ n2_ n3_ n4_; clear hb hbox hg) | ((with_reducible refine gate_dst (N := 7) rfl ?_); refine box_event ?hg (N := 7) ?hd (cs := #[.int .u64 a2_0, .int .u64 a2_1]) (t := 48) ?hr ?_; (case hd => rfl); (case hg => rfl); (case hr => first | (go_simp; done) | (go_simp; rfl)); intro gb345 hg w8 hbox hb; have n0_ := Aside0.mk (Kd.V_below (Kd.V_elderB (by (with_reducible repeat (first | apply Kd.V_alloc | apply Kd.V_drewN | apply Kd.V_drew)); exact HO3.out) gb345 (Nat.le_of_eq hg.symm)) hb); have n1_ := Aside0.mk (blk_below (g := gb344) (o := .cells #[.int .i64 a0_0, .int .i64 a0_1, .int .i64 a0_2, .int .u64 a0_3, .int .u64 a0_4, .int .u64 a0_5] 29 (0, 0)) (by (with_reducible repeat (first | refine blk_drewN ?_ _ | refine blk_drew ?_ | refine blk_alloc ?_ _)); exact BK344.out) hb); have n2_ := Aside0.mk (below_step (by repeat (first | (with_reducible first | exact HB.out | apply below_alloc | apply pw_below_drewN | apply below_drew1 | refine below_set ?_ GE344.out) | exact HB.out)) hb); have n3_ := Aside0.mk (hbox); have n4_ := Aside0.mk ((by rw [hg]; exact (below_size (by repeat (first | (with_reducible first | exact HB.out | apply below_alloc | apply pw_below_drewN | apply below_drew1 | refine below_set ?_ GE344.out) | exact HB.out))) : w.heap.size ≤ gb345)); have n5_ := Aside0.mk ((by rw [hg]; exact (below_size (by repeat (first | (with_reducible first | exact HB.out | apply below_alloc | apply pw_below_drewN | apply below_drew1 | refine below_set ?_ GE344.out) | exact HB.out))) : w.heap.size ≤ gb345)); have n6_ := Aside0.mk ((by rw [hg]; exact Nat.ne_of_lt (blk_lt (g := gb344) (o := .cells #[.int .i64 a0_0, .int .i64 a0_1, .int .i64 a0_2, .int .u64 a0_3, .int .u64 a0_4, .int .u64 a0_5] 29 (0, 0)) (by (with_reducible repeat (first | refine blk_drewN ?_ _ | refine blk_drew ?_ | refine blk_alloc ?_ _)); exact BK344.out)) : gb344 ≠ gb345)); have n7_ := Aside0.mk ((by rw [hg]; exact Nat.ne_of_gt (blk_lt (g := gb344) (o := .cells #[.int .i64 a0_0, .int .i64 a0_1, .int .i64 a0_2, .int .u64 a0_3, .int .u64 a0_4, .int .u64 a0_5] 29 (0, 0)) (by (with_reducible repeat (first | refine blk_drewN ?_ _ | refine blk_drew ?_ | refine blk_alloc ?_ _)); exact BK344.out)) : gb345 ≠ gb344)); clear HO3; clear BK344; clear HB; have HO3 := n0_; have BK344 := n1_; have HB := n2_; have BK345 := n3_; have GW345 := n4_; have GE345 := n5_; have NB344_345 := n6_; have NB345_344 := n7_; clear n0_ n1_ n2_ n3_ n4_ n5_ n6_ n7_; clear hb hbox hg; have hnb9 := NB345_344.out; have hnc9 := NB344_345.out; have hcz10_0 : w8.cell? ⟨gb345, 0, none⟩ = some (.int .u64 a2_0) := (blk_cell BK345.out 0).trans rfl; have hcz10_1 : w8.cell? ⟨gb345, 1, none⟩ = some (.int .u64 a2_1) := (blk_cell BK345.out 1).trans rfl; have hfz10_0 := blk_frozen BK345.out 0; have hfz10_1 := blk_frozen BK345.out 1))
    go_ret
    exact ⟨_, by first | rfl | (simp [errW_none, errW_some] <;> rfl) | (simp [*, errW_none, errW_some] <;> rfl), by (with_reducible repeat (first | apply Kd.V_alloc | apply Kd.V_drewN | apply Kd.V_drew)); exact Kd.V_mono HO3.out (fun _ hk => hk.1.1), by repeat (first | (with_reducible first | exact HB.out | apply below_alloc | apply pw_below_drewN | apply below_drew1 | refine below_set ?_ GE344.out | refine below_set ?_ GE345.out) | exact HB.out)⟩
  · rw [if_neg c6] at H
    have c6b0 : ((IntKind.u64.wrap (a2_1 - a2_0)) == 1) = false := beq_eq_false_iff_ne.mpr c6
    have c6b1 : ((IntKind.u64.wrap (a2_1 - a2_0)) != 1) = true := bne_iff_ne.mpr c6
    replace H := Option.bind_eq_some_iff.mp H
    obtain ⟨t346, A110, H⟩ := H
    replace H : (if a1 < (IntKind.u64.wrap (a2_0 + t346)) then (if 0 ≤ (wrap64 ((l4.length : Int) - 1)) then (if (wrap64 ((l4.length : Int) - 1)) ≤ (l4.length : Int) then ((spec_rootIn.f k a0_0 a0_1 a0_2 a0_3 a0_4 a0_5 a1 a2_0 (IntKind.u64.wrap (a2_0 + t346)) l3 (l4.take ((wrap64 ((l4.length : Int) - 1)) : Int).toNat)).bind fun t351 => (if (wrap64 ((l4.length : Int) - 1)) < (l4.length : Int) then ((spec_HashChildren.f k a0_0 a0_1 a0_2 a0_3 a0_4 a0_5 t351 (rd_L1 l4 (wrap64 ((l4.length : Int) - 1)))).bind fun t355 => (some t355)) else (none))) else (none)) else (none)) else (if 0 ≤ (wrap64 ((l4.length : Int) - 1)) then (if (wrap64 ((l4.length : Int) - 1)) < (l4.length : Int) then (if (wrap64 ((l4.length : Int) - 1)) ≤ (l4.length : Int) then ((spec_rootIn.f k a0_0 a0_1 a0_2 a0_3 a0_4 a0_5 a1 (IntKind.u64.wrap (a2_0 + t346)) a2_1 l3 (l4.take ((wrap64 ((l4.length : Int) - 1)) : Int).toNat)).bind fun t363 => ((spec_HashChildren.f k a0_0 a0_1 a0_2 a0_3 a0_4 a0_5 (rd_L1 l4 (wrap64 ((l4.length : Int) - 1))) t363).bind fun t366 => (some t366))) else (none)) else (none)) else (none))) = some r := H
    have A11 := Aside0.mk A110
    clear A110
    by_cases c12 : a1 < (IntKind.u64.wrap (a2_0 + t346))
    · rw [if_pos c12] at H
      have c12b0 : decide (a1 < (IntKind.u64.wrap (a2_0 + t346))) = true := decide_eq_true c12
      clear c12
      obtain ⟨ji13, hji13⟩ : ∃ j_ : Int, (wrap64 ((l4.length : Int) - 1)) = j_ := ⟨_, rfl⟩
      replace H : (if 0 ≤ (ji13) then (if (ji13) ≤ (l4.length : Int) then ((spec_rootIn.f k a0_0 a0_1 a0_2 a0_3 a0_4 a0_5 a1 a2_0 (IntKind.u64.wrap (a2_0 + t346)) l3 (l4.take ((ji13) : Int).toNat)).bind fun t351 => (if (ji13) < (l4.length : Int) then ((spec_HashChildren.f k a0_0 a0_1 a0_2 a0_3 a0_4 a0_5 t351 (rd_L1 l4 (ji13))).bind fun t355 => (some t355)) else (none))) else (none)) else (none)) = some r := by first | (rw [hji13] at H; exact H) | (simp only [hji13] at H ⊢; exact H)
      (try rw [hji13] at A11)
      have hji13w : (IntKind.i64.wrap ((l4.length : Int) - 1)) = ji13 := (i64_w _).trans hji13
      by_cases c14 : 0 ≤ (ji13)
      · rw [if_pos c14] at H
        have c14b0 := eq_true c14
        have c14b1 : decide (0 ≤ (ji13)) = true := decide_eq_true c14
        clear c14
        by_cases c15 : (ji13) ≤ (l4.length : Int)
        · rw [if_pos c15] at H
          have c15b0 := eq_true c15
          have c15b1 : decide ((ji13) ≤ (l4.length : Int)) = true := decide_eq_true c15
          clear c15
          obtain ⟨y347, hy347⟩ : ∃ y_ : List (List Int), y_ = (l4.take ((ji13) : Int).toNat) := ⟨_, rfl⟩
          replace H : ((spec_rootIn.f k a0_0 a0_1 a0_2 a0_3 a0_4 a0_5 a1 a2_0 (IntKind.u64.wrap (a2_0 + t346)) l3 y347).bind fun t351 => (if (ji13) < (l4.length : Int) then ((spec_HashChildren.f k a0_0 a0_1 a0_2 a0_3 a0_4 a0_5 t351 (rd_L1 l4 (ji13))).bind fun t355 => (some t355)) else (none))) = some r := by first | (rw [hy347]; with_reducible exact H) | (have H2_ := (Option.bind_some _ _).symm.trans H; rw [hy347]; with_reducible exact H2_) | (have H2_ := (Option.bind_some _ _).symm.trans H; with_reducible exact H2_) | with_reducible exact H | (rw [hy347]; exact H) | exact H
          have Ny347 := Aside0.mk hy347
          clear hy347
          replace H := Option.bind_eq_some_iff.mp H
          obtain ⟨t351, A160, H⟩ := H
          replace H : (if (ji13) < (l4.length : Int) then ((spec_HashChildren.f k a0_0 a0_1 a0_2 a0_3 a0_4 a0_5 t351 (rd_L1 l4 (ji13))).bind fun t355 => (some t355)) else (none)) = some r := H
          have A16 := Aside0.mk A160
          clear A160
          by_cases c17 : (ji13) < (l4.length : Int)
          · rw [if_pos c17] at H
            have c17b0 : decide ((ji13) < (l4.length : Int)) = true := decide_eq_true c17
            clear c17
            replace H := Option.bind_eq_some_iff.mp H
            obtain ⟨t355, A180, H⟩ := H
            replace H : (some t355) = some r := H
            have A18 := Aside0.mk A180
            clear A180
            obtain rfl := Option.some.inj H
            go_enter Try.func44, Try.ntmps44
            try go_wp2_with (first | ((with_reducible refine gate_dst (N := 5) rfl ?_); refine box_event ?hg (N := 5) ?hd (cs := #[.int .i64 a0_0, .int .i64 a0_1, .int .i64 a0_2, .int .u64 a0_3, .int .u64 a0_4, .int .u64 a0_5]) (t := 29) ?hr ?_; (case hd => rfl); (case hg => rfl); (case hr => first | (go_simp; done) | (go_simp; rfl)); intro gb344 hg w19 hbox hb; have n0_ := Aside0.mk (Kd.V_below (Kd.V_elderB (by (with_reducible repeat (first | apply Kd.V_alloc | apply Kd.V_drewN | apply Kd.V_drew)); exact HO3.out) gb344 (Nat.le_of_eq hg.symm)) hb); have n1_ := Aside0.mk (below_step (by repeat (first | (with_reducible first | exact HB.out | apply below_alloc | apply pw_below_drewN | apply below_drew1) | exact HB.out)) hb); have n2_ := Aside0.mk (hbox); have n3_ := Aside0.mk ((by rw [hg]; exact (below_size (by repeat (first | (with_reducible first | exact HB.out | apply below_alloc | apply pw_below_drewN | apply below_drew1) | exact HB.out))) : w.heap.size ≤ gb344)); have n4_ := Aside0.mk ((by rw [hg]; exact (below_size (by repeat (first | (with_reducible first | exact HB.out | apply below_alloc | apply pw_below_drewN | apply below_drew1) | exact HB.out))) : w.heap.size ≤ gb344)); clear HO3; clear HB; have HO3 := n0_; have HB := n1_; have BK344 := n2_; have GW344 := n3_; have GE344 := n4_; clear n0_ n1_ n2_ n3_ n4_; clear hb hbox hg) | ((with_reducible refine gate_dst (N := 7) rfl ?_); refine box_event ?hg (N := 7) ?hd (cs := #[.int .u64 a2_0, .int .u64 a2_1]) (t := 48) ?hr ?_; (case hd => rfl); (case hg => rfl); (case hr => first | (go_simp; done) | (go_simp; rfl)); intro gb345 hg w20 hbox hb; have n0_ := Aside0.mk (Kd.V_below (Kd.V_elderB (by (with_reducible repeat (first | apply Kd.V_alloc | apply Kd.V_drewN | apply Kd.V_drew)); exact HO3.out) gb345 (Nat.le_of_eq hg.symm)) hb); have n1_ := Aside0.mk (blk_below (g := gb344) (o := .cells #[.int .i64 a0_0, .int .i64 a0_1, .int .i64 a0_2, .int .u64 a0_3, .int .u64 a0_4, .int .u64 a0_5] 29 (0, 0)) (by (with_reducible repeat (first | refine blk_drewN ?_ _ | refine blk_drew ?_ | refine blk_alloc ?_ _)); exact BK344.out) hb); have n2_ := Aside0.mk (below_step (by repeat (first | (with_reducible first | exact HB.out | apply below_alloc | apply pw_below_drewN | apply below_drew1 | refine below_set ?_ GE344.out) | exact HB.out)) hb); have n3_ := Aside0.mk (hbox); have n4_ := Aside0.mk ((by rw [hg]; exact (below_size (by repeat (first | (with_reducible first | exact HB.out | apply below_alloc | apply pw_below_drewN | apply below_drew1 | refine below_set ?_ GE344.out) | exact HB.out))) : w.heap.size ≤ gb345)); have n5_ := Aside0.mk ((by rw [hg]; exact (below_size (by repeat (first | (with_reducible first | exact HB.out | apply below_alloc | apply pw_below_drewN | apply below_drew1 | refine below_set ?_ GE344.out) | exact HB.out))) : w.heap.size ≤ gb345)); have n6_ := Aside0.mk ((by rw [hg]; exact Nat.ne_of_lt (blk_lt (g := gb344) (o := .cells #[.int .i64 a0_0, .int .i64 a0_1, .int .i64 a0_2, .int .u64 a0_3, .int .u64 a0_4, .int .u64 a0_5] 29 (0, 0)) (by (with_reducible repeat (first | refine blk_drewN ?_ _ | refine blk_drew ?_ | refine blk_alloc ?_ _)); exact BK344.out)) : gb344 ≠ gb345)); have n7_ := Aside0.mk ((by rw [hg]; exact Nat.ne_of_gt (blk_lt (g := gb344) (o := .cells #[.int .i64 a0_0, .int .i64 a0_1, .int .i64 a0_2, .int .u64 a0_3, .int .u64 a0_4, .int .u64 a0_5] 29 (0, 0)) (by (with_reducible repeat (first | refine blk_drewN ?_ _ | refine blk_drew ?_ | refine blk_alloc ?_ _)); exact BK344.out)) : gb345 ≠ gb344)); clear HO3; clear BK344; clear HB; have HO3 := n0_; have BK344 := n1_; have HB := n2_; have BK345 := n3_; have GW345 := n4_; have GE345 := n5_; have NB344_345 := n6_; have NB345_344 := n7_; clear n0_ n1_ n2_ n3_ n4_ n5_ n6_ n7_; clear hb hbox hg; have hnb21 := NB345_344.out; have hnc21 := NB344_345.out; have hcz22_0 : w20.cell? ⟨gb345, 0, none⟩ = some (.int .u64 a2_0) := (blk_cell BK345.out 0).trans rfl; have hcz22_1 : w20.cell? ⟨gb345, 1, none⟩ = some (.int .u64 a2_1) := (blk_cell BK345.out 1).trans rfl; have hfz22_0 := blk_frozen BK345.out 0; have hfz22_1 := blk_frozen BK345.out 1))
            have n0_ := Aside0.mk (Kd.V_drew HO3.out)
            have n1_ := Aside0.mk (blk_drew BK344.out)
            have n2_ := Aside0.mk (blk_drew BK345.out)
            have n3_ := Aside0.mk (below_drew1 HB.out)
            clear HO3
            clear BK344
            clear BK345
            clear HB
            have HO3 := n0_
            have BK344 := n1_
            have BK345 := n2_
            have HB := n3_
            clear n0_ n1_ n2_ n3_
            refine start_ (n := 14) (S := fun w' => w'.cell? ⟨gb345, 0, none⟩ = some (.int .u64 a2_0) ∧ w'.cell? ⟨gb345, 1, none⟩ = some (.int .u64 a2_1)) (ds := []) #[false, false, false, false, false, false, false, false, false, false, false, false, false, false] (by kernel_rfl) rfl rfl ⟨(blk_cell BK345.out 0).trans rfl, (blk_cell BK345.out 1).trans rfl⟩ (fun hHeld => ?_); refine with_tabW spec_rootIn.tab3 spec_rootIn.bits3 (fun HT_ HW_ => ?_)
            generalize w20.drew = w23 at HO3 BK344 BK345 HB hHeld ⊢
            refine pure_ (i := 0) (N := some 20) (v := ?_) (a' := ?_) #[true, false, false, false, false, false, false, false, false, false, false, false, false, false] rfl rfl (any_of HT_.out (by kernel_rfl)) (fun _ _ _ h => h) (Or.inl ⟨by rfl, ?_⟩) ?_ ?_
            rotate_left
            · intro w'
              go_simp
              with_reducible rfl
            rotate_left
            · simp only [Act.put, List.setIfInBounds_toArray, List.set_cons_zero, List.set_cons_succ, i64_w, i32_w]
              rfl
            refine pure_ (i := 2) (N := some 22) (v := ?_) (a' := ?_) #[true, false, true, false, false, false, false, false, false, false, false, false, false, false] rfl rfl (any_of HT_.out (by kernel_rfl)) (fun _ _ _ h => h) (Or.inl ⟨by rfl, ?_⟩) ?_ ?_
            rotate_left
            · intro w'
              go_simp
              with_reducible rfl
            rotate_left
            · simp only [Act.put, List.setIfInBounds_toArray, List.set_cons_zero, List.set_cons_succ, i64_w, i32_w]
              rfl
            refine pure_ (i := 4) (N := some 24) (v := ?_) (a' := ?_) #[true, false, true, false, true, false, false, false, false, false, false, false, false, false] rfl rfl (any_of HT_.out (by kernel_rfl)) (fun _ _ _ h => h) (Or.inl ⟨by rfl, ?_⟩) ?_ ?_
            rotate_left
            · intro w'
              go_simp
              with_reducible rfl
            rotate_left
            · simp only [Act.put, List.setIfInBounds_toArray, List.set_cons_zero, List.set_cons_succ, i64_w, i32_w]
              rfl
            refine pure_ (i := 9) (N := some 29) (v := ?_) (a' := ?_) #[true, false, true, false, true, false, false, false, false, true, false, false, false, false] rfl rfl (any_of HT_.out (by kernel_rfl)) (fun _ _ _ h => h) (Or.inl ⟨by rfl, ?_⟩) ?_ ?_
            rotate_left
            · intro w'
              go_simp
              with_reducible rfl
            rotate_left
            · simp only [Act.put, List.setIfInBounds_toArray, List.set_cons_zero, List.set_cons_succ, i64_w, i32_w]
              rfl
            refine pure_ (i := 10) (N := some 30) (v := ?_) (a' := ?_) #[true, false, true, false, true, false, false, false, false, true, true, false, false, false] rfl rfl (any_of HT_.out (by kernel_rfl)) (fun _ _ _ h => h) (Or.inl ⟨by rfl, ?_⟩) ?_ ?_
            rotate_left
            · intro w'
              go_simp
              with_reducible rfl
            rotate_left
            · simp only [Act.put, List.setIfInBounds_toArray, List.set_cons_zero, List.set_cons_succ, i64_w, i32_w]
              rfl
            refine pure_ (i := 11) (N := some 31) (v := ?_) (a' := ?_) #[true, false, true, false, true, false, false, false, false, true, true, true, false, false] rfl rfl (any_of HT_.out (by kernel_rfl)) (fun _ _ _ h => h) (Or.inl ⟨by rfl, ?_⟩) ?_ ?_
            rotate_left
            · intro w'
              go_simp
              with_reducible rfl
            rotate_left
            · simp only [Act.put, List.setIfInBounds_toArray, List.set_cons_zero, List.set_cons_succ, i64_w, i32_w]
              rfl
            refine take_ (i := 1) (N := some 21) (v := ?_) (a' := ?_) #[true, true, true, false, true, false, false, false, false, true, true, true, false, false] rfl rfl (take_ofW HT_.out HW_.out (by kernel_rfl)) (fun _ _ _ h => h) (Or.inl ⟨by rfl, ?_⟩) hHeld ?_ ?_
            rotate_left
            · rintro w' ⟨s0, s1⟩
              go_simp
              with_reducible rfl
            rotate_left
            · simp only [Act.put, List.setIfInBounds_toArray, List.set_cons_zero, List.set_cons_succ, i64_w, i32_w]
              rfl
            refine take_ (i := 3) (N := some 23) (v := ?_) (a' := ?_) #[true, true, true, true, true, false, false, false, false, true, true, true, false, false] rfl rfl (take_ofW HT_.out HW_.out (by kernel_rfl)) (fun _ _ _ h => h) (Or.inl ⟨by rfl, ?_⟩) hHeld ?_ ?_
            rotate_left
            · rintro w' ⟨s0, s1⟩
              go_simp
              with_reducible rfl
            rotate_left
            · simp only [Act.put, List.setIfInBounds_toArray, List.set_cons_zero, List.set_cons_succ, i64_w, i32_w]
              rfl
            refine take_ (i := 5) (N := some 25) (v := ?_) (a' := ?_) #[true, true, true, true, true, true, false, false, false, true, true, true, false, false] rfl rfl (take_ofW HT_.out HW_.out (by kernel_rfl)) (fun _ _ _ h => h) (Or.inl ⟨by rfl, ?_⟩) hHeld ?_ ?_
            rotate_left
            · rintro w' ⟨s0, s1⟩
              go_simp
              with_reducible rfl
            rotate_left
            · simp only [Act.put, List.setIfInBounds_toArray, List.set_cons_zero, List.set_cons_succ, i64_w, i32_w]
              rfl
            refine pure_ (i := 6) (N := some 26) (v := ?_) (a' := ?_) #[true, true, true, true, true, true, true, false, false, true, true, true, false, false] rfl rfl (any_of HT_.out (by kernel_rfl)) (fun _ _ _ h => h) (Or.inl ⟨by rfl, ?_⟩) ?_ ?_
            rotate_left
            · intro w'
              go_simp
              with_reducible rfl
            rotate_left
            · simp only [Act.put, List.setIfInBounds_toArray, List.set_cons_zero, List.set_cons_succ, i64_w, i32_w]
              rfl
            refine one_ (i := 7) (N := some 27) #[true, true, true, true, true, true, true, true, false, true, true, true, false, false] rfl rfl (one_of HT_.out (by kernel_rfl)) (by decide) (fun K hK => ?_)
            refine goes_ Try.func39 (by kernel_rfl) rfl #[.int .u64 (IntKind.u64.wrap (a2_1 - a2_0))] (by rfl) rfl rfl (by (try simp only [List.map_toArray, List.map_cons, List.map_nil]); first | done | rfl | (simp only [List.length_drop, List.length_take]; rfl)) ?_
            with_reducible refine (spec_split.calls k (IntKind.u64.wrap (a2_1 - a2_0)) t346 _ A11.out).mono ?_
            rintro e w' ⟨rfl, ⟨nd, rfl⟩⟩
            refine ⟨_, rfl, ?_⟩
            refine hK.out _ _ ⟨(blk_cell BK345.out 0).trans rfl, (blk_cell BK345.out 1).trans rfl⟩ (fun hHeld => ?_)
            clear hK K
            refine norm_ (a' := ?_) ?_ ?_
            rotate_left
            · show Act.put _ (some 27) _ = _
              simp only [Act.put, List.setIfInBounds_toArray, List.set_cons_zero, List.set_cons_succ, i64_w, i32_w]
              rfl
            refine pure_ (i := 8) (N := some 28) (v := ?_) (a' := ?_) #[true, true, true, true, true, true, true, true, true, true, true, true, false, false] rfl rfl (any_of HT_.out (by kernel_rfl)) (fun _ _ _ h => h) (Or.inl ⟨by rfl, ?_⟩) ?_ ?_
            rotate_left
            · intro w'
              go_simp
              with_reducible rfl
            rotate_left
            · simp only [Act.put, List.setIfInBounds_toArray, List.set_cons_zero, List.set_cons_succ, i64_w, i32_w]
              rfl
            refine pure_ (i := 12) (N := some 11) (v := ?_) (a' := ?_) #[true, true, true, true, true, true, true, true, true, true, true, true, true, false] rfl rfl (any_of HT_.out (by kernel_rfl)) (fun _ _ _ h => h) (Or.inl ⟨by rfl, ?_⟩) ?_ ?_
            rotate_left
            · intro w'
              go_simp
              with_reducible rfl
            rotate_left
            · simp only [Act.put, List.setIfInBounds_toArray, List.set_cons_zero, List.set_cons_succ, i64_w, i32_w]
              rfl
            refine pure_ (i := 13) (N := some 12) (v := ?_) (a' := ?_) #[true, true, true, true, true, true, true, true, true, true, true, true, true, true] rfl rfl (any_of HT_.out (by kernel_rfl)) (fun _ _ _ h => h) (Or.inl ⟨by rfl, ?_⟩) ?_ ?_
            rotate_left
            · intro w'
              go_simp
              with_reducible rfl
            rotate_left
            · simp only [Act.put, List.setIfInBounds_toArray, List.set_cons_zero, List.set_cons_succ, i64_w, i32_w]
              rfl
            refine done_ (done_of HT_.out (by kernel_rfl)) ?_
            try go_wp2
            (try (rw [drewN_self w23]; generalize hq_ : World.drewN w23 _ = w23; have n0_ : Aside0 (Kd.V (Kd.int .u8) 5 w23 w.heap.size (fun k_ => (P3_ k_ ∨ w.heap.size ≤ k_) ∧ k_ ≠ gb344 ∧ k_ ≠ gb345) (.slice A3 l3.length c3) l3) := ⟨by rw [← hq_]; exact (by (with_reducible repeat (first | apply Kd.V_alloc | apply Kd.V_drewN | apply Kd.V_drew)); exact Kd.V_mono HO3.out (fun _ hk => ⟨hk.1.1, ⟨hk.1.2, hk.2⟩⟩))⟩; have n1_ : Aside0 (w23.heap[gb344]? = some (.cells #[.int .i64 a0_0, .int .i64 a0_1, .int .i64 a0_2, .int .u64 a0_3, .int .u64 a0_4, .int .u64 a0_5] 29 (0, 0))) := ⟨by rw [← hq_]; exact (by (with_reducible repeat (first | refine blk_drewN ?_ _ | refine blk_drew ?_ | refine blk_alloc ?_ _)); exact BK344.out)⟩; have n2_ : Aside0 (w23.heap[gb345]? = some (.cells #[.int .u64 a2_0, .int .u64 a2_1] 48 (0, 0))) := ⟨by rw [← hq_]; exact (by (with_reducible repeat (first | refine blk_drewN ?_ _ | refine blk_drew ?_ | refine blk_alloc ?_ _)); exact BK345.out)⟩; have n3_ : Aside0 (Below w.heap.size w w23) := ⟨by rw [← hq_]; exact (by repeat (first | (with_reducible first | exact HB.out | apply below_alloc | apply pw_below_drewN | apply below_drew1 | refine below_set ?_ GE344.out | refine below_set ?_ GE345.out) | exact HB.out))⟩; clear HO3 BK344 BK345 HB hq_; have HO3 := n0_; have BK344 := n1_; have BK345 := n2_; have HB := n3_; clear n0_ n1_ n2_ n3_))
            have n0_ := Aside0.mk (Kd.V_drew HO3.out)
            have n1_ := Aside0.mk (blk_drew BK344.out)
            have n2_ := Aside0.mk (blk_drew BK345.out)
            have n3_ := Aside0.mk (below_drew1 HB.out)
            clear HO3
            clear BK344
            clear BK345
            clear HB
            have HO3 := n0_
            have BK344 := n1_
            have BK345 := n2_
            have HB := n3_
            clear n0_ n1_ n2_ n3_
            have q25 : ((ji13) : Int) ≤ ((l4.length : Int) : Int) := of_decide_eq_true (by first | (with_reducible assumption) | assumption)
            obtain ⟨i025, hi025, _, hsz25, _⟩ := info_parts info30
            have hroom25 : l4.length ≤ c4 := HC4.out
            have hC25 : Kd.C (Kd.slice 5 (Kd.int .u8)) _ A4 l4.length l4 := HR4.out
            have hcut25 := cut_to (P := Try.prog) 23 30 .i64 Try.underlying23 hi025 A4 l4.length c4 (ji13) (of_decide_eq_true (by first | (with_reducible assumption) | assumption)) q25 hroom25
            have hr25 := Kd.C_take (m := ((ji13) : Int).toNat) hC25 (by omega)
            have hy25 : y347.length = ((ji13) : Int).toNat := (by rw [Ny347.out, List.length_take]; omega)
            rw [← Ny347.out] at hr25
            rw [← hy25] at hcut25
            have HR350 := Aside0.mk hr25
            have HC350 := Aside0.mk (show y347.length ≤ c4 from by omega)
            clear hr25 hC25 hroom25 hi025 hsz25
            have KY25 := Aside0.mk hy25
            clear hy25
            replace q25 := eq_true q25
            have p354 : 0 ≤ ((ji13) : Int) := of_decide_eq_true (by first | (with_reducible assumption) | assumption)
            have q354 : (ji13) < (l4.length : Int) := of_decide_eq_true (by first | (with_reducible assumption) | assumption)
            obtain ⟨ad354, A354_0, c354_0, e354, hx354_0, hl354_0, hi354_0⟩ := at_L1 HR4.out (ji13) p354 q354
            have hw354_0 := hx354_0
            cases e354
            replace hx354_0 := (HB.out.cell (World.block_lt_of_cell? w _ hx354_0)).trans hx354_0
            have HR354_0 := Aside0.mk hi354_0
            have HC354_0 := Aside0.mk hl354_0
            clear hi354_0 hl354_0
            replace p354 := eq_true p354
            replace q354 := eq_true q354
            refine start_ (n := 18) (S := fun w' => w'.cell? ⟨gb344, 0, none⟩ = some (.int .i64 a0_0) ∧ w'.cell? ⟨gb344, 1, none⟩ = some (.int .i64 a0_1) ∧ w'.cell? ⟨gb344, 2, none⟩ = some (.int .i64 a0_2) ∧ w'.cell? ⟨gb344, 3, none⟩ = some (.int .u64 a0_3) ∧ w'.cell? ⟨gb344, 4, none⟩ = some (.int .u64 a0_4) ∧ w'.cell? ⟨gb344, 5, none⟩ = some (.int .u64 a0_5) ∧ w'.cell? ⟨gb345, 0, none⟩ = some (.int .u64 a2_0) ∧ w'.cell? ⟨gb345, 1, none⟩ = some (.int .u64 a2_1) ∧ w'.cell? (ad354.add ((ji13)).toNat) = some (.slice A354_0 (rd_L1 l4 (ji13)).length c354_0)) (ds := []) #[false, false, false, false, false, false, false, false, false, false, false, false, false, false, false, false, false, false] (by kernel_rfl) rfl rfl ⟨(blk_cell BK344.out 0).trans rfl, (blk_cell BK344.out 1).trans rfl, (blk_cell BK344.out 2).trans rfl, (blk_cell BK344.out 3).trans rfl, (blk_cell BK344.out 4).trans rfl, (blk_cell BK344.out 5).trans rfl, (blk_cell BK345.out 0).trans rfl, (blk_cell BK345.out 1).trans rfl, ((HB.out.cell (World.block_lt_of_cell? w _ hw354_0)).trans hw354_0)⟩ (fun hHeld => ?_); refine with_tabW spec_rootIn.tab5 spec_rootIn.bits5 (fun HT_ HW_ => ?_)
            generalize w23.drew = w24 at HO3 BK344 BK345 HB HR350 HR354_0 hx354_0 hHeld ⊢
            refine pure_ (i := 2) (N := some 37) (v := ?_) (a' := ?_) #[false, false, true, false, false, false, false, false, false, false, false, false, false, false, false, false, false, false] rfl rfl (any_of HT_.out (by kernel_rfl)) (fun _ _ _ h => h) (Or.inl ⟨by rfl, ?_⟩) ?_ ?_
            rotate_left
            · intro w'
              go_simp
              with_reducible rfl
            rotate_left
            · simp only [Act.put, List.setIfInBounds_toArray, List.set_cons_zero, List.set_cons_succ, i64_w, i32_w]
              rfl
            refine pure_ (i := 3) (N := some 38) (v := ?_) (a' := ?_) #[false, false, true, true, false, false, false, false, false, false, false, false, false, false, false, false, false, false] rfl rfl (any_of HT_.out (by kernel_rfl)) (fun _ _ _ h => h) (Or.inl ⟨by rfl, ?_⟩) ?_ ?_
            rotate_left
            · intro w'
              go_simp
              with_reducible rfl
            rotate_left
            · simp only [Act.put, List.setIfInBounds_toArray, List.set_cons_zero, List.set_cons_succ, i64_w, i32_w]
              rfl
            refine pure_ (i := 5) (N := some 40) (v := ?_) (a' := ?_) #[false, false, true, true, false, true, false, false, false, false, false, false, false, false, false, false, false, false] rfl rfl (any_of HT_.out (by kernel_rfl)) (fun _ _ _ h => h) (Or.inl ⟨by rfl, ?_⟩) ?_ ?_
            rotate_left
            · intro w'
              go_simp
              with_reducible rfl
            rotate_left
            · simp only [Act.put, List.setIfInBounds_toArray, List.set_cons_zero, List.set_cons_succ, i64_w, i32_w]
              rfl
            refine pure_ (i := 7) (N := some 42) (v := ?_) (a' := ?_) #[false, false, true, true, false, true, false, true, false, false, false, false, false, false, false, false, false, false] rfl rfl (any_of HT_.out (by kernel_rfl)) (fun _ _ _ h => h) (Or.inl ⟨by rfl, ?_⟩) ?_ ?_
            rotate_left
            · intro w'
              go_simp
              with_reducible rfl
            rotate_left
            · simp only [Act.put, List.setIfInBounds_toArray, List.set_cons_zero, List.set_cons_succ, i64_w, i32_w]
              rfl
            refine pure_ (i := 8) (N := some 43) (v := ?_) (a' := ?_) #[false, false, true, true, false, true, false, true, true, false, false, false, false, false, false, false, false, false] rfl rfl (any_of HT_.out (by kernel_rfl)) (fun _ _ _ h => h) (Or.inl ⟨by rfl, ?_⟩) ?_ ?_
            rotate_left
            · intro w'
              go_simp
              with_reducible rfl
            rotate_left
            · simp only [Act.put, List.setIfInBounds_toArray, List.set_cons_zero, List.set_cons_succ, i64_w, i32_w]
              rfl
            refine pure_ (i := 9) (N := some 44) (v := ?_) (a' := ?_) #[false, false, true, true, false, true, false, true, true, true, false, false, false, false, false, false, false, false] rfl rfl (any_of HT_.out (by kernel_rfl)) (fun _ _ _ h => h) (Or.inl ⟨by rfl, ?_⟩) ?_ ?_
            rotate_left
            · intro w'
              go_simp
              with_reducible rfl
            rotate_left
            · simp only [Act.put, List.setIfInBounds_toArray, List.set_cons_zero, List.set_cons_succ, i64_w, i32_w]
              rfl
            refine pure_ (i := 10) (N := some 45) (v := ?_) (a' := ?_) #[false, false, true, true, false, true, false, true, true, true, true, false, false, false, false, false, false, false] rfl rfl (any_of HT_.out (by kernel_rfl)) (fun _ _ _ h => h) (Or.inl ⟨by rfl, ?_⟩) ?_ ?_
            rotate_left
            · intro w'
              go_simp
              with_reducible rfl
            rotate_left
            · simp only [Act.put, List.setIfInBounds_toArray, List.set_cons_zero, List.set_cons_succ, i64_w, i32_w]
              rfl
            refine pure_ (i := 12) (N := some 47) (v := ?_) (a' := ?_) #[false, false, true, true, false, true, false, true, true, true, true, false, true, false, false, false, false, false] rfl rfl (any_of HT_.out (by kernel_rfl)) (fun _ _ _ h => h) (Or.inl ⟨by rfl, ?_⟩) ?_ ?_
            rotate_left
            · intro w'
              go_simp
              with_reducible rfl
            rotate_left
            · simp only [Act.put, List.setIfInBounds_toArray, List.set_cons_zero, List.set_cons_succ, i64_w, i32_w]
              rfl
            refine pure_ (i := 13) (N := some 48) (v := ?_) (a' := ?_) #[false, false, true, true, false, true, false, true, true, true, true, false, true, true, false, false, false, false] rfl rfl (any_of HT_.out (by kernel_rfl)) (fun _ _ _ h => h) (Or.inl ⟨by rfl, ?_⟩) ?_ ?_
            rotate_left
            · intro w'
              go_simp
              with_reducible rfl
            rotate_left
            · simp only [Act.put, List.setIfInBounds_toArray, List.set_cons_zero, List.set_cons_succ, i64_w, i32_w]
              rfl
            refine pure_ (i := 14) (N := some 49) (v := ?_) (a' := ?_) #[false, false, true, true, false, true, false, true, true, true, true, false, true, true, true, false, false, false] rfl rfl (any_of HT_.out (by kernel_rfl)) (fun _ _ _ h => h) (Or.inl ⟨by rfl, ?_⟩) ?_ ?_
            rotate_left
            · intro w'
              go_simp
              with_reducible rfl
            rotate_left
            · simp only [Act.put, List.setIfInBounds_toArray, List.set_cons_zero, List.set_cons_succ, i64_w, i32_w]
              rfl
            refine take_ (i := 0) (N := some 35) (v := ?_) (a' := ?_) #[true, false, true, true, false, true, false, true, true, true, true, false, true, true, true, false, false, false] rfl rfl (take_ofW HT_.out HW_.out (by kernel_rfl)) (fun _ _ _ h => h) (Or.inl ⟨by rfl, ?_⟩) hHeld ?_ ?_
            rotate_left
            · rintro w' ⟨s0, s1, s2, s3, s4, s5, s6, s7, s8⟩
              go_simp
              with_reducible rfl
            rotate_left
            · simp only [Act.put, List.setIfInBounds_toArray, List.set_cons_zero, List.set_cons_succ, i64_w, i32_w]
              rfl
            refine take_ (i := 1) (N := some 36) (v := ?_) (a' := ?_) #[true, true, true, true, false, true, false, true, true, true, true, false, true, true, true, false, false, false] rfl rfl (take_ofW HT_.out HW_.out (by kernel_rfl)) (fun _ _ _ h => h) (Or.inl ⟨by rfl, ?_⟩) hHeld ?_ ?_
            rotate_left
            · rintro w' ⟨s0, s1, s2, s3, s4, s5, s6, s7, s8⟩
              go_simp
              with_reducible rfl
            rotate_left
            · simp only [Act.put, List.setIfInBounds_toArray, List.set_cons_zero, List.set_cons_succ, i64_w, i32_w]
              rfl
            refine take_ (i := 4) (N := some 39) (v := ?_) (a' := ?_) #[true, true, true, true, true, true, false, true, true, true, true, false, true, true, true, false, false, false] rfl rfl (take_ofW HT_.out HW_.out (by kernel_rfl)) (fun _ _ _ h => h) (Or.inl ⟨by rfl, ?_⟩) hHeld ?_ ?_
            rotate_left
            · rintro w' ⟨s0, s1, s2, s3, s4, s5, s6, s7, s8⟩
              go_simp
              with_reducible rfl
            rotate_left
            · simp only [Act.put, List.setIfInBounds_toArray, List.set_cons_zero, List.set_cons_succ, i64_w, i32_w]
              rfl
            refine pure_ (i := 6) (N := some 41) (v := ?_) (a' := ?_) #[true, true, true, true, true, true, true, true, true, true, true, false, true, true, true, false, false, false] rfl rfl (any_of HT_.out (by kernel_rfl)) (fun _ _ _ h => h) (Or.inl ⟨by rfl, ?_⟩) ?_ ?_
            rotate_left
            · intro w'
              go_simp
              with_reducible rfl
            rotate_left
            · simp only [Act.put, List.setIfInBounds_toArray, List.set_cons_zero, List.set_cons_succ, i64_w, i32_w]
              rfl
            refine take_ (i := 15) (N := some 50) (v := ?_) (a' := ?_) #[true, true, true, true, true, true, true, true, true, true, true, false, true, true, true, true, false, false] rfl rfl (take_ofW HT_.out HW_.out (by kernel_rfl)) (fun _ _ _ h => h) (Or.inl ⟨by rfl, ?_⟩) hHeld ?_ ?_
            rotate_left
            · rintro w' ⟨s0, s1, s2, s3, s4, s5, s6, s7, s8⟩
              go_simp
              with_reducible rfl
            rotate_left
            · simp only [Act.put, List.setIfInBounds_toArray, List.set_cons_zero, List.set_cons_succ, i64_w, i32_w]
              rfl
            refine one_ (i := 11) (N := some 46) #[true, true, true, true, true, true, true, true, true, true, true, true, true, true, true, true, false, false] rfl rfl (one_of HT_.out (by kernel_rfl)) (by decide) (fun K hK => ?_)
            refine goes_ Try.func44 (by kernel_rfl) rfl #[.agg #[.int .i64 a0_0, .int .i64 a0_1, .int .i64 a0_2, .int .u64 a0_3, .int .u64 a0_4, .int .u64 a0_5], .int .u64 a1, .agg #[.int .u64 a2_0, .int .u64 (IntKind.u64.wrap (a2_0 + t346))], .slice A3 l3.length c3, .slice (some ad354) y347.length c4] (by rfl) rfl rfl (by (try simp only [List.map_toArray, List.map_cons, List.map_nil]); first | done | rfl | (simp only [List.length_drop, List.length_take]; rfl)) ?_
            with_reducible refine (ih k (by omega) a0_0 a0_1 a0_2 a0_3 a0_4 a0_5 a1 a2_0 (IntKind.u64.wrap (a2_0 + t346)) (fun k_ => (((P3_ k_ ∨ w.heap.size ≤ k_) ∧ k_ ≠ gb344) ∧ k_ ≠ gb345)) _ _ l3 _ _ y347 t351 _ ?side1 ?side2 ?side3 A16.out).mono ?_
            (case side1 => first | exact HO3.out | exact Kd.V_mono HO3.out (fun k_ h_ => by simp only [and_assoc] at h_ ⊢; exact h_))
            (case side2 => repeat (first | exact (Kd.C_below HR350.out HB.out) | (with_reducible refine Kd.C_alloc ?_ _) | (with_reducible refine Kd.C_drewN ?_ _) | (with_reducible refine Kd.C_drew ?_)))
            (case side3 => exact HC350.out)
            rintro e w26 ⟨v352, rfl, ho0, hb⟩
            refine ⟨_, rfl, ?_⟩
            have n0_ := Aside0.mk (Kd.V_below (by (with_reducible repeat (first | apply Kd.V_alloc | apply Kd.V_drewN | apply Kd.V_drew)); exact HO3.out) hb)
            have n1_ := Aside0.mk (Kd.V_lower (Kd.V_mono (ok' := fun k_ => (P3_ k_ ∨ w.heap.size ≤ k_) ∧ k_ ≠ gb344 ∧ k_ ≠ gb345) ho0 (fun k_ hk_ => ⟨Or.elim hk_ (fun hs_ => hs_.1.1) (fun hn_ => (.inr (Nat.le_trans (below_size (by repeat (first | (with_reducible first | exact HB.out | apply below_alloc | apply pw_below_drewN | apply below_drew1 | refine below_set ?_ GE344.out | refine below_set ?_ GE345.out) | exact HB.out))) hn_))), Or.elim hk_ (fun hs_ => hs_.1.2) (fun hn_ => (Kd.freshB (g := gb344) (o := .cells #[.int .i64 a0_0, .int .i64 a0_1, .int .i64 a0_2, .int .u64 a0_3, .int .u64 a0_4, .int .u64 a0_5] 29 (0, 0)) (by (with_reducible repeat (first | refine blk_drewN ?_ _ | refine blk_drew ?_ | refine blk_alloc ?_ _)); exact BK344.out) k_ hn_)), Or.elim hk_ (fun hs_ => hs_.2) (fun hn_ => (Kd.freshB (g := gb345) (o := .cells #[.int .u64 a2_0, .int .u64 a2_1] 48 (0, 0)) (by (with_reducible repeat (first | refine blk_drewN ?_ _ | refine blk_drew ?_ | refine blk_alloc ?_ _)); exact BK345.out) k_ hn_))⟩)) (below_size (by repeat (first | (with_reducible first | exact HB.out | apply below_alloc | apply pw_below_drewN | apply below_drew1 | refine below_set ?_ GE344.out | refine below_set ?_ GE345.out) | exact HB.out))))
            have n2_ := Aside0.mk (blk_below (g := gb344) (o := .cells #[.int .i64 a0_0, .int .i64 a0_1, .int .i64 a0_2, .int .u64 a0_3, .int .u64 a0_4, .int .u64 a0_5] 29 (0, 0)) (by (with_reducible repeat (first | refine blk_drewN ?_ _ | refine blk_drew ?_ | refine blk_alloc ?_ _)); exact BK344.out) hb)
            have n3_ := Aside0.mk (blk_below (g := gb345) (o := .cells #[.int .u64 a2_0, .int .u64 a2_1] 48 (0, 0)) (by (with_reducible repeat (first | refine blk_drewN ?_ _ | refine blk_drew ?_ | refine blk_alloc ?_ _)); exact BK345.out) hb)
            have n4_ := Aside0.mk (below_step (by repeat (first | (with_reducible first | exact HB.out | apply below_alloc | apply pw_below_drewN | apply below_drew1 | refine below_set ?_ GE344.out | refine below_set ?_ GE345.out) | exact HB.out)) hb)
            clear HO3
            clear BK344
            clear BK345
            clear HB
            have HO3 := n0_
            have HO353 := n1_
            have BK344 := n2_
            have BK345 := n3_
            have HB := n4_
            clear n0_ n1_ n2_ n3_ n4_
            (try clear hb)
            (try clear hb2)
            (try clear hk)
            (try clear hi)
            (try clear ho0)
            obtain ⟨Ao27, co27, eo27⟩ := Kd.V_slice HO353.out
            (first | subst eo27 | (injection eo27 with f1_ f2_ f3_; have f4_ := f1_.symm; have f5_ := f3_.symm; clear f1_ f2_ f3_; subst f4_; subst f5_))
            refine hK.out _ _ ⟨(blk_cell BK344.out 0).trans rfl, (blk_cell BK344.out 1).trans rfl, (blk_cell BK344.out 2).trans rfl, (blk_cell BK344.out 3).trans rfl, (blk_cell BK344.out 4).trans rfl, (blk_cell BK344.out 5).trans rfl, (blk_cell BK345.out 0).trans rfl, (blk_cell BK345.out 1).trans rfl, ((HB.out.cell (World.block_lt_of_cell? w _ hw354_0)).trans hw354_0)⟩ (fun hHeld => ?_)
            clear hK K
            refine norm_ (a' := ?_) ?_ ?_
            rotate_left
            · show Act.put _ (some 46) _ = _
              simp only [Act.put, List.setIfInBounds_toArray, List.set_cons_zero, List.set_cons_succ, i64_w, i32_w]
              rfl
            refine one_ (i := 16) (N := some 51) #[true, true, true, true, true, true, true, true, true, true, true, true, true, true, true, true, true, false] rfl rfl (one_of HT_.out (by kernel_rfl)) (by decide) (fun K hK => ?_)
            refine goes_ Try.func48 (by kernel_rfl) rfl #[.agg #[.int .i64 a0_0, .int .i64 a0_1, .int .i64 a0_2, .int .u64 a0_3, .int .u64 a0_4, .int .u64 a0_5], .slice Ao27 t351.length co27, .slice A354_0 (rd_L1 l4 (ji13)).length c354_0] (by rfl) rfl rfl (by (try simp only [List.map_toArray, List.map_cons, List.map_nil]); first | done | (simp only [hji13]; rfl) | rfl | (simp only [List.length_drop, List.length_take]; rfl)) ?_
            with_reducible refine (spec_HashChildren.calls k a0_0 a0_1 a0_2 a0_3 a0_4 a0_5 _ _ t351 _ _ (rd_L1 l4 (ji13)) t355 _ ?side1 ?side2 ?side3 ?side4 A18.out).mono ?_
            (case side1 => repeat (first | exact (Kd.V_reads' HO353.out).2.2 | (with_reducible refine Kd.C_alloc ?_ _) | (with_reducible refine Kd.C_drewN ?_ _) | (with_reducible refine Kd.C_drew ?_)))
            (case side2 => exact (Kd.V_reads' HO353.out).2.1)
            (case side3 => repeat (first | exact (Kd.C_below HR354_0.out HB.out) | (with_reducible refine Kd.C_alloc ?_ _) | (with_reducible refine Kd.C_drewN ?_ _) | (with_reducible refine Kd.C_drew ?_)))
            (case side4 => exact HC354_0.out)
            rintro e w28 ⟨v356, rfl, ho0, hb⟩
            refine ⟨_, rfl, ?_⟩
            have n0_ := Aside0.mk (Kd.V_elder' (by (with_reducible repeat (first | apply Kd.V_alloc | apply Kd.V_drewN | apply Kd.V_drew)); exact HO3.out) (Kd.R_base ho0) hb)
            have n1_ := Aside0.mk (Kd.V_elder' (by (with_reducible repeat (first | apply Kd.V_alloc | apply Kd.V_drewN | apply Kd.V_drew)); exact HO353.out) (Kd.R_base ho0) hb)
            have n2_ := Aside0.mk (Kd.R_lower (Kd.R_newM (M := fun k_ => (w.heap.size ≤ k_)) ho0 (below_size (by repeat (first | (with_reducible first | exact HB.out | apply below_alloc | apply pw_below_drewN | apply below_drew1 | refine below_set ?_ GE344.out | refine below_set ?_ GE345.out) | exact HB.out))) (fun k_ h_ => h_)) (below_size (by repeat (first | (with_reducible first | exact HB.out | apply below_alloc | apply pw_below_drewN | apply below_drew1 | refine below_set ?_ GE344.out | refine below_set ?_ GE345.out) | exact HB.out))))
            have n3_ := Aside0.mk (blk_below (g := gb344) (o := .cells #[.int .i64 a0_0, .int .i64 a0_1, .int .i64 a0_2, .int .u64 a0_3, .int .u64 a0_4, .int .u64 a0_5] 29 (0, 0)) (by (with_reducible repeat (first | refine blk_drewN ?_ _ | refine blk_drew ?_ | refine blk_alloc ?_ _)); exact BK344.out) hb)
            have n4_ := Aside0.mk (blk_below (g := gb345) (o := .cells #[.int .u64 a2_0, .int .u64 a2_1] 48 (0, 0)) (by (with_reducible repeat (first | refine blk_drewN ?_ _ | refine blk_drew ?_ | refine blk_alloc ?_ _)); exact BK345.out) hb)
            have n5_ := Aside0.mk (below_step (by repeat (first | (with_reducible first | exact HB.out | apply below_alloc | apply pw_below_drewN | apply below_drew1 | refine below_set ?_ GE344.out | refine below_set ?_ GE345.out) | exact HB.out)) hb)
            clear HO3
            clear HO353
            clear BK344
            clear BK345
            clear HB
            have HO3 := n0_
            have HO353 := n1_
            have HO357 := n2_
            have BK344 := n3_
            have BK345 := n4_
            have HB := n5_
            clear n0_ n1_ n2_ n3_ n4_ n5_
            (try clear hb)
            (try clear hb2)
            (try clear hk)
            (try clear hi)
            (try clear ho0)
            refine hK.out _ _ ⟨(blk_cell BK344.out 0).trans rfl, (blk_cell BK344.out 1).trans rfl, (blk_cell BK344.out 2).trans rfl, (blk_cell BK344.out 3).trans rfl, (blk_cell BK344.out 4).trans rfl, (blk_cell BK344.out 5).trans rfl, (blk_cell BK345.out 0).trans rfl, (blk_cell BK345.out 1).trans rfl, ((HB.out.cell (World.block_lt_of_cell? w _ hw354_0)).trans hw354_0)⟩ (fun hHeld => ?_)
            clear hK K
            refine norm_ (a' := ?_) ?_ ?_
            rotate_left
            · show Act.put _ (some 51) _ = _
              simp only [Act.put, List.setIfInBounds_toArray, List.set_cons_zero, List.set_cons_succ, i64_w, i32_w]
              rfl
            refine pure_ (i := 17) (N := some 10) (v := ?_) (a' := ?_) #[true, true, true, true, true, true, true, true, true, true, true, true, true, true, true, true, true, true] rfl rfl (any_of HT_.out (by kernel_rfl)) (fun _ _ _ h => h) (Or.inl ⟨by rfl, ?_⟩) ?_ ?_
            rotate_left
            · intro w'
              go_simp
              with_reducible rfl
            rotate_left
            · simp only [Act.put, List.setIfInBounds_toArray, List.set_cons_zero, List.set_cons_succ, i64_w, i32_w]
              rfl
            refine done_ (done_of HT_.out (by kernel_rfl)) ?_
            try go_wp2
            go_ret
            exact ⟨_, by first | rfl | (simp [errW_none, errW_some] <;> rfl) | (simp only [← hji13]; first | rfl | (simp [errW_none, errW_some] <;> rfl)) | (simp [*, errW_none, errW_some] <;> rfl), Kd.V_mono (Kd.R_V (by (with_reducible repeat (first | apply Kd.R_alloc | apply Kd.R_drewN | apply Kd.R_drew)); exact Kd.R_mono HO357.out (fun _ hk => hk.1))) (fun k_ hk => by first | exact ⟨(.inr (hk.1)), hk.2⟩ | exact (.inr (hk))), by repeat (first | (with_reducible first | exact HB.out | apply below_alloc | apply pw_below_drewN | apply below_drew1 | refine below_set ?_ GE344.out | refine below_set ?_ GE345.out) | exact HB.out)⟩
          · rw [if_neg c17] at H
            exact absurd H (by simp)
        · rw [if_neg c15] at H
          exact absurd H (by simp)
      · rw [if_neg c14] at H
        exact absurd H (by simp)
    · rw [if_neg c12] at H
      have c12b0 : decide (a1 < (IntKind.u64.wrap (a2_0 + t346))) = false := decide_eq_false c12
      clear c12
      obtain ⟨ji29, hji29⟩ : ∃ j_ : Int, (wrap64 ((l4.length : Int) - 1)) = j_ := ⟨_, rfl⟩
      replace H : (if 0 ≤ (ji29) then (if (ji29) < (l4.length : Int) then (if (ji29) ≤ (l4.length : Int) then ((spec_rootIn.f k a0_0 a0_1 a0_2 a0_3 a0_4 a0_5 a1 (IntKind.u64.wrap (a2_0 + t346)) a2_1 l3 (l4.take ((ji29) : Int).toNat)).bind fun t363 => ((spec_HashChildren.f k a0_0 a0_1 a0_2 a0_3 a0_4 a0_5 (rd_L1 l4 (ji29)) t363).bind fun t366 => (some t366))) else (none)) else (none)) else (none)) = some r := by first | (rw [hji29] at H; exact H) | (simp only [hji29] at H ⊢; exact H)
      (try rw [hji29] at A11)
      have hji29w : (IntKind.i64.wrap ((l4.length : Int) - 1)) = ji29 := (i64_w _).trans hji29
      by_cases c30 : 0 ≤ (ji29)
      · rw [if_pos c30] at H
        have c30b0 : decide (0 ≤ (ji29)) = true := decide_eq_true c30
        clear c30
        by_cases c31 : (ji29) < (l4.length : Int)
        · rw [if_pos c31] at H
          have c31b0 : decide ((ji29) < (l4.length : Int)) = true := decide_eq_true c31
          clear c31
          have c32b0 := eq_true (of_decide_eq_true (by first | (with_reducible assumption) | assumption) : 0 ≤ (ji29))
          by_cases c33 : (ji29) ≤ (l4.length : Int)
          · rw [if_pos c33] at H
            have c33b0 := eq_true c33
            have c33b1 : decide ((ji29) ≤ (l4.length : Int)) = true := decide_eq_true c33
            clear c33
            obtain ⟨y359, hy359⟩ : ∃ y_ : List (List Int), y_ = (l4.take ((ji29) : Int).toNat) := ⟨_, rfl⟩
            replace H : ((spec_rootIn.f k a0_0 a0_1 a0_2 a0_3 a0_4 a0_5 a1 (IntKind.u64.wrap (a2_0 + t346)) a2_1 l3 y359).bind fun t363 => ((spec_HashChildren.f k a0_0 a0_1 a0_2 a0_3 a0_4 a0_5 (rd_L1 l4 (ji29)) t363).bind fun t366 => (some t366))) = some r := by first | (rw [hy359]; with_reducible exact H) | (have H2_ := (Option.bind_some _ _).symm.trans H; rw [hy359]; with_reducible exact H2_) | (have H2_ := (Option.bind_some _ _).symm.trans H; with_reducible exact H2_) | with_reducible exact H | (rw [hy359]; exact H) | exact H
            have Ny359 := Aside0.mk hy359
            clear hy359
            replace H := Option.bind_eq_some_iff.mp H
            obtain ⟨t363, A340, H⟩ := H
            replace H : ((spec_HashChildren.f k a0_0 a0_1 a0_2 a0_3 a0_4 a0_5 (rd_L1 l4 (ji29)) t363).bind fun t366 => (some t366)) = some r := H
            have A34 := Aside0.mk A340
            clear A340
            replace H := Option.bind_eq_some_iff.mp H
            obtain ⟨t366, A350, H⟩ := H
            replace H : (some t366) = some r := H
            have A35 := Aside0.mk A350
            clear A350
            obtain rfl := Option.some.inj H
            go_enter Try.func44, Try.ntmps44
            try go_wp2_with (first | ((with_reducible refine gate_dst (N := 5) rfl ?_); refine box_event ?hg (N := 5) ?hd (cs := #[.int .i64 a0_0, .int .i64 a0_1, .int .i64 a0_2, .int .u64 a0_3, .int .u64 a0_4, .int .u64 a0_5]) (t := 29) ?hr ?_; (case hd => rfl); (case hg => rfl); (case hr => first | (go_simp; done) | (go_simp; rfl)); intro gb344 hg w36 hbox hb; have n0_ := Aside0.mk (Kd.V_below (Kd.V_elderB (by (with_reducible repeat (first | apply Kd.V_alloc | apply Kd.V_drewN | apply Kd.V_drew)); exact HO3.out) gb344 (Nat.le_of_eq hg.symm)) hb); have n1_ := Aside0.mk (below_step (by repeat (first | (with_reducible first | exact HB.out | apply below_alloc | apply pw_below_drewN | apply below_drew1) | exact HB.out)) hb); have n2_ := Aside0.mk (hbox); have n3_ := Aside0.mk ((by rw [hg]; exact (below_size (by repeat (first | (with_reducible first | exact HB.out | apply below_alloc | apply pw_below_drewN | apply below_drew1) | exact HB.out))) : w.heap.size ≤ gb344)); have n4_ := Aside0.mk ((by rw [hg]; exact (below_size (by repeat (first | (with_reducible first | exact HB.out | apply below_alloc | apply pw_below_drewN | apply below_drew1) | exact HB.out))) : w.heap.size ≤ gb344)); clear HO3; clear HB; have HO3 := n0_; have HB := n1_; have BK344 := n2_; have GW344 := n3_; have GE344 := n4_; clear n0_ n1_ n2_ n3_ n4_; clear hb hbox hg) | ((with_reducible refine gate_dst (N := 7) rfl ?_); refine box_event ?hg (N := 7) ?hd (cs := #[.int .u64 a2_0, .int .u64 a2_1]) (t := 48) ?hr ?_; (case hd => rfl); (case hg => rfl); (case hr => first | (go_simp; done) | (go_simp; rfl)); intro gb345 hg w37 hbox hb; have n0_ := Aside0.mk (Kd.V_below (Kd.V_elderB (by (with_reducible repeat (first | apply Kd.V_alloc | apply Kd.V_drewN | apply Kd.V_drew)); exact HO3.out) gb345 (Nat.le_of_eq hg.symm)) hb); have n1_ := Aside0.mk (blk_below (g := gb344) (o := .cells #[.int .i64 a0_0, .int .i64 a0_1, .int .i64 a0_2, .int .u64 a0_3, .int .u64 a0_4, .int .u64 a0_5] 29 (0, 0)) (by (with_reducible repeat (first | refine blk_drewN ?_ _ | refine blk_drew ?_ | refine blk_alloc ?_ _)); exact BK344.out) hb); have n2_ := Aside0.mk (below_step (by repeat (first | (with_reducible first | exact HB.out | apply below_alloc | apply pw_below_drewN | apply below_drew1 | refine below_set ?_ GE344.out) | exact HB.out)) hb); have n3_ := Aside0.mk (hbox); have n4_ := Aside0.mk ((by rw [hg]; exact (below_size (by repeat (first | (with_reducible first | exact HB.out | apply below_alloc | apply pw_below_drewN | apply below_drew1 | refine below_set ?_ GE344.out) | exact HB.out))) : w.heap.size ≤ gb345)); have n5_ := Aside0.mk ((by rw [hg]; exact (below_size (by repeat (first | (with_reducible first | exact HB.out | apply below_alloc | apply pw_below_drewN | apply below_drew1 | refine below_set ?_ GE344.out) | exact HB.out))) : w.heap.size ≤ gb345)); have n6_ := Aside0.mk ((by rw [hg]; exact Nat.ne_of_lt (blk_lt (g := gb344) (o := .cells #[.int .i64 a0_0, .int .i64 a0_1, .int .i64 a0_2, .int .u64 a0_3, .int .u64 a0_4, .int .u64 a0_5] 29 (0, 0)) (by (with_reducible repeat (first | refine blk_drewN ?_ _ | refine blk_drew ?_ | refine blk_alloc ?_ _)); exact BK344.out)) : gb344 ≠ gb345)); have n7_ := Aside0.mk ((by rw [hg]; exact Nat.ne_of_gt (blk_lt (g := gb344) (o := .cells #[.int .i64 a0_0, .int .i64 a0_1, .int .i64 a0_2, .int .u64 a0_3, .int .u64 a0_4, .int .u64 a0_5] 29 (0, 0)) (by (with_reducible repeat (first | refine blk_drewN ?_ _ | refine blk_drew ?_ | refine blk_alloc ?_ _)); exact BK344.out)) : gb345 ≠ gb344)); clear HO3; clear BK344; clear HB; have HO3 := n0_; have BK344 := n1_; have HB := n2_; have BK345 := n3_; have GW345 := n4_; have GE345 := n5_; have NB344_345 := n6_; have NB345_344 := n7_; clear n0_ n1_ n2_ n3_ n4_ n5_ n6_ n7_; clear hb hbox hg; have hnb38 := NB345_344.out; have hnc38 := NB344_345.out; have hcz39_0 : w37.cell? ⟨gb345, 0, none⟩ = some (.int .u64 a2_0) := (blk_cell BK345.out 0).trans rfl; have hcz39_1 : w37.cell? ⟨gb345, 1, none⟩ = some (.int .u64 a2_1) := (blk_cell BK345.out 1).trans rfl; have hfz39_0 := blk_frozen BK345.out 0; have hfz39_1 := blk_frozen BK345.out 1))
            have n0_ := Aside0.mk (Kd.V_drew HO3.out)
            have n1_ := Aside0.mk (blk_drew BK344.out)
            have n2_ := Aside0.mk (blk_drew BK345.out)
            have n3_ := Aside0.mk (below_drew1 HB.out)
            clear HO3
            clear BK344
            clear BK345
            clear HB
            have HO3 := n0_
            have BK344 := n1_
            have BK345 := n2_
            have HB := n3_
            clear n0_ n1_ n2_ n3_
            refine start_ (n := 14) (S := fun w' => w'.cell? ⟨gb345, 0, none⟩ = some (.int .u64 a2_0) ∧ w'.cell? ⟨gb345, 1, none⟩ = some (.int .u64 a2_1)) (ds := []) #[false, false, false, false, false, false, false, false, false, false, false, false, false, false] (by kernel_rfl) rfl rfl ⟨(blk_cell BK345.out 0).trans rfl, (blk_cell BK345.out 1).trans rfl⟩ (fun hHeld => ?_); refine with_tabW spec_rootIn.tab3 spec_rootIn.bits3 (fun HT_ HW_ => ?_)
            generalize w37.drew = w40 at HO3 BK344 BK345 HB hHeld ⊢
            refine pure_ (i := 0) (N := some 20) (v := ?_) (a' := ?_) #[true, false, false, false, false, false, false, false, false, false, false, false, false, false] rfl rfl (any_of HT_.out (by kernel_rfl)) (fun _ _ _ h => h) (Or.inl ⟨by rfl, ?_⟩) ?_ ?_
            rotate_left
            · intro w'
              go_simp
              with_reducible rfl
            rotate_left
            · simp only [Act.put, List.setIfInBounds_toArray, List.set_cons_zero, List.set_cons_succ, i64_w, i32_w]
              rfl
            refine pure_ (i := 2) (N := some 22) (v := ?_) (a' := ?_) #[true, false, true, false, false, false, false, false, false, false, false, false, false, false] rfl rfl (any_of HT_.out (by kernel_rfl)) (fun _ _ _ h => h) (Or.inl ⟨by rfl, ?_⟩) ?_ ?_
            rotate_left
            · intro w'
              go_simp
              with_reducible rfl
            rotate_left
            · simp only [Act.put, List.setIfInBounds_toArray, List.set_cons_zero, List.set_cons_succ, i64_w, i32_w]
              rfl
            refine pure_ (i := 4) (N := some 24) (v := ?_) (a' := ?_) #[true, false, true, false, true, false, false, false, false, false, false, false, false, false] rfl rfl (any_of HT_.out (by kernel_rfl)) (fun _ _ _ h => h) (Or.inl ⟨by rfl, ?_⟩) ?_ ?_
            rotate_left
            · intro w'
              go_simp
              with_reducible rfl
            rotate_left
            · simp only [Act.put, List.setIfInBounds_toArray, List.set_cons_zero, List.set_cons_succ, i64_w, i32_w]
              rfl
            refine pure_ (i := 9) (N := some 29) (v := ?_) (a' := ?_) #[true, false, true, false, true, false, false, false, false, true, false, false, false, false] rfl rfl (any_of HT_.out (by kernel_rfl)) (fun _ _ _ h => h) (Or.inl ⟨by rfl, ?_⟩) ?_ ?_
            rotate_left
            · intro w'
              go_simp
              with_reducible rfl
            rotate_left
            · simp only [Act.put, List.setIfInBounds_toArray, List.set_cons_zero, List.set_cons_succ, i64_w, i32_w]
              rfl
            refine pure_ (i := 10) (N := some 30) (v := ?_) (a' := ?_) #[true, false, true, false, true, false, false, false, false, true, true, false, false, false] rfl rfl (any_of HT_.out (by kernel_rfl)) (fun _ _ _ h => h) (Or.inl ⟨by rfl, ?_⟩) ?_ ?_
            rotate_left
            · intro w'
              go_simp
              with_reducible rfl
            rotate_left
            · simp only [Act.put, List.setIfInBounds_toArray, List.set_cons_zero, List.set_cons_succ, i64_w, i32_w]
              rfl
            refine pure_ (i := 11) (N := some 31) (v := ?_) (a' := ?_) #[true, false, true, false, true, false, false, false, false, true, true, true, false, false] rfl rfl (any_of HT_.out (by kernel_rfl)) (fun _ _ _ h => h) (Or.inl ⟨by rfl, ?_⟩) ?_ ?_
            rotate_left
            · intro w'
              go_simp
              with_reducible rfl
            rotate_left
            · simp only [Act.put, List.setIfInBounds_toArray, List.set_cons_zero, List.set_cons_succ, i64_w, i32_w]
              rfl
            refine take_ (i := 1) (N := some 21) (v := ?_) (a' := ?_) #[true, true, true, false, true, false, false, false, false, true, true, true, false, false] rfl rfl (take_ofW HT_.out HW_.out (by kernel_rfl)) (fun _ _ _ h => h) (Or.inl ⟨by rfl, ?_⟩) hHeld ?_ ?_
            rotate_left
            · rintro w' ⟨s0, s1⟩
              go_simp
              with_reducible rfl
            rotate_left
            · simp only [Act.put, List.setIfInBounds_toArray, List.set_cons_zero, List.set_cons_succ, i64_w, i32_w]
              rfl
            refine take_ (i := 3) (N := some 23) (v := ?_) (a' := ?_) #[true, true, true, true, true, false, false, false, false, true, true, true, false, false] rfl rfl (take_ofW HT_.out HW_.out (by kernel_rfl)) (fun _ _ _ h => h) (Or.inl ⟨by rfl, ?_⟩) hHeld ?_ ?_
            rotate_left
            · rintro w' ⟨s0, s1⟩
              go_simp
              with_reducible rfl
            rotate_left
            · simp only [Act.put, List.setIfInBounds_toArray, List.set_cons_zero, List.set_cons_succ, i64_w, i32_w]
              rfl
            refine take_ (i := 5) (N := some 25) (v := ?_) (a' := ?_) #[true, true, true, true, true, true, false, false, false, true, true, true, false, false] rfl rfl (take_ofW HT_.out HW_.out (by kernel_rfl)) (fun _ _ _ h => h) (Or.inl ⟨by rfl, ?_⟩) hHeld ?_ ?_
            rotate_left
            · rintro w' ⟨s0, s1⟩
              go_simp
              with_reducible rfl
            rotate_left
            · simp only [Act.put, List.setIfInBounds_toArray, List.set_cons_zero, List.set_cons_succ, i64_w, i32_w]
              rfl
            refine pure_ (i := 6) (N := some 26) (v := ?_) (a' := ?_) #[true, true, true, true, true, true, true, false, false, true, true, true, false, false] rfl rfl (any_of HT_.out (by kernel_rfl)) (fun _ _ _ h => h) (Or.inl ⟨by rfl, ?_⟩) ?_ ?_
            rotate_left
            · intro w'
              go_simp
              with_reducible rfl
            rotate_left
            · simp only [Act.put, List.setIfInBounds_toArray, List.set_cons_zero, List.set_cons_succ, i64_w, i32_w]
              rfl
            refine one_ (i := 7) (N := some 27) #[true, true, true, true, true, true, true, true, false, true, true, true, false, false] rfl rfl (one_of HT_.out (by kernel_rfl)) (by decide) (fun K hK => ?_)
            refine goes_ Try.func39 (by kernel_rfl) rfl #[.int .u64 (IntKind.u64.wrap (a2_1 - a2_0))] (by rfl) rfl rfl (by (try simp only [List.map_toArray, List.map_cons, List.map_nil]); first | done | rfl | (simp only [List.length_drop, List.length_take]; rfl)) ?_
            with_reducible refine (spec_split.calls k (IntKind.u64.wrap (a2_1 - a2_0)) t346 _ A11.out).mono ?_
            rintro e w' ⟨rfl, ⟨nd, rfl⟩⟩
            refine ⟨_, rfl, ?_⟩
            refine hK.out _ _ ⟨(blk_cell BK345.out 0).trans rfl, (blk_cell BK345.out 1).trans rfl⟩ (fun hHeld => ?_)
            clear hK K
            refine norm_ (a' := ?_) ?_ ?_
            rotate_left
            · show Act.put _ (some 27) _ = _
              simp only [Act.put, List.setIfInBounds_toArray, List.set_cons_zero, List.set_cons_succ, i64_w, i32_w]
              rfl
            refine pure_ (i := 8) (N := some 28) (v := ?_) (a' := ?_) #[true, true, true, true, true, true, true, true, true, true, true, true, false, false] rfl rfl (any_of HT_.out (by kernel_rfl)) (fun _ _ _ h => h) (Or.inl ⟨by rfl, ?_⟩) ?_ ?_
            rotate_left
            · intro w'
              go_simp
              with_reducible rfl
            rotate_left
            · simp only [Act.put, List.setIfInBounds_toArray, List.set_cons_zero, List.set_cons_succ, i64_w, i32_w]
              rfl
            refine pure_ (i := 12) (N := some 11) (v := ?_) (a' := ?_) #[true, true, true, true, true, true, true, true, true, true, true, true, true, false] rfl rfl (any_of HT_.out (by kernel_rfl)) (fun _ _ _ h => h) (Or.inl ⟨by rfl, ?_⟩) ?_ ?_
            rotate_left
            · intro w'
              go_simp
              with_reducible rfl
            rotate_left
            · simp only [Act.put, List.setIfInBounds_toArray, List.set_cons_zero, List.set_cons_succ, i64_w, i32_w]
              rfl
            refine pure_ (i := 13) (N := some 12) (v := ?_) (a' := ?_) #[true, true, true, true, true, true, true, true, true, true, true, true, true, true] rfl rfl (any_of HT_.out (by kernel_rfl)) (fun _ _ _ h => h) (Or.inl ⟨by rfl, ?_⟩) ?_ ?_
            rotate_left
            · intro w'
              go_simp
              with_reducible rfl
            rotate_left
            · simp only [Act.put, List.setIfInBounds_toArray, List.set_cons_zero, List.set_cons_succ, i64_w, i32_w]
              rfl
            refine done_ (done_of HT_.out (by kernel_rfl)) ?_
            try go_wp2
            (try (rw [drewN_self w40]; generalize hq_ : World.drewN w40 _ = w40; have n0_ : Aside0 (Kd.V (Kd.int .u8) 5 w40 w.heap.size (fun k_ => (P3_ k_ ∨ w.heap.size ≤ k_) ∧ k_ ≠ gb344 ∧ k_ ≠ gb345) (.slice A3 l3.length c3) l3) := ⟨by rw [← hq_]; exact (by (with_reducible repeat (first | apply Kd.V_alloc | apply Kd.V_drewN | apply Kd.V_drew)); exact Kd.V_mono HO3.out (fun _ hk => ⟨hk.1.1, ⟨hk.1.2, hk.2⟩⟩))⟩; have n1_ : Aside0 (w40.heap[gb344]? = some (.cells #[.int .i64 a0_0, .int .i64 a0_1, .int .i64 a0_2, .int .u64 a0_3, .int .u64 a0_4, .int .u64 a0_5] 29 (0, 0))) := ⟨by rw [← hq_]; exact (by (with_reducible repeat (first | refine blk_drewN ?_ _ | refine blk_drew ?_ | refine blk_alloc ?_ _)); exact BK344.out)⟩; have n2_ : Aside0 (w40.heap[gb345]? = some (.cells #[.int .u64 a2_0, .int .u64 a2_1] 48 (0, 0))) := ⟨by rw [← hq_]; exact (by (with_reducible repeat (first | refine blk_drewN ?_ _ | refine blk_drew ?_ | refine blk_alloc ?_ _)); exact BK345.out)⟩; have n3_ : Aside0 (Below w.heap.size w w40) := ⟨by rw [← hq_]; exact (by repeat (first | (with_reducible first | exact HB.out | apply below_alloc | apply pw_below_drewN | apply below_drew1 | refine below_set ?_ GE344.out | refine below_set ?_ GE345.out) | exact HB.out))⟩; clear HO3 BK344 BK345 HB hq_; have HO3 := n0_; have BK344 := n1_; have BK345 := n2_; have HB := n3_; clear n0_ n1_ n2_ n3_))
            have n0_ := Aside0.mk (Kd.V_drew HO3.out)
            have n1_ := Aside0.mk (blk_drew BK344.out)
            have n2_ := Aside0.mk (blk_drew BK345.out)
            have n3_ := Aside0.mk (below_drew1 HB.out)
            clear HO3
            clear BK344
            clear BK345
            clear HB
            have HO3 := n0_
            have BK344 := n1_
            have BK345 := n2_
            have HB := n3_
            clear n0_ n1_ n2_ n3_
            have p358 : 0 ≤ ((ji29) : Int) := of_decide_eq_true (by first | (with_reducible assumption) | assumption)
            have q358 : (ji29) < (l4.length : Int) := of_decide_eq_true (by first | (with_reducible assumption) | assumption)
            obtain ⟨ad358, A358_0, c358_0, e358, hx358_0, hl358_0, hi358_0⟩ := at_L1 HR4.out (ji29) p358 q358
            have hw358_0 := hx358_0
            cases e358
            replace hx358_0 := (HB.out.cell (World.block_lt_of_cell? w _ hx358_0)).trans hx358_0
            have HR358_0 := Aside0.mk hi358_0
            have HC358_0 := Aside0.mk hl358_0
            clear hi358_0 hl358_0
            replace p358 := eq_true p358
            replace q358 := eq_true q358
            have q42 : ((ji29) : Int) ≤ ((l4.length : Int) : Int) := of_decide_eq_true (by first | (with_reducible assumption) | assumption)
            obtain ⟨i042, hi042, _, hsz42, _⟩ := info_parts info30
            have hroom42 : l4.length ≤ c4 := HC4.out
            have hC42 : Kd.C (Kd.slice 5 (Kd.int .u8)) _ (some ad358) l4.length l4 := HR4.out
            have hcut42 := cut_to (P := Try.prog) 23 30 .i64 Try.underlying23 hi042 (some ad358) l4.length c4 (ji29) (of_decide_eq_true (by first | (with_reducible assumption) | assumption)) q42 hroom42
            have hr42 := Kd.C_take (m := ((ji29) : Int).toNat) hC42 (by omega)
            have hy42 : y359.length = ((ji29) : Int).toNat := (by rw [Ny359.out, List.length_take]; omega)
            rw [← Ny359.out] at hr42
            rw [← hy42] at hcut42
            have HR362 := Aside0.mk hr42
            have HC362 := Aside0.mk (show y359.length ≤ c4 from by omega)
            clear hr42 hC42 hroom42 hi042 hsz42
            have KY42 := Aside0.mk hy42
            clear hy42
            replace q42 := eq_true q42
            refine start_ (n := 18) (S := fun w' => w'.cell? ⟨gb344, 0, none⟩ = some (.int .i64 a0_0) ∧ w'.cell? ⟨gb344, 1, none⟩ = some (.int .i64 a0_1) ∧ w'.cell? ⟨gb344, 2, none⟩ = some (.int .i64 a0_2) ∧ w'.cell? ⟨gb344, 3, none⟩ = some (.int .u64 a0_3) ∧ w'.cell? ⟨gb344, 4, none⟩ = some (.int .u64 a0_4) ∧ w'.cell? ⟨gb344, 5, none⟩ = some (.int .u64 a0_5) ∧ w'.cell? ⟨gb345, 0, none⟩ = some (.int .u64 a2_0) ∧ w'.cell? ⟨gb345, 1, none⟩ = some (.int .u64 a2_1) ∧ w'.cell? (ad358.add ((ji29)).toNat) = some (.slice A358_0 (rd_L1 l4 (ji29)).length c358_0)) (ds := []) #[false, false, false, false, false, false, false, false, false, false, false, false, false, false, false, false, false, false] (by kernel_rfl) rfl rfl ⟨(blk_cell BK344.out 0).trans rfl, (blk_cell BK344.out 1).trans rfl, (blk_cell BK344.out 2).trans rfl, (blk_cell BK344.out 3).trans rfl, (blk_cell BK344.out 4).trans rfl, (blk_cell BK344.out 5).trans rfl, (blk_cell BK345.out 0).trans rfl, (blk_cell BK345.out 1).trans rfl, ((HB.out.cell (World.block_lt_of_cell? w _ hw358_0)).trans hw358_0)⟩ (fun hHeld => ?_); refine with_tabW spec_rootIn.tab6 spec_rootIn.bits6 (fun HT_ HW_ => ?_)
            generalize w40.drew = w41 at HO3 BK344 BK345 HB HR358_0 HR362 hx358_0 hHeld ⊢
            refine pure_ (i := 1) (N := some 53) (v := ?_) (a' := ?_) #[false, true, false, false, false, false, false, false, false, false, false, false, false, false, false, false, false, false] rfl rfl (any_of HT_.out (by kernel_rfl)) (fun _ _ _ h => h) (Or.inl ⟨by rfl, ?_⟩) ?_ ?_
            rotate_left
            · intro w'
              go_simp
              with_reducible rfl
            rotate_left
            · simp only [Act.put, List.setIfInBounds_toArray, List.set_cons_zero, List.set_cons_succ, i64_w, i32_w]
              rfl
            refine pure_ (i := 2) (N := some 54) (v := ?_) (a' := ?_) #[false, true, true, false, false, false, false, false, false, false, false, false, false, false, false, false, false, false] rfl rfl (any_of HT_.out (by kernel_rfl)) (fun _ _ _ h => h) (Or.inl ⟨by rfl, ?_⟩) ?_ ?_
            rotate_left
            · intro w'
              go_simp
              with_reducible rfl
            rotate_left
            · simp only [Act.put, List.setIfInBounds_toArray, List.set_cons_zero, List.set_cons_succ, i64_w, i32_w]
              rfl
            refine pure_ (i := 3) (N := some 55) (v := ?_) (a' := ?_) #[false, true, true, true, false, false, false, false, false, false, false, false, false, false, false, false, false, false] rfl rfl (any_of HT_.out (by kernel_rfl)) (fun _ _ _ h => h) (Or.inl ⟨by rfl, ?_⟩) ?_ ?_
            rotate_left
            · intro w'
              go_simp
              with_reducible rfl
            rotate_left
            · simp only [Act.put, List.setIfInBounds_toArray, List.set_cons_zero, List.set_cons_succ, i64_w, i32_w]
              rfl
            refine pure_ (i := 6) (N := some 58) (v := ?_) (a' := ?_) #[false, true, true, true, false, false, true, false, false, false, false, false, false, false, false, false, false, false] rfl rfl (any_of HT_.out (by kernel_rfl)) (fun _ _ _ h => h) (Or.inl ⟨by rfl, ?_⟩) ?_ ?_
            rotate_left
            · intro w'
              go_simp
              with_reducible rfl
            rotate_left
            · simp only [Act.put, List.setIfInBounds_toArray, List.set_cons_zero, List.set_cons_succ, i64_w, i32_w]
              rfl
            refine pure_ (i := 7) (N := some 59) (v := ?_) (a' := ?_) #[false, true, true, true, false, false, true, true, false, false, false, false, false, false, false, false, false, false] rfl rfl (any_of HT_.out (by kernel_rfl)) (fun _ _ _ h => h) (Or.inl ⟨by rfl, ?_⟩) ?_ ?_
            rotate_left
            · intro w'
              go_simp
              with_reducible rfl
            rotate_left
            · simp only [Act.put, List.setIfInBounds_toArray, List.set_cons_zero, List.set_cons_succ, i64_w, i32_w]
              rfl
            refine pure_ (i := 8) (N := some 60) (v := ?_) (a' := ?_) #[false, true, true, true, false, false, true, true, true, false, false, false, false, false, false, false, false, false] rfl rfl (any_of HT_.out (by kernel_rfl)) (fun _ _ _ h => h) (Or.inl ⟨by rfl, ?_⟩) ?_ ?_
            rotate_left
            · intro w'
              go_simp
              with_reducible rfl
            rotate_left
            · simp only [Act.put, List.setIfInBounds_toArray, List.set_cons_zero, List.set_cons_succ, i64_w, i32_w]
              rfl
            refine pure_ (i := 11) (N := some 63) (v := ?_) (a' := ?_) #[false, true, true, true, false, false, true, true, true, false, false, true, false, false, false, false, false, false] rfl rfl (any_of HT_.out (by kernel_rfl)) (fun _ _ _ h => h) (Or.inl ⟨by rfl, ?_⟩) ?_ ?_
            rotate_left
            · intro w'
              go_simp
              with_reducible rfl
            rotate_left
            · simp only [Act.put, List.setIfInBounds_toArray, List.set_cons_zero, List.set_cons_succ, i64_w, i32_w]
              rfl
            refine pure_ (i := 12) (N := some 64) (v := ?_) (a' := ?_) #[false, true, true, true, false, false, true, true, true, false, false, true, true, false, false, false, false, false] rfl rfl (any_of HT_.out (by kernel_rfl)) (fun _ _ _ h => h) (Or.inl ⟨by rfl, ?_⟩) ?_ ?_
            rotate_left
            · intro w'
              go_simp
              with_reducible rfl
            rotate_left
            · simp only [Act.put, List.setIfInBounds_toArray, List.set_cons_zero, List.set_cons_succ, i64_w, i32_w]
              rfl
            refine pure_ (i := 13) (N := some 65) (v := ?_) (a' := ?_) #[false, true, true, true, false, false, true, true, true, false, false, true, true, true, false, false, false, false] rfl rfl (any_of HT_.out (by kernel_rfl)) (fun _ _ _ h => h) (Or.inl ⟨by rfl, ?_⟩) ?_ ?_
            rotate_left
            · intro w'
              go_simp
              with_reducible rfl
            rotate_left
            · simp only [Act.put, List.setIfInBounds_toArray, List.set_cons_zero, List.set_cons_succ, i64_w, i32_w]
              rfl
            refine pure_ (i := 14) (N := some 66) (v := ?_) (a' := ?_) #[false, true, true, true, false, false, true, true, true, false, false, true, true, true, true, false, false, false] rfl rfl (any_of HT_.out (by kernel_rfl)) (fun _ _ _ h => h) (Or.inl ⟨by rfl, ?_⟩) ?_ ?_
            rotate_left
            · intro w'
              go_simp
              with_reducible rfl
            rotate_left
            · simp only [Act.put, List.setIfInBounds_toArray, List.set_cons_zero, List.set_cons_succ, i64_w, i32_w]
              rfl
            refine take_ (i := 0) (N := some 52) (v := ?_) (a' := ?_) #[true, true, true, true, false, false, true, true, true, false, false, true, true, true, true, false, false, false] rfl rfl (take_ofW HT_.out HW_.out (by kernel_rfl)) (fun _ _ _ h => h) (Or.inl ⟨by rfl, ?_⟩) hHeld ?_ ?_
            rotate_left
            · rintro w' ⟨s0, s1, s2, s3, s4, s5, s6, s7, s8⟩
              go_simp
              with_reducible rfl
            rotate_left
            · simp only [Act.put, List.setIfInBounds_toArray, List.set_cons_zero, List.set_cons_succ, i64_w, i32_w]
              rfl
            refine take_ (i := 4) (N := some 56) (v := ?_) (a' := ?_) #[true, true, true, true, true, false, true, true, true, false, false, true, true, true, true, false, false, false] rfl rfl (take_ofW HT_.out HW_.out (by kernel_rfl)) (fun _ _ _ h => h) (Or.inl ⟨by rfl, ?_⟩) hHeld ?_ ?_
            rotate_left
            · rintro w' ⟨s0, s1, s2, s3, s4, s5, s6, s7, s8⟩
              go_simp
              with_reducible rfl
            rotate_left
            · simp only [Act.put, List.setIfInBounds_toArray, List.set_cons_zero, List.set_cons_succ, i64_w, i32_w]
              rfl
            refine take_ (i := 5) (N := some 57) (v := ?_) (a' := ?_) #[true, true, true, true, true, true, true, true, true, false, false, true, true, true, true, false, false, false] rfl rfl (take_ofW HT_.out HW_.out (by kernel_rfl)) (fun _ _ _ h => h) (Or.inl ⟨by rfl, ?_⟩) hHeld ?_ ?_
            rotate_left
            · rintro w' ⟨s0, s1, s2, s3, s4, s5, s6, s7, s8⟩
              go_simp
              with_reducible rfl
            rotate_left
            · simp only [Act.put, List.setIfInBounds_toArray, List.set_cons_zero, List.set_cons_succ, i64_w, i32_w]
              rfl
            refine take_ (i := 9) (N := some 61) (v := ?_) (a' := ?_) #[true, true, true, true, true, true, true, true, true, true, false, true, true, true, true, false, false, false] rfl rfl (take_ofW HT_.out HW_.out (by kernel_rfl)) (fun _ _ _ h => h) (Or.inl ⟨by rfl, ?_⟩) hHeld ?_ ?_
            rotate_left
            · rintro w' ⟨s0, s1, s2, s3, s4, s5, s6, s7, s8⟩
              go_simp
              with_reducible rfl
            rotate_left
            · simp only [Act.put, List.setIfInBounds_toArray, List.set_cons_zero, List.set_cons_succ, i64_w, i32_w]
              rfl
            refine pure_ (i := 10) (N := some 62) (v := ?_) (a' := ?_) #[true, true, true, true, true, true, true, true, true, true, true, true, true, true, true, false, false, false] rfl rfl (any_of HT_.out (by kernel_rfl)) (fun _ _ _ h => h) (Or.inl ⟨by rfl, ?_⟩) ?_ ?_
            rotate_left
            · intro w'
              go_simp
              with_reducible rfl
            rotate_left
            · simp only [Act.put, List.setIfInBounds_toArray, List.set_cons_zero, List.set_cons_succ, i64_w, i32_w]
              rfl
            refine one_ (i := 15) (N := some 67) #[true, true, true, true, true, true, true, true, true, true, true, true, true, true, true, true, false, false] rfl rfl (one_of HT_.out (by kernel_rfl)) (by decide) (fun K hK => ?_)
            refine goes_ Try.func44 (by kernel_rfl) rfl #[.agg #[.int .i64 a0_0, .int .i64 a0_1, .int .i64 a0_2, .int .u64 a0_3, .int .u64 a0_4, .int .u64 a0_5], .int .u64 a1, .agg #[.int .u64 (IntKind.u64.wrap (a2_0 + t346)), .int .u64 a2_1], .slice A3 l3.length c3, .slice (some ad358) y359.length c4] (by rfl) rfl rfl (by (try simp only [List.map_toArray, List.map_cons, List.map_nil]); first | done | rfl | (simp only [List.length_drop, List.length_take]; rfl)) ?_
            with_reducible refine (ih k (by omega) a0_0 a0_1 a0_2 a0_3 a0_4 a0_5 a1 (IntKind.u64.wrap (a2_0 + t346)) a2_1 (fun k_ => (((P3_ k_ ∨ w.heap.size ≤ k_) ∧ k_ ≠ gb344) ∧ k_ ≠ gb345)) _ _ l3 _ _ y359 t363 _ ?side1 ?side2 ?side3 A34.out).mono ?_
            (case side1 => first | exact HO3.out | exact Kd.V_mono HO3.out (fun k_ h_ => by simp only [and_assoc] at h_ ⊢; exact h_))
            (case side2 => repeat (first | exact (Kd.C_below HR362.out HB.out) | (with_reducible refine Kd.C_alloc ?_ _) | (with_reducible refine Kd.C_drewN ?_ _) | (with_reducible refine Kd.C_drew ?_)))
            (case side3 => exact HC362.out)
            rintro e w43 ⟨v364, rfl, ho0, hb⟩
            refine ⟨_, rfl, ?_⟩
            have n0_ := Aside0.mk (Kd.V_below (by (with_reducible repeat (first | apply Kd.V_alloc | apply Kd.V_drewN | apply Kd.V_drew)); exact HO3.out) hb)
            have n1_ := Aside0.mk (Kd.V_lower (Kd.V_mono (ok' := fun k_ => (P3_ k_ ∨ w.heap.size ≤ k_) ∧ k_ ≠ gb344 ∧ k_ ≠ gb345) ho0 (fun k_ hk_ => ⟨Or.elim hk_ (fun hs_ => hs_.1.1) (fun hn_ => (.inr (Nat.le_trans (below_size (by repeat (first | (with_reducible first | exact HB.out | apply below_alloc | apply pw_below_drewN | apply below_drew1 | refine below_set ?_ GE344.out | refine below_set ?_ GE345.out) | exact HB.out))) hn_))), Or.elim hk_ (fun hs_ => hs_.1.2) (fun hn_ => (Kd.freshB (g := gb344) (o := .cells #[.int .i64 a0_0, .int .i64 a0_1, .int .i64 a0_2, .int .u64 a0_3, .int .u64 a0_4, .int .u64 a0_5] 29 (0, 0)) (by (with_reducible repeat (first | refine blk_drewN ?_ _ | refine blk_drew ?_ | refine blk_alloc ?_ _)); exact BK344.out) k_ hn_)), Or.elim hk_ (fun hs_ => hs_.2) (fun hn_ => (Kd.freshB (g := gb345) (o := .cells #[.int .u64 a2_0, .int .u64 a2_1] 48 (0, 0)) (by (with_reducible repeat (first | refine blk_drewN ?_ _ | refine blk_drew ?_ | refine blk_alloc ?_ _)); exact BK345.out) k_ hn_))⟩)) (below_size (by repeat (first | (with_reducible first | exact HB.out | apply below_alloc | apply pw_below_drewN | apply below_drew1 | refine below_set ?_ GE344.out | refine below_set ?_ GE345.out) | exact HB.out))))
            have n2_ := Aside0.mk (blk_below (g := gb344) (o := .cells #[.int .i64 a0_0, .int .i64 a0_1, .int .i64 a0_2, .int .u64 a0_3, .int .u64 a0_4, .int .u64 a0_5] 29 (0, 0)) (by (with_reducible repeat (first | refine blk_drewN ?_ _ | refine blk_drew ?_ | refine blk_alloc ?_ _)); exact BK344.out) hb)
            have n3_ := Aside0.mk (blk_below (g := gb345) (o := .cells #[.int .u64 a2_0, .int .u64 a2_1] 48 (0, 0)) (by (with_reducible repeat (first | refine blk_drewN ?_ _ | refine blk_drew ?_ | refine blk_alloc ?_ _)); exact BK345.out) hb)
            have n4_ := Aside0.mk (below_step (by repeat (first | (with_reducible first | exact HB.out | apply below_alloc | apply pw_below_drewN | apply below_drew1 | refine below_set ?_ GE344.out | refine below_set ?_ GE345.out) | exact HB.out)) hb)
            clear HO3
            clear BK344
            clear BK345
            clear HB
            have HO3 := n0_
            have HO365 := n1_
            have BK344 := n2_
            have BK345 := n3_
            have HB := n4_
            clear n0_ n1_ n2_ n3_ n4_
            (try clear hb)
            (try clear hb2)
            (try clear hk)
            (try clear hi)
            (try clear ho0)
            obtain ⟨Ao44, co44, eo44⟩ := Kd.V_slice HO365.out
            (first | subst eo44 | (injection eo44 with f1_ f2_ f3_; have f4_ := f1_.symm; have f5_ := f3_.symm; clear f1_ f2_ f3_; subst f4_; subst f5_))
            refine hK.out _ _ ⟨(blk_cell BK344.out 0).trans rfl, (blk_cell BK344.out 1).trans rfl, (blk_cell BK344.out 2).trans rfl, (blk_cell BK344.out 3).trans rfl, (blk_cell BK344.out 4).trans rfl, (blk_cell BK344.out 5).trans rfl, (blk_cell BK345.out 0).trans rfl, (blk_cell BK345.out 1).trans rfl, ((HB.out.cell (World.block_lt_of_cell? w _ hw358_0)).trans hw358_0)⟩ (fun hHeld => ?_)
            clear hK K
            refine norm_ (a' := ?_) ?_ ?_
            rotate_left
            · show Act.put _ (some 67) _ = _
              simp only [Act.put, List.setIfInBounds_toArray, List.set_cons_zero, List.set_cons_succ, i64_w, i32_w]
              rfl
            refine one_ (i := 16) (N := some 68) #[true, true, true, true, true, true, true, true, true, true, true, true, true, true, true, true, true, false] rfl rfl (one_of HT_.out (by kernel_rfl)) (by decide) (fun K hK => ?_)
            refine goes_ Try.func48 (by kernel_rfl) rfl #[.agg #[.int .i64 a0_0, .int .i64 a0_1, .int .i64 a0_2, .int .u64 a0_3, .int .u64 a0_4, .int .u64 a0_5], .slice A358_0 (rd_L1 l4 (ji29)).length c358_0, .slice Ao44 t363.length co44] (by rfl) rfl rfl (by (try simp only [List.map_toArray, List.map_cons, List.map_nil]); first | done | (simp only [hji29]; rfl) | rfl | (simp only [List.length_drop, List.length_take]; rfl)) ?_
            with_reducible refine (spec_HashChildren.calls k a0_0 a0_1 a0_2 a0_3 a0_4 a0_5 _ _ (rd_L1 l4 (ji29)) _ _ t363 t366 _ ?side1 ?side2 ?side3 ?side4 A35.out).mono ?_
            (case side1 => repeat (first | exact (Kd.C_below HR358_0.out HB.out) | (with_reducible refine Kd.C_alloc ?_ _) | (with_reducible refine Kd.C_drewN ?_ _) | (with_reducible refine Kd.C_drew ?_)))
            (case side2 => exact HC358_0.out)
            (case side3 => repeat (first | exact (Kd.V_reads' HO365.out).2.2 | (with_reducible refine Kd.C_alloc ?_ _) | (with_reducible refine Kd.C_drewN ?_ _) | (with_reducible refine Kd.C_drew ?_)))
            (case side4 => exact (Kd.V_reads' HO365.out).2.1)
            rintro e w45 ⟨v367, rfl, ho0, hb⟩
            refine ⟨_, rfl, ?_⟩
            have n0_ := Aside0.mk (Kd.V_elder' (by (with_reducible repeat (first | apply Kd.V_alloc | apply Kd.V_drewN | apply Kd.V_drew)); exact HO3.out) (Kd.R_base ho0) hb)
            have n1_ := Aside0.mk (Kd.V_elder' (by (with_reducible repeat (first | apply Kd.V_alloc | apply Kd.V_drewN | apply Kd.V_drew)); exact HO365.out) (Kd.R_base ho0) hb)
            have n2_ := Aside0.mk (Kd.R_lower (Kd.R_newM (M := fun k_ => (w.heap.size ≤ k_)) ho0 (below_size (by repeat (first | (with_reducible first | exact HB.out | apply below_alloc | apply pw_below_drewN | apply below_drew1 | refine below_set ?_ GE344.out | refine below_set ?_ GE345.out) | exact HB.out))) (fun k_ h_ => h_)) (below_size (by repeat (first | (with_reducible first | exact HB.out | apply below_alloc | apply pw_below_drewN | apply below_drew1 | refine below_set ?_ GE344.out | refine below_set ?_ GE345.out) | exact HB.out))))
            have n3_ := Aside0.mk (blk_below (g := gb344) (o := .cells #[.int .i64 a0_0, .int .i64 a0_1, .int .i64 a0_2, .int .u64 a0_3, .int .u64 a0_4, .int .u64 a0_5] 29 (0, 0)) (by (with_reducible repeat (first | refine blk_drewN ?_ _ | refine blk_drew ?_ | refine blk_alloc ?_ _)); exact BK344.out) hb)
            have n4_ := Aside0.mk (blk_below (g := gb345) (o := .cells #[.int .u64 a2_0, .int .u64 a2_1] 48 (0, 0)) (by (with_reducible repeat (first | refine blk_drewN ?_ _ | refine blk_drew ?_ | refine blk_alloc ?_ _)); exact BK345.out) hb)
            have n5_ := Aside0.mk (below_step (by repeat (first | (with_reducible first | exact HB.out | apply below_alloc | apply pw_below_drewN | apply below_drew1 | refine below_set ?_ GE344.out | refine below_set ?_ GE345.out) | exact HB.out)) hb)
            clear HO3
            clear HO365
            clear BK344
            clear BK345
            clear HB
            have HO3 := n0_
            have HO365 := n1_
            have HO368 := n2_
            have BK344 := n3_
            have BK345 := n4_
            have HB := n5_
            clear n0_ n1_ n2_ n3_ n4_ n5_
            (try clear hb)
            (try clear hb2)
            (try clear hk)
            (try clear hi)
            (try clear ho0)
            refine hK.out _ _ ⟨(blk_cell BK344.out 0).trans rfl, (blk_cell BK344.out 1).trans rfl, (blk_cell BK344.out 2).trans rfl, (blk_cell BK344.out 3).trans rfl, (blk_cell BK344.out 4).trans rfl, (blk_cell BK344.out 5).trans rfl, (blk_cell BK345.out 0).trans rfl, (blk_cell BK345.out 1).trans rfl, ((HB.out.cell (World.block_lt_of_cell? w _ hw358_0)).trans hw358_0)⟩ (fun hHeld => ?_)
            clear hK K
            refine norm_ (a' := ?_) ?_ ?_
            rotate_left
            · show Act.put _ (some 68) _ = _
              simp only [Act.put, List.setIfInBounds_toArray, List.set_cons_zero, List.set_cons_succ, i64_w, i32_w]
              rfl
            refine pure_ (i := 17) (N := some 10) (v := ?_) (a' := ?_) #[true, true, true, true, true, true, true, true, true, true, true, true, true, true, true, true, true, true] rfl rfl (any_of HT_.out (by kernel_rfl)) (fun _ _ _ h => h) (Or.inl ⟨by rfl, ?_⟩) ?_ ?_
            rotate_left
            · intro w'
              go_simp
              with_reducible rfl
            rotate_left
            · simp only [Act.put, List.setIfInBounds_toArray, List.set_cons_zero, List.set_cons_succ, i64_w, i32_w]
              rfl
            refine done_ (done_of HT_.out (by kernel_rfl)) ?_
            try go_wp2
            go_ret
            exact ⟨_, by first | rfl | (simp [errW_none, errW_some] <;> rfl) | (simp only [← hji29]; first | rfl | (simp [errW_none, errW_some] <;> rfl)) | (simp [*, errW_none, errW_some] <;> rfl), Kd.V_mono (Kd.R_V (by (with_reducible repeat (first | apply Kd.R_alloc | apply Kd.R_drewN | apply Kd.R_drew)); exact Kd.R_mono HO368.out (fun _ hk => hk.1))) (fun k_ hk => by first | exact ⟨(.inr (hk.1)), hk.2⟩ | exact (.inr (hk))), by repeat (first | (with_reducible first | exact HB.out | apply below_alloc | apply pw_below_drewN | apply below_drew1 | refine below_set ?_ GE344.out | refine below_set ?_ GE345.out) | exact HB.out)⟩
          · rw [if_neg c33] at H
            exact absurd H (by simp)
        · rw [if_neg c31] at H
          exact absurd H (by simp)
      · rw [if_neg c30] at H
        exact absurd H (by simp)

end Go.Proofs.Ytkmdkmlgahfcpaa.M

namespace Go.Proofs.Ytkmdkmlgahfcpaa.M
open Go.RowKit Go.Proofs.YtkmdkmlgahfcpaaW.PrintWords Go.Proofs.YtkmdkmlgahfcpaaW.PrintLast Go.Proofs.YtkmdkmlgahfcpaaW.PrintMore
attribute [local go_sem] max2_int min2_int max_two min_two max_three min_three max_four min_four   -- for this text's walks alone
set_option linter.unusedVariables false
set_option linter.unusedSimpArgs false

/-! ### spec_RootFromPath: function 33 -/
def spec_RootFromPath.f (k : Nat) (a0_0 : Int) (a0_1 : Int) (a0_2 : Int) (a0_3 : Int) (a0_4 : Int) (a0_5 : Int) (a1 : Int) (a2 : Int) (l3 : List Int) (l4 : List (List Int)) : Option (List Int) := (spec_rootIn.f k a0_0 a0_1 a0_2 a0_3 a0_4 a0_5 a1 0 a2 l3 l4).bind fun t370 => (some t370)
theorem spec_RootFromPath.mono : ∀ a0 a1 a2 a3 a4 a5 a6 a7 a8 a9 k, LeO (spec_RootFromPath.f k a0 a1 a2 a3 a4 a5 a6 a7 a8 a9) (spec_RootFromPath.f (k + 1) a0 a1 a2 a3 a4 a5 a6 a7 a8 a9) := by
  intro a0 a1 a2 a3 a4 a5 a6 a7 a8 a9 k
  unfold spec_RootFromPath.f
  repeat' first
      | (with_reducible exact spec_rootIn.mono _ _ _ _ _ _ _ _ _ _ _ _)
      | (with_reducible exact LeO.refl _)
      | (with_reducible exact LeO.none _)
      | (with_reducible refine LeO.ite ?_ ?_)
      | (with_reducible refine LeO.bind ?_ (fun _ => ?_))
      | exact spec_rootIn.mono _ _ _ _ _ _ _ _ _ _ _ _
      | exact LeO.none _
      | refine LeO.ite ?_ ?_
      | refine LeO.bind ?_ (fun _ => ?_)
set_option maxHeartbeats 8000000 in
set_option maxRecDepth 100000 in
theorem spec_RootFromPath.calls (k : Nat) (a0_0 : Int) (a0_1 : Int) (a0_2 : Int) (a0_3 : Int) (a0_4 : Int) (a0_5 : Int) (a1 : Int) (a2 : Int) (P3_ : Nat → Prop) (A3 : Option Addr) (c3 : Nat) (l3 : List Int) (A4 : Option Addr) (c4 : Nat) (l4 : List (List Int)) (r : List Int) (w : World) (hs3 : Kd.V (Kd.int .u8) 5 w w.heap.size (fun k_ => P3_ k_) (.slice A3 l3.length c3) l3) (hr4 : Kd.C (Kd.slice 5 (Kd.int .u8)) w A4 l4.length l4) (hc4 : l4.length ≤ c4) (h : spec_RootFromPath.f k a0_0 a0_1 a0_2 a0_3 a0_4 a0_5 a1 a2 l3 l4 = some r) :
    Calls Try.prog 33 #[.agg #[.int .i64 a0_0, .int .i64 a0_1, .int .i64 a0_2, .int .u64 a0_3, .int .u64 a0_4, .int .u64 a0_5], .int .u64 a1, .int .u64 a2, .slice A3 l3.length c3, .slice A4 l4.length c4] w fun e w' => ∃ v0_ : Value, e = .returned (v0_) ∧ Kd.V (Kd.int .u8) 5 w' w.heap.size (fun k_ => (P3_ k_ ∨ w.heap.size ≤ k_)) v0_ r ∧ Below w.heap.size w w' := by
  have hu29 := Try.underlying29
  have hu48 := Try.underlying48
  have HO3 := Aside0.mk (show Kd.V (Kd.int .u8) 5 w w.heap.size (fun k_ => (P3_ k_ ∨ w.heap.size ≤ k_)) (.slice A3 l3.length c3) l3 from Kd.V_mono hs3 (fun k_ hk => .inl hk))
  have HR4 := Aside0.mk hr4
  have HC4 := Aside0.mk hc4
  clear hr4 hc4
  have HB := Aside0.mk (Below.refl w.heap.size w)
  have H : ((spec_rootIn.f k a0_0 a0_1 a0_2 a0_3 a0_4 a0_5 a1 0 a2 l3 l4).bind fun t370 => (some t370)) = some r := h
  clear h
  replace H := Option.bind_eq_some_iff.mp H
  obtain ⟨t370, A60, H⟩ := H
  replace H : (some t370) = some r := H
  have A6 := Aside0.mk A60
  clear A60
  obtain rfl := Option.some.inj H
  go_enter Try.func33, Try.ntmps33
  go_wp2_with (first | ((with_reducible refine gate_dst (N := 5) rfl ?_); refine box_event ?hg (N := 5) ?hd (cs := #[.int .i64 a0_0, .int .i64 a0_1, .int .i64 a0_2, .int .u64 a0_3, .int .u64 a0_4, .int .u64 a0_5]) (t := 29) ?hr ?_; (case hd => rfl); (case hg => rfl); (case hr => first | (go_simp; done) | (go_simp; rfl)); intro gb369 hg w7 hbox hb; have n0_ := Aside0.mk (Kd.V_below (Kd.V_elderB (by (with_reducible repeat (first | apply Kd.V_alloc | apply Kd.V_drewN | apply Kd.V_drew)); exact HO3.out) gb369 (Nat.le_of_eq hg.symm)) hb); have n1_ := Aside0.mk (below_step (by repeat (first | (with_reducible first | exact HB.out | apply below_alloc | apply pw_below_drewN | apply below_drew1) | exact HB.out)) hb); have n2_ := Aside0.mk (hbox); have n3_ := Aside0.mk ((by rw [hg]; exact (below_size (by repeat (first | (with_reducible first | exact HB.out | apply below_alloc | apply pw_below_drewN | apply below_drew1) | exact HB.out))) : w.heap.size ≤ gb369)); have n4_ := Aside0.mk ((by rw [hg]; exact (below_size (by repeat (first | (with_reducible first | exact HB.out | apply below_alloc | apply pw_below_drewN | apply below_drew1) | exact HB.out))) : w.heap.size ≤ gb369)); clear HO3; clear HB; have HO3 := n0_; have HB := n1_; have BK369 := n2_; have GW369 := n3_; have GE369 := n4_; clear n0_ n1_ n2_ n3_ n4_; clear hb hbox hg; have hcz8_0 : w7.cell? ⟨gb369, 0, none⟩ = some (.int .i64 a0_0) := (blk_cell BK369.out 0).trans rfl; have hcz8_1 : w7.cell? ⟨gb369, 1, none⟩ = some (.int .i64 a0_1) := (blk_cell BK369.out 1).trans rfl; have hcz8_2 : w7.cell? ⟨gb369, 2, none⟩ = some (.int .i64 a0_2) := (blk_cell BK369.out 2).trans rfl; have hcz8_3 : w7.cell? ⟨gb369, 3, none⟩ = some (.int .u64 a0_3) := (blk_cell BK369.out 3).trans rfl; have hcz8_4 : w7.cell? ⟨gb369, 4, none⟩ = some (.int .u64 a0_4) := (blk_cell BK369.out 4).trans rfl; have hcz8_5 : w7.cell? ⟨gb369, 5, none⟩ = some (.int .u64 a0_5) := (blk_cell BK369.out 5).trans rfl; have hfz8_0 := blk_frozen BK369.out 0; have hfz8_1 := blk_frozen BK369.out 1; have hfz8_2 := blk_frozen BK369.out 2; have hfz8_3 := blk_frozen BK369.out 3; have hfz8_4 := blk_frozen BK369.out 4; have hfz8_5 := blk_frozen BK369.out 5) | ((with_reducible refine gate_callee (f := 44) rfl ?_); refine goesL_ (some 17) rfl rfl Try.func44 (by kernel_rfl) rfl #[.agg #[.int .i64 a0_0, .int .i64 a0_1, .int .i64 a0_2, .int .u64 a0_3, .int .u64 a0_4, .int .u64 a0_5], .int .u64 a1, .agg #[.int .u64 0, .int .u64 a2], .slice A3 l3.length c3, .slice A4 l4.length c4] rfl (by (try simp only [List.map_toArray, List.map_cons, List.map_nil]); first | done | rfl | (simp only [List.length_drop, List.length_take]; rfl)) ?_; (with_reducible refine (spec_rootIn.calls k a0_0 a0_1 a0_2 a0_3 a0_4 a0_5 a1 0 a2 (fun k_ => ((P3_ k_ ∨ w.heap.size ≤ k_) ∧ k_ ≠ gb369)) _ _ l3 _ _ l4 t370 _ ?side1 ?side2 ?side3 A6.out).mono ?_); (case side1 => first | exact HO3.out | exact Kd.V_mono HO3.out (fun k_ h_ => by simp only [and_assoc] at h_ ⊢; exact h_)); (case side2 => repeat (first | exact (Kd.C_below HR4.out HB.out) | (with_reducible refine Kd.C_alloc ?_ _) | (with_reducible refine Kd.C_drewN ?_ _) | (with_reducible refine Kd.C_drew ?_))); (case side3 => exact HC4.out); rintro e w9 ⟨v371, rfl, ho0, hb⟩; refine ⟨_, rfl, ?_⟩; have n0_ := Aside0.mk (Kd.V_below (by (with_reducible repeat (first | apply Kd.V_alloc | apply Kd.V_drewN | apply Kd.V_drew)); exact HO3.out) hb); have n1_ := Aside0.mk (Kd.V_lower (Kd.V_mono (ok' := fun k_ => (P3_ k_ ∨ w.heap.size ≤ k_) ∧ k_ ≠ gb369) ho0 (fun k_ hk_ => ⟨Or.elim hk_ (fun hs_ => hs_.1) (fun hn_ => (.inr (Nat.le_trans (below_size (by repeat (first | (with_reducible first | exact HB.out | apply below_alloc | apply pw_below_drewN | apply below_drew1 | refine below_set ?_ GE369.out) | exact HB.out))) hn_))), Or.elim hk_ (fun hs_ => hs_.2) (fun hn_ => (Kd.freshB (g := gb369) (o := .cells #[.int .i64 a0_0, .int .i64 a0_1, .int .i64 a0_2, .int .u64 a0_3, .int .u64 a0_4, .int .u64 a0_5] 29 (0, 0)) (by (with_reducible repeat (first | refine blk_drewN ?_ _ | refine blk_drew ?_ | refine blk_alloc ?_ _)); exact BK369.out) k_ hn_))⟩)) (below_size (by repeat (first | (with_reducible first | exact HB.out | apply below_alloc | apply pw_below_drewN | apply below_drew1 | refine below_set ?_ GE369.out) | exact HB.out)))); have n2_ := Aside0.mk (blk_below (g := gb369) (o := .cells #[.int .i64 a0_0, .int .i64 a0_1, .int .i64 a0_2, .int .u64 a0_3, .int .u64 a0_4, .int .u64 a0_5] 29 (0, 0)) (by (with_reducible repeat (first | refine blk_drewN ?_ _ | refine blk_drew ?_ | refine blk_alloc ?_ _)); exact BK369.out) hb); have n3_ := Aside0.mk (below_step (by repeat (first | (with_reducible first | exact HB.out | apply below_alloc | apply pw_below_drewN | apply below_drew1 | refine below_set ?_ GE369.out) | exact HB.out)) hb); clear HO3; clear BK369; clear HB; have HO3 := n0_; have HO372 := n1_; have BK369 := n2_; have HB := n3_; clear n0_ n1_ n2_ n3_; (try clear hb); (try clear hb2); (try clear hk); (try clear hi); (try clear ho0)))
  go_ret
  exact ⟨_, by first | rfl | (simp [errW_none, errW_some] <;> rfl) | (simp [*, errW_none, errW_some] <;> rfl), by (with_reducible repeat (first | apply Kd.V_alloc | apply Kd.V_drewN | apply Kd.V_drew)); exact Kd.V_mono HO372.out (fun _ hk => hk.1), by repeat (first | (with_reducible first | exact HB.out | apply below_alloc | apply pw_below_drewN | apply below_drew1 | refine below_set ?_ GE369.out) | exact HB.out)⟩

end Go.Proofs.Ytkmdkmlgahfcpaa.M

namespace Go.Proofs.Ytkmdkmlgahfcpaa.M
open Go.RowKit Go.Proofs.YtkmdkmlgahfcpaaW.PrintWords Go.Proofs.YtkmdkmlgahfcpaaW.PrintLast Go.Proofs.YtkmdkmlgahfcpaaW.PrintMore
attribute [local go_sem] max2_int min2_int max_two min_two max_three min_three max_four min_four   -- for this text's walks alone
set_option linter.unusedVariables false
set_option linter.unusedSimpArgs false

/-! ### spec_VerifiedInclusion: function 19 -/
def spec_VerifiedInclusion.j0 : Nat → Int → Int → List Int → List (List Int) → List Int → Bool → Int → Int → Int → Int → Int → Int → Option (Int × List Int)
  | 0, _, _, _, _, _, _, _, _, _, _, _, _ => none
  | k + 1, x1, x2, x3, x4, x5, x33, x374000, x374001, x374002, x374003, x374004, x374005 => if x33 = true then (some (2, ([] : List Int))) else ((spec_RootFromPath.f k x374000 x374001 x374002 x374003 x374004 x374005 x1 x2 x3 x4).bind fun t377 => ((spec_SameText.f t377 x5).bind fun t380 => (if t380 = true then (some (0, ([] : List Int))) else (some (1, t377)))))
def spec_VerifiedInclusion.f (k : Nat) (a0_0 : Int) (a0_1 : Int) (a0_2 : Int) (a0_3 : Int) (a0_4 : Int) (a0_5 : Int) (a1 : Int) (a2 : Int) (l3 : List Int) (l4 : List (List Int)) (l5 : List Int) : Option (Int × List Int) := if a1 ≥ a2 then (spec_VerifiedInclusion.j0 k a1 a2 l3 l4 l5 true a0_0 a0_1 a0_2 a0_3 a0_4 a0_5) else (if (l3.length : Int) = a0_1 then ((spec_PathParts.f k a1 a2).bind fun t374 => (spec_VerifiedInclusion.j0 k a1 a2 l3 l4 l5 ((l4.length : Int) != (t374.length : Int)) a0_0 a0_1 a0_2 a0_3 a0_4 a0_5)) else (spec_VerifiedInclusion.j0 k a1 a2 l3 l4 l5 true a0_0 a0_1 a0_2 a0_3 a0_4 a0_5))
theorem spec_VerifiedInclusion.mono_l : ∀ k, (∀ y0 y1 y2 y3 y4 y5 y6 y7 y8 y9 y10 y11, LeO (spec_VerifiedInclusion.j0 k y0 y1 y2 y3 y4 y5 y6 y7 y8 y9 y10 y11) (spec_VerifiedInclusion.j0 (k + 1) y0 y1 y2 y3 y4 y5 y6 y7 y8 y9 y10 y11))
  | 0 => fun _ _ _ _ _ _ _ _ _ _ _ _ r h => by simp [spec_VerifiedInclusion.j0] at h
  | k + 1 => by
    have ih0 := spec_VerifiedInclusion.mono_l k
    · intro y0 y1 y2 y3 y4 y5 y6 y7 y8 y9 y10 y11
      unfold spec_VerifiedInclusion.j0
      repeat' first
      | (with_reducible exact ih0 _ _ _ _ _ _ _ _ _ _ _ _)
      | (with_reducible exact spec_PathParts.mono _ _ _)
      | (with_reducible exact spec_RootFromPath.mono _ _ _ _ _ _ _ _ _ _ _)
      | (with_reducible exact LeO.refl _)
      | (with_reducible exact LeO.none _)
      | (with_reducible refine LeO.ite ?_ ?_)
      | (with_reducible refine LeO.bind ?_ (fun _ => ?_))
      | exact ih0 _ _ _ _ _ _ _ _ _ _ _ _
      | exact spec_PathParts.mono _ _ _
      | exact spec_RootFromPath.mono _ _ _ _ _ _ _ _ _ _ _
      | exact LeO.none _
      | refine LeO.ite ?_ ?_
      | refine LeO.bind ?_ (fun _ => ?_)
theorem spec_VerifiedInclusion.mono : ∀ a0 a1 a2 a3 a4 a5 a6 a7 a8 a9 a10 k, LeO (spec_VerifiedInclusion.f k a0 a1 a2 a3 a4 a5 a6 a7 a8 a9 a10) (spec_VerifiedInclusion.f (k + 1) a0 a1 a2 a3 a4 a5 a6 a7 a8 a9 a10) := by
  intro a0 a1 a2 a3 a4 a5 a6 a7 a8 a9 a10 k
  have ih0 := spec_VerifiedInclusion.mono_l k
  unfold spec_VerifiedInclusion.f
  repeat' first
      | (with_reducible exact ih0 _ _ _ _ _ _ _ _ _ _ _ _)
      | (with_reducible exact spec_PathParts.mono _ _ _)
      | (with_reducible exact spec_RootFromPath.mono _ _ _ _ _ _ _ _ _ _ _)
      | (with_reducible exact LeO.refl _)
      | (with_reducible exact LeO.none _)
      | (with_reducible refine LeO.ite ?_ ?_)
      | (with_reducible refine LeO.bind ?_ (fun _ => ?_))
      | exact ih0 _ _ _ _ _ _ _ _ _ _ _ _
      | exact spec_PathParts.mono _ _ _
      | exact spec_RootFromPath.mono _ _ _ _ _ _ _ _ _ _ _
      | exact LeO.none _
      | refine LeO.ite ?_ ?_
      | refine LeO.bind ?_ (fun _ => ?_)
set_option maxHeartbeats 8000000 in
set_option maxRecDepth 100000 in
theorem spec_VerifiedInclusion.calls (k : Nat) (a0_0 : Int) (a0_1 : Int) (a0_2 : Int) (a0_3 : Int) (a0_4 : Int) (a0_5 : Int) (a1 : Int) (a2 : Int) (P3_ : Nat → Prop) (A3 : Option Addr) (c3 : Nat) (l3 : List Int) (A4 : Option Addr) (c4 : Nat) (l4 : List (List Int)) (A5 : Option Addr) (c5 : Nat) (l5 : List Int) (r1 : Int) (r2 : List Int) (w : World) (hs3 : Kd.V (Kd.int .u8) 5 w w.heap.size (fun k_ => P3_ k_) (.slice A3 l3.length c3) l3) (hr4 : Kd.C (Kd.slice 5 (Kd.int .u8)) w A4 l4.length l4) (hc4 : l4.length ≤ c4) (hr5 : Kd.C (Kd.int .u8) w A5 l5.length l5) (hc5 : l5.length ≤ c5) (h : spec_VerifiedInclusion.f k a0_0 a0_1 a0_2 a0_3 a0_4 a0_5 a1 a2 l3 l4 l5 = some (r1, r2)) :
    Calls Try.prog 19 #[.agg #[.int .i64 a0_0, .int .i64 a0_1, .int .i64 a0_2, .int .u64 a0_3, .int .u64 a0_4, .int .u64 a0_5], .int .u64 a1, .int .u64 a2, .slice A3 l3.length c3, .slice A4 l4.length c4, .slice A5 l5.length c5] w fun e w' => ∃ v1_ : Value, e = .returned (.tuple #[.int .i64 r1, v1_]) ∧ Kd.V (Kd.int .u8) 5 w' w.heap.size (fun k_ => (P3_ k_ ∨ w.heap.size ≤ k_)) v1_ r2 ∧ Below w.heap.size w w' := by
  have hu29 := Try.underlying29
  have HO3 := Aside0.mk (show Kd.V (Kd.int .u8) 5 w w.heap.size (fun k_ => (P3_ k_ ∨ w.heap.size ≤ k_)) (.slice A3 l3.length c3) l3 from Kd.V_mono hs3 (fun k_ hk => .inl hk))
  have HR4 := Aside0.mk hr4
  have HC4 := Aside0.mk hc4
  clear hr4 hc4
  have HR5 := Aside0.mk hr5
  have HC5 := Aside0.mk hc5
  clear hr5 hc5
  have HB := Aside0.mk (Below.refl w.heap.size w)
  have H : (if a1 ≥ a2 then (spec_VerifiedInclusion.j0 k a1 a2 l3 l4 l5 true a0_0 a0_1 a0_2 a0_3 a0_4 a0_5) else (if (l3.length : Int) = a0_1 then ((spec_PathParts.f k a1 a2).bind fun t374 => (spec_VerifiedInclusion.j0 k a1 a2 l3 l4 l5 ((l4.length : Int) != (t374.length : Int)) a0_0 a0_1 a0_2 a0_3 a0_4 a0_5)) else (spec_VerifiedInclusion.j0 k a1 a2 l3 l4 l5 true a0_0 a0_1 a0_2 a0_3 a0_4 a0_5))) = some (r1, r2) := h
  clear h
  have HC7 := Aside0.mk H
  clear H
  go_enter Try.func19, Try.ntmps19
  go_upto_region 1 with (first | ((with_reducible refine gate_dst (N := 6) rfl ?_); (try (refine gate_guard (by rfl) ?_; dsimp only)); refine box_event ?hg (N := 6) ?hd (cs := #[.int .i64 a0_0, .int .i64 a0_1, .int .i64 a0_2, .int .u64 a0_3, .int .u64 a0_4, .int .u64 a0_5]) (t := 29) ?hr ?_; (case hd => rfl); (case hg => rfl); (case hr => first | (go_simp; done) | (go_simp; rfl)); intro gb373 hg w8 hbox hb; have n0_ := Aside0.mk (Kd.V_below (Kd.V_elderB (by (with_reducible repeat (first | apply Kd.V_alloc | apply Kd.V_drewN | apply Kd.V_drew)); exact HO3.out) gb373 (Nat.le_of_eq hg.symm)) hb); have n1_ := Aside0.mk (below_step (by repeat (first | (with_reducible first | exact HB.out | apply below_alloc | apply pw_below_drewN | apply below_drew1) | exact HB.out)) hb); have n2_ := Aside0.mk (hbox); have n3_ := Aside0.mk ((by rw [hg]; exact (below_size (by repeat (first | (with_reducible first | exact HB.out | apply below_alloc | apply pw_below_drewN | apply below_drew1) | exact HB.out))) : w.heap.size ≤ gb373)); have n4_ := Aside0.mk ((by rw [hg]; exact (below_size (by repeat (first | (with_reducible first | exact HB.out | apply below_alloc | apply pw_below_drewN | apply below_drew1) | exact HB.out))) : w.heap.size ≤ gb373)); clear HO3; clear HB; have HO3 := n0_; have HB := n1_; have BK373 := n2_; have GW373 := n3_; have GE373 := n4_; clear n0_ n1_ n2_ n3_ n4_; clear hb hbox hg))
  (try simp only [Act.put, List.setIfInBounds_toArray, List.set_cons_zero, List.set_cons_succ])
  go_cut [33] (fun v33 wc => ∃ (kq : Nat) (x33_6 : Bool), v33 = .bool x33_6 ∧ Aside0 (spec_VerifiedInclusion.j0 kq a1 a2 l3 l4 l5 x33_6 a0_0 a0_1 a0_2 a0_3 a0_4 a0_5 = some (r1, r2)) ∧ Aside0 (kq ≤ k) ∧ Aside0 (Kd.V (Kd.int .u8) 5 wc w.heap.size (fun k_ => (P3_ k_ ∨ w.heap.size ≤ k_) ∧ k_ ≠ gb373) (.slice A3 l3.length c3) l3) ∧ Aside0 (wc.heap[gb373]? = some (.cells #[.int .i64 a0_0, .int .i64 a0_1, .int .i64 a0_2, .int .u64 a0_3, .int .u64 a0_4, .int .u64 a0_5] 29 (0, 0))) ∧ Aside0 (Below w.heap.size w wc))
  case first =>
    have H := HC7.out
    clear HC7
    by_cases c9 : a1 ≥ a2
    · rw [if_pos c9] at H
      have c9b0 : decide (a2 ≤ a1) = true := decide_eq_true c9
      clear c9
      (first | rw [c9b0] | (simp only [i64_w, i32_w]; rw [c9b0]) | skip)
      have H' := Aside0.mk H
      clear H
      go_wp2
      go_meet
      case rel => exact ⟨_, (true), (by first | rfl | (simp; done) | (simp [*]; done)), H', ⟨by first | omega | exact Nat.le_refl _⟩, ⟨by (with_reducible repeat (first | apply Kd.V_alloc | apply Kd.V_drewN | apply Kd.V_drew)); exact HO3.out⟩, ⟨by (with_reducible repeat (first | refine blk_drewN ?_ _ | refine blk_drew ?_ | refine blk_alloc ?_ _)); exact BK373.out⟩, ⟨by repeat (first | (with_reducible first | exact HB.out | apply below_alloc | apply pw_below_drewN | apply below_drew1 | refine below_set ?_ GE373.out) | exact HB.out)⟩⟩
    · rw [if_neg c9] at H
      have c9b0 : decide (a2 ≤ a1) = false := decide_eq_false c9
      clear c9
      (first | rw [c9b0] | (simp only [i64_w, i32_w]; rw [c9b0]) | skip)
      by_cases c10 : (l3.length : Int) = a0_1
      · rw [if_pos c10] at H
        have c10b0 : ((l3.length : Int) == a0_1) = true := beq_iff_eq.mpr c10
        have c10b1 : ((l3.length : Int) != a0_1) = false := bne_eq_false_iff_eq.mpr c10
        clear c10
        replace H := Option.bind_eq_some_iff.mp H
        obtain ⟨t374, A110, H⟩ := H
        replace H : (spec_VerifiedInclusion.j0 k a1 a2 l3 l4 l5 ((l4.length : Int) != (t374.length : Int)) a0_0 a0_1 a0_2 a0_3 a0_4 a0_5) = some (r1, r2) := H
        have A11 := Aside0.mk A110
        clear A110
        have H' := Aside0.mk H
        clear H
        have hcz12_0 : w8.cell? ⟨gb373, 0, none⟩ = some (.int .i64 a0_0) := (blk_cell BK373.out 0).trans rfl
        have hcz12_1 : w8.cell? ⟨gb373, 1, none⟩ = some (.int .i64 a0_1) := (blk_cell BK373.out 1).trans rfl
        have hcz12_2 : w8.cell? ⟨gb373, 2, none⟩ = some (.int .i64 a0_2) := (blk_cell BK373.out 2).trans rfl
        have hcz12_3 : w8.cell? ⟨gb373, 3, none⟩ = some (.int .u64 a0_3) := (blk_cell BK373.out 3).trans rfl
        have hcz12_4 : w8.cell? ⟨gb373, 4, none⟩ = some (.int .u64 a0_4) := (blk_cell BK373.out 4).trans rfl
        have hcz12_5 : w8.cell? ⟨gb373, 5, none⟩ = some (.int .u64 a0_5) := (blk_cell BK373.out 5).trans rfl
        have hfz12_0 := blk_frozen BK373.out 0
        have hfz12_1 := blk_frozen BK373.out 1
        have hfz12_2 := blk_frozen BK373.out 2
        have hfz12_3 := blk_frozen BK373.out 3
        have hfz12_4 := blk_frozen BK373.out 4
        have hfz12_5 := blk_frozen BK373.out 5
        go_wp2_with (first | (go_at_call 12; (with_reducible refine (spec_PathParts.calls k a1 a2 t374 _ A11.out).mono ?_); rintro e w13 ⟨v375, rfl, ho0, hb⟩; have n0_ := Aside0.mk (Kd.V_elder' (by (with_reducible repeat (first | apply Kd.V_alloc | apply Kd.V_drewN | apply Kd.V_drew)); exact HO3.out) (Kd.R_base ho0) hb); have n1_ := Aside0.mk (Kd.R_lower (Kd.R_newM (M := fun k_ => (w.heap.size ≤ k_)) ho0 (below_size (by repeat (first | (with_reducible first | exact HB.out | apply below_alloc | apply pw_below_drewN | apply below_drew1 | refine below_set ?_ GE373.out) | exact HB.out))) (fun k_ h_ => h_)) (below_size (by repeat (first | (with_reducible first | exact HB.out | apply below_alloc | apply pw_below_drewN | apply below_drew1 | refine below_set ?_ GE373.out) | exact HB.out)))); have n2_ := Aside0.mk (blk_below (g := gb373) (o := .cells #[.int .i64 a0_0, .int .i64 a0_1, .int .i64 a0_2, .int .u64 a0_3, .int .u64 a0_4, .int .u64 a0_5] 29 (0, 0)) (by (with_reducible repeat (first | refine blk_drewN ?_ _ | refine blk_drew ?_ | refine blk_alloc ?_ _)); exact BK373.out) hb); have n3_ := Aside0.mk (below_step (by repeat (first | (with_reducible first | exact HB.out | apply below_alloc | apply pw_below_drewN | apply below_drew1 | refine below_set ?_ GE373.out) | exact HB.out)) hb); clear HO3; clear BK373; clear HB; have HO3 := n0_; have HO376 := n1_; have BK373 := n2_; have HB := n3_; clear n0_ n1_ n2_ n3_; (try clear hb); (try clear hb2); (try clear hk); (try clear hi); (try clear ho0); obtain ⟨Ao14, co14, eo14⟩ := Kd.R_slice HO376.out; subst eo14))
        go_meet
        case rel => exact ⟨_, (((l4.length : Int) != (t374.length : Int))), (by first | rfl | (simp; done) | (simp [*]; done)), H', ⟨by first | omega | exact Nat.le_refl _⟩, ⟨by (with_reducible repeat (first | apply Kd.V_alloc | apply Kd.V_drewN | apply Kd.V_drew)); exact Kd.V_mono HO3.out (fun _ hk => ⟨hk.1.1, hk.1.2⟩)⟩, ⟨by (with_reducible repeat (first | refine blk_drewN ?_ _ | refine blk_drew ?_ | refine blk_alloc ?_ _)); exact BK373.out⟩, ⟨by repeat (first | (with_reducible first | exact HB.out | apply below_alloc | apply pw_below_drewN | apply below_drew1 | refine below_set ?_ GE373.out) | exact HB.out)⟩⟩
      · rw [if_neg c10] at H
        have c10b0 : ((l3.length : Int) == a0_1) = false := beq_eq_false_iff_ne.mpr c10
        have c10b1 : ((l3.length : Int) != a0_1) = true := bne_iff_ne.mpr c10
        have H' := Aside0.mk H
        clear H
        have hcz15_0 : w8.cell? ⟨gb373, 0, none⟩ = some (.int .i64 a0_0) := (blk_cell BK373.out 0).trans rfl
        have hcz15_1 : w8.cell? ⟨gb373, 1, none⟩ = some (.int .i64 a0_1) := (blk_cell BK373.out 1).trans rfl
        have hcz15_2 : w8.cell? ⟨gb373, 2, none⟩ = some (.int .i64 a0_2) := (blk_cell BK373.out 2).trans rfl
        have hcz15_3 : w8.cell? ⟨gb373, 3, none⟩ = some (.int .u64 a0_3) := (blk_cell BK373.out 3).trans rfl
        have hcz15_4 : w8.cell? ⟨gb373, 4, none⟩ = some (.int .u64 a0_4) := (blk_cell BK373.out 4).trans rfl
        have hcz15_5 : w8.cell? ⟨gb373, 5, none⟩ = some (.int .u64 a0_5) := (blk_cell BK373.out 5).trans rfl
        have hfz15_0 := blk_frozen BK373.out 0
        have hfz15_1 := blk_frozen BK373.out 1
        have hfz15_2 := blk_frozen BK373.out 2
        have hfz15_3 := blk_frozen BK373.out 3
        have hfz15_4 := blk_frozen BK373.out 4
        have hfz15_5 := blk_frozen BK373.out 5
        go_wp2
        go_meet
        case rel => exact ⟨_, (true), (by first | rfl | (simp; done) | (simp [*]; done)), H', ⟨by first | omega | exact Nat.le_refl _⟩, ⟨by (with_reducible repeat (first | apply Kd.V_alloc | apply Kd.V_drewN | apply Kd.V_drew)); exact HO3.out⟩, ⟨by (with_reducible repeat (first | refine blk_drewN ?_ _ | refine blk_drew ?_ | refine blk_alloc ?_ _)); exact BK373.out⟩, ⟨by repeat (first | (with_reducible first | exact HB.out | apply below_alloc | apply pw_below_drewN | apply below_drew1 | refine below_set ?_ GE373.out) | exact HB.out)⟩⟩
  case rest =>
    clear HC7
    try clear c1
    try clear p2
    try clear c3
    try clear c4
    try clear c5
    try clear c9
    try clear c9b0
    try clear c10
    try clear c10b0
    try clear c10b1
    try clear hcz12_0
    try clear hcz12_1
    try clear hcz12_2
    try clear hcz12_3
    try clear hcz12_4
    try clear hcz12_5
    try clear hcz15_0
    try clear hcz15_1
    try clear hcz15_2
    try clear hcz15_3
    try clear hcz15_4
    try clear hcz15_5
    try clear hfz12_0
    try clear hfz12_1
    try clear hfz12_2
    try clear hfz12_3
    try clear hfz12_4
    try clear hfz12_5
    try clear hfz15_0
    try clear hfz15_1
    try clear hfz15_2
    try clear hfz15_3
    try clear hfz15_4
    try clear hfz15_5
    obtain ⟨kq, x33_6, rfl, HA, HJ6, HO_3, BK373, HB⟩ := hcut
    cases kq with
    | zero => exact absurd HA.out (by simp [spec_VerifiedInclusion.j0])
    | succ kj6 =>
      have H := HA.out
      clear HA
      simp only [spec_VerifiedInclusion.j0] at H
      by_cases c16 : x33_6 = true
      · subst c16
        have H1 : (some (2, ([] : List Int))) = some (r1, r2) := by rw [if_pos rfl] at H; exact H
        clear H
        have H := H1
        clear H1
        simp only [Option.some.injEq, Prod.mk.injEq] at H
        obtain ⟨rfl, rfl⟩ := H
        go_wp2
        go_ret2
        exact ⟨(.slice none 0 0), by first | rfl | (simp [errW_none, errW_some] <;> rfl) | (simp [*, errW_none, errW_some] <;> rfl), by first | exact Kd.V_nil _ _ _ _ _ | exact Kd.R_nil _ _ _ _ _ | exact Kd.S_nil _ _ _ _ _ | exact Kd.N_nil _ _ _ _ _ | exact Kd.Q_nil _ _ _ _ _, by repeat (first | (with_reducible first | exact HB.out | apply below_alloc | apply pw_below_drewN | apply below_drew1 | refine below_set ?_ GE373.out) | exact HB.out)⟩
      · replace c16 := Bool.eq_false_iff.mpr c16
        subst c16
        have H1 : ((spec_RootFromPath.f kj6 a0_0 a0_1 a0_2 a0_3 a0_4 a0_5 a1 a2 l3 l4).bind fun t377 => ((spec_SameText.f t377 l5).bind fun t380 => (if t380 = true then (some (0, ([] : List Int))) else (some (1, t377))))) = some (r1, r2) := by rw [if_neg (show ¬ (false = true) by decide)] at H; exact H
        clear H
        have H := H1
        clear H1
        replace H := Option.bind_eq_some_iff.mp H
        obtain ⟨t377, A170, H⟩ := H
        replace H : ((spec_SameText.f t377 l5).bind fun t380 => (if t380 = true then (some (0, ([] : List Int))) else (some (1, t377)))) = some (r1, r2) := H
        have A17 := Aside0.mk A170
        clear A170
        replace H := Option.bind_eq_some_iff.mp H
        obtain ⟨t380, A180, H⟩ := H
        replace H : (if t380 = true then (some (0, ([] : List Int))) else (some (1, t377))) = some (r1, r2) := H
        have A18 := Aside0.mk A180
        clear A180
        by_cases c19 : t380 = true
        · subst c19
          have H1 : (some (0, ([] : List Int))) = some (r1, r2) := by rw [if_pos rfl] at H; exact H
          clear H
          have H := H1
          clear H1
          simp only [Option.some.injEq, Prod.mk.injEq] at H
          obtain ⟨rfl, rfl⟩ := H
          have hcz20_0 : wc.cell? ⟨gb373, 0, none⟩ = some (.int .i64 a0_0) := (blk_cell BK373.out 0).trans rfl
          have hcz20_1 : wc.cell? ⟨gb373, 1, none⟩ = some (.int .i64 a0_1) := (blk_cell BK373.out 1).trans rfl
          have hcz20_2 : wc.cell? ⟨gb373, 2, none⟩ = some (.int .i64 a0_2) := (blk_cell BK373.out 2).trans rfl
          have hcz20_3 : wc.cell? ⟨gb373, 3, none⟩ = some (.int .u64 a0_3) := (blk_cell BK373.out 3).trans rfl
          have hcz20_4 : wc.cell? ⟨gb373, 4, none⟩ = some (.int .u64 a0_4) := (blk_cell BK373.out 4).trans rfl
          have hcz20_5 : wc.cell? ⟨gb373, 5, none⟩ = some (.int .u64 a0_5) := (blk_cell BK373.out 5).trans rfl
          have hfz20_0 := blk_frozen BK373.out 0
          have hfz20_1 := blk_frozen BK373.out 1
          have hfz20_2 := blk_frozen BK373.out 2
          have hfz20_3 := blk_frozen BK373.out 3
          have hfz20_4 := blk_frozen BK373.out 4
          have hfz20_5 := blk_frozen BK373.out 5
          go_wp2_with (first | ((with_reducible refine gate_callee (f := 33) rfl ?_); refine goesL_ (some 39) rfl rfl Try.func33 (by kernel_rfl) rfl #[.agg #[.int .i64 a0_0, .int .i64 a0_1, .int .i64 a0_2, .int .u64 a0_3, .int .u64 a0_4, .int .u64 a0_5], .int .u64 a1, .int .u64 a2, .slice A3 l3.length c3, .slice A4 l4.length c4] rfl (by (try simp only [List.map_toArray, List.map_cons, List.map_nil]); first | done | rfl | (simp only [List.length_drop, List.length_take]; rfl)) ?_; (with_reducible refine (spec_RootFromPath.calls kj6 a0_0 a0_1 a0_2 a0_3 a0_4 a0_5 a1 a2 (fun k_ => ((P3_ k_ ∨ w.heap.size ≤ k_) ∧ k_ ≠ gb373)) _ _ l3 _ _ l4 t377 _ ?side1 ?side2 ?side3 A17.out).mono ?_); (case side1 => first | exact HO_3.out | exact Kd.V_mono HO_3.out (fun k_ h_ => by simp only [and_assoc] at h_ ⊢; exact h_)); (case side2 => repeat (first | exact (Kd.C_below HR4.out HB.out) | (with_reducible refine Kd.C_alloc ?_ _) | (with_reducible refine Kd.C_drewN ?_ _) | (with_reducible refine Kd.C_drew ?_))); (case side3 => exact HC4.out); rintro e w21 ⟨v378, rfl, ho0, hb⟩; refine ⟨_, rfl, ?_⟩; have n0_ := Aside0.mk (Kd.V_below (by (with_reducible repeat (first | apply Kd.V_alloc | apply Kd.V_drewN | apply Kd.V_drew)); exact HO_3.out) hb); have n1_ := Aside0.mk (Kd.V_lower (Kd.V_mono (ok' := fun k_ => (P3_ k_ ∨ w.heap.size ≤ k_) ∧ k_ ≠ gb373) ho0 (fun k_ hk_ => ⟨Or.elim hk_ (fun hs_ => hs_.1) (fun hn_ => (.inr (Nat.le_trans (below_size (by repeat (first | (with_reducible first | exact HB.out | apply below_alloc | apply pw_below_drewN | apply below_drew1 | refine below_set ?_ GE373.out) | exact HB.out))) hn_))), Or.elim hk_ (fun hs_ => hs_.2) (fun hn_ => (Kd.freshB (g := gb373) (o := .cells #[.int .i64 a0_0, .int .i64 a0_1, .int .i64 a0_2, .int .u64 a0_3, .int .u64 a0_4, .int .u64 a0_5] 29 (0, 0)) (by (with_reducible repeat (first | refine blk_drewN ?_ _ | refine blk_drew ?_ | refine blk_alloc ?_ _)); exact BK373.out) k_ hn_))⟩)) (below_size (by repeat (first | (with_reducible first | exact HB.out | apply below_alloc | apply pw_below_drewN | apply below_drew1 | refine below_set ?_ GE373.out) | exact HB.out)))); have n2_ := Aside0.mk (blk_below (g := gb373) (o := .cells #[.int .i64 a0_0, .int .i64 a0_1, .int .i64 a0_2, .int .u64 a0_3, .int .u64 a0_4, .int .u64 a0_5] 29 (0, 0)) (by (with_reducible repeat (first | refine blk_drewN ?_ _ | refine blk_drew ?_ | refine blk_alloc ?_ _)); exact BK373.out) hb); have n3_ := Aside0.mk (below_step (by repeat (first | (with_reducible first | exact HB.out | apply below_alloc | apply pw_below_drewN | apply below_drew1 | refine below_set ?_ GE373.out) | exact HB.out)) hb); clear HO_3; clear BK373; clear HB; have HO_3 := n0_; have HO379 := n1_; have BK373 := n2_; have HB := n3_; clear n0_ n1_ n2_ n3_; (try clear hb); (try clear hb2); (try clear hk); (try clear hi); (try clear ho0); obtain ⟨Ao22, co22, eo22⟩ := Kd.V_slice HO379.out; subst eo22) | ((with_reducible refine gate_callee (f := 15) rfl ?_); refine goesL_ (some 42) rfl rfl Try.func15 (by kernel_rfl) rfl #[.slice Ao22 t377.length co22, .slice A5 l5.length c5] rfl (by (try simp only [List.map_toArray, List.map_cons, List.map_nil]); first | done | rfl | (simp only [List.length_drop, List.length_take]; rfl)) ?_; (with_reducible refine (spec_SameText.calls _ _ t377 _ _ l5 true _ ?side1 ?side2 ?side3 ?side4 A18.out).mono ?_); (case side1 => repeat (first | exact (Kd.V_reads' HO379.out).2.2 | (with_reducible refine Kd.C_alloc ?_ _) | (with_reducible refine Kd.C_drewN ?_ _) | (with_reducible refine Kd.C_drew ?_))); (case side2 => exact (Kd.V_reads' HO379.out).2.1); (case side3 => repeat (first | exact (Kd.C_below HR5.out HB.out) | (with_reducible refine Kd.C_alloc ?_ _) | (with_reducible refine Kd.C_drewN ?_ _) | (with_reducible refine Kd.C_drew ?_))); (case side4 => exact HC5.out); rintro e w' ⟨rfl, ⟨nd, rfl⟩⟩; refine ⟨_, rfl, ?_⟩))
          go_ret2
          exact ⟨(.slice none 0 0), by first | rfl | (simp [errW_none, errW_some] <;> rfl) | (simp [*, errW_none, errW_some] <;> rfl), by first | exact Kd.V_nil _ _ _ _ _ | exact Kd.R_nil _ _ _ _ _ | exact Kd.S_nil _ _ _ _ _ | exact Kd.N_nil _ _ _ _ _ | exact Kd.Q_nil _ _ _ _ _, by repeat (first | (with_reducible first | exact HB.out | apply below_alloc | apply pw_below_drewN | apply below_drew1 | refine below_set ?_ GE373.out) | exact HB.out)⟩
        · replace c19 := Bool.eq_false_iff.mpr c19
          subst c19
          have H1 : (some (1, t377)) = some (r1, r2) := by rw [if_neg (show ¬ (false = true) by decide)] at H; exact H
          clear H
          have H := H1
          clear H1
          simp only [Option.some.injEq, Prod.mk.injEq] at H
          obtain ⟨rfl, rfl⟩ := H
          have hcz23_0 : wc.cell? ⟨gb373, 0, none⟩ = some (.int .i64 a0_0) := (blk_cell BK373.out 0).trans rfl
          have hcz23_1 : wc.cell? ⟨gb373, 1, none⟩ = some (.int .i64 a0_1) := (blk_cell BK373.out 1).trans rfl
          have hcz23_2 : wc.cell? ⟨gb373, 2, none⟩ = some (.int .i64 a0_2) := (blk_cell BK373.out 2).trans rfl
          have hcz23_3 : wc.cell? ⟨gb373, 3, none⟩ = some (.int .u64 a0_3) := (blk_cell BK373.out 3).trans rfl
          have hcz23_4 : wc.cell? ⟨gb373, 4, none⟩ = some (.int .u64 a0_4) := (blk_cell BK373.out 4).trans rfl
          have hcz23_5 : wc.cell? ⟨gb373, 5, none⟩ = some (.int .u64 a0_5) := (blk_cell BK373.out 5).trans rfl
          have hfz23_0 := blk_frozen BK373.out 0
          have hfz23_1 := blk_frozen BK373.out 1
          have hfz23_2 := blk_frozen BK373.out 2
          have hfz23_3 := blk_frozen BK373.out 3
          have hfz23_4 := blk_frozen BK373.out 4
          have hfz23_5 := blk_frozen BK373.out 5
          go_wp2_with (first | ((with_reducible refine gate_callee (f := 33) rfl ?_); refine goesL_ (some 39) rfl rfl Try.func33 (by kernel_rfl) rfl #[.agg #[.int .i64 a0_0, .int .i64 a0_1, .int .i64 a0_2, .int .u64 a0_3, .int .u64 a0_4, .int .u64 a0_5], .int .u64 a1, .int .u64 a2, .slice A3 l3.length c3, .slice A4 l4.length c4] rfl (by (try simp only [List.map_toArray, List.map_cons, List.map_nil]); first | done | rfl | (simp only [List.length_drop, List.length_take]; rfl)) ?_; (with_reducible refine (spec_RootFromPath.calls kj6 a0_0 a0_1 a0_2 a0_3 a0_4 a0_5 a1 a2 (fun k_ => ((P3_ k_ ∨ w.heap.size ≤ k_) ∧ k_ ≠ gb373)) _ _ l3 _ _ l4 t377 _ ?side1 ?side2 ?side3 A17.out).mono ?_); (case side1 => first | exact HO_3.out | exact Kd.V_mono HO_3.out (fun k_ h_ => by simp only [and_assoc] at h_ ⊢; exact h_)); (case side2 => repeat (first | exact (Kd.C_below HR4.out HB.out) | (with_reducible refine Kd.C_alloc ?_ _) | (with_reducible refine Kd.C_drewN ?_ _) | (with_reducible refine Kd.C_drew ?_))); (case side3 => exact HC4.out); rintro e w24 ⟨v378, rfl, ho0, hb⟩; refine ⟨_, rfl, ?_⟩; have n0_ := Aside0.mk (Kd.V_below (by (with_reducible repeat (first | apply Kd.V_alloc | apply Kd.V_drewN | apply Kd.V_drew)); exact HO_3.out) hb); have n1_ := Aside0.mk (Kd.V_lower (Kd.V_mono (ok' := fun k_ => (P3_ k_ ∨ w.heap.size ≤ k_) ∧ k_ ≠ gb373) ho0 (fun k_ hk_ => ⟨Or.elim hk_ (fun hs_ => hs_.1) (fun hn_ => (.inr (Nat.le_trans (below_size (by repeat (first | (with_reducible first | exact HB.out | apply below_alloc | apply pw_below_drewN | apply below_drew1 | refine below_set ?_ GE373.out) | exact HB.out))) hn_))), Or.elim hk_ (fun hs_ => hs_.2) (fun hn_ => (Kd.freshB (g := gb373) (o := .cells #[.int .i64 a0_0, .int .i64 a0_1, .int .i64 a0_2, .int .u64 a0_3, .int .u64 a0_4, .int .u64 a0_5] 29 (0, 0)) (by (with_reducible repeat (first | refine blk_drewN ?_ _ | refine blk_drew ?_ | refine blk_alloc ?_ _)); exact BK373.out) k_ hn_))⟩)) (below_size (by repeat (first | (with_reducible first | exact HB.out | apply below_alloc | apply pw_below_drewN | apply below_drew1 | refine below_set ?_ GE373.out) | exact HB.out)))); have n2_ := Aside0.mk (blk_below (g := gb373) (o := .cells #[.int .i64 a0_0, .int .i64 a0_1, .int .i64 a0_2, .int .u64 a0_3, .int .u64 a0_4, .int .u64 a0_5] 29 (0, 0)) (by (with_reducible repeat (first | refine blk_drewN ?_ _ | refine blk_drew ?_ | refine blk_alloc ?_ _)); exact BK373.out) hb); have n3_ := Aside0.mk (below_step (by repeat (first | (with_reducible first | exact HB.out | apply below_alloc | apply pw_below_drewN | apply below_drew1 | refine below_set ?_ GE373.out) | exact HB.out)) hb); clear HO_3; clear BK373; clear HB; have HO_3 := n0_; have HO379 := n1_; have BK373 := n2_; have HB := n3_; clear n0_ n1_ n2_ n3_; (try clear hb); (try clear hb2); (try clear hk); (try clear hi); (try clear ho0); obtain ⟨Ao25, co25, eo25⟩ := Kd.V_slice HO379.out; subst eo25) | ((with_reducible refine gate_callee (f := 15) rfl ?_); refine goesL_ (some 42) rfl rfl Try.func15 (by kernel_rfl) rfl #[.slice Ao25 t377.length co25, .slice A5 l5.length c5] rfl (by (try simp only [List.map_toArray, List.map_cons, List.map_nil]); first | done | rfl | (simp only [List.length_drop, List.length_take]; rfl)) ?_; (with_reducible refine (spec_SameText.calls _ _ t377 _ _ l5 false _ ?side1 ?side2 ?side3 ?side4 A18.out).mono ?_); (case side1 => repeat (first | exact (Kd.V_reads' HO379.out).2.2 | (with_reducible refine Kd.C_alloc ?_ _) | (with_reducible refine Kd.C_drewN ?_ _) | (with_reducible refine Kd.C_drew ?_))); (case side2 => exact (Kd.V_reads' HO379.out).2.1); (case side3 => repeat (first | exact (Kd.C_below HR5.out HB.out) | (with_reducible refine Kd.C_alloc ?_ _) | (with_reducible refine Kd.C_drewN ?_ _) | (with_reducible refine Kd.C_drew ?_))); (case side4 => exact HC5.out); rintro e w' ⟨rfl, ⟨nd, rfl⟩⟩; refine ⟨_, rfl, ?_⟩))
          go_ret2
          exact ⟨_, by first | rfl | (simp [errW_none, errW_some] <;> rfl) | (simp [*, errW_none, errW_some] <;> rfl), by (with_reducible repeat (first | apply Kd.V_alloc | apply Kd.V_drewN | apply Kd.V_drew)); exact Kd.V_mono HO379.out (fun _ hk => hk.1), by repeat (first | (with_reducible first | exact HB.out | apply below_alloc | apply pw_below_drewN | apply below_drew1 | refine below_set ?_ GE373.out) | exact HB.out)⟩

end Go.Proofs.Ytkmdkmlgahfcpaa.M

namespace Go.Proofs.Ytkmdkmlgahfcpaa.M
open Go.RowKit Go.Proofs.YtkmdkmlgahfcpaaW.PrintWords Go.Proofs.YtkmdkmlgahfcpaaW.PrintLast Go.Proofs.YtkmdkmlgahfcpaaW.PrintMore
attribute [local go_sem] max2_int min2_int max_two min_two max_three min_three max_four min_four   -- for this text's walks alone
set_option linter.unusedVariables false
set_option linter.unusedSimpArgs false

/-! ### bytes_Equal: function 38 -/
def bytes_Equal.f (l0 : List Int) (l1 : List Int) : Option (Bool) := some ((strOfNums l0).toList == (strOfNums l1).toList)
set_option maxHeartbeats 8000000 in
set_option maxRecDepth 100000 in
theorem bytes_Equal.calls (A0 : Option Addr) (c0 : Nat) (l0 : List Int) (A1 : Option Addr) (c1 : Nat) (l1 : List Int) (r : Bool) (w : World) (hr0 : Kd.C (Kd.int .u8) w A0 l0.length l0) (hc0 : l0.length ≤ c0) (hr1 : Kd.C (Kd.int .u8) w A1 l1.length l1) (hc1 : l1.length ≤ c1) (h : bytes_Equal.f l0 l1 = some r) :
    Calls Try.prog 38 #[.slice A0 l0.length c0, .slice A1 l1.length c1] w fun e w' => e = .returned (.bool r) ∧ Drawn0 w w' := by
  have HR0 := Aside0.mk hr0
  have HC0 := Aside0.mk hc0
  clear hr0 hc0
  have HR1 := Aside0.mk hr1
  have HC1 := Aside0.mk hc1
  clear hr1 hc1
  have H : (some ((strOfNums l0).toList == (strOfNums l1).toList)) = some r := h
  clear h
  obtain rfl := Option.some.inj H
  have hcv3 := Kd.C_string (P := Try.prog) (A := A0) (c := c0) Try.underlying30 Try.underlying5 Try.underlying9 HR0.out
  have hcv3b := fun m_ : Nat => Kd.C_string (P := Try.prog) (A := A0) (c := c0) Try.underlying30 Try.underlying5 Try.underlying9 (Kd.C_drewN HR0.out m_)
  have hcv4 := Kd.C_string (P := Try.prog) (A := A1) (c := c1) Try.underlying30 Try.underlying5 Try.underlying9 HR1.out
  have hcv4b := fun m_ : Nat => Kd.C_string (P := Try.prog) (A := A1) (c := c1) Try.underlying30 Try.underlying5 Try.underlying9 (Kd.C_drewN HR1.out m_)
  go_enter Try.func38, Try.ntmps38
  go_wp2
  go_ret
  exact ⟨by first | rfl | (simp; done) | (simp [*]; done), by repeat (first | exact Drawn0.refl _ | apply Drawn0.step)⟩

end Go.Proofs.Ytkmdkmlgahfcpaa.M

