-- Written by a program of ours (wip/xp) out of the translation; Lean checks it.
import Derived.Test.YtkmdkmlgahfcpaaMm1
import Derived.Test.YtkmdkmlgahfcpaaMm2
namespace Go.Proofs.Ytkmdkmlgahfcpaa.M
open Go.RowKit Go.Proofs.YtkmdkmlgahfcpaaW.PrintWords Go.Proofs.YtkmdkmlgahfcpaaW.PrintLast Go.Proofs.YtkmdkmlgahfcpaaW.PrintMore
attribute [local go_sem] max2_int min2_int max_two min_two max_three min_three max_four min_four   -- for this text's walks alone
set_option linter.unusedVariables false
set_option linter.unusedSimpArgs false

/-! ### spec_rootIn: function 44 -/
def spec_rootIn.f : Nat → Int → Int → Int → Int → Int → Int → Int → Int → Int → List Int → List (List Int) → Option (List Int)
  | 0, _, _, _, _, _, _, _, _, _, _, _ => none
  | k + 1, a0_0, a0_1, a0_2, a0_3, a0_4, a0_5, a1, a2_0, a2_1, l3, l4 => if (IntKind.u64.wrap (a2_1 - a2_0)) = 1 then (some l3) else ((spec_split.f k (IntKind.u64.wrap (a2_1 - a2_0))).bind fun t274 => (if a1 < (IntKind.u64.wrap (a2_0 + t274)) then (if 0 ≤ (wrap64 ((l4.length : Int) - 1)) then (if (wrap64 ((l4.length : Int) - 1)) ≤ (l4.length : Int) then ((spec_rootIn.f k a0_0 a0_1 a0_2 a0_3 a0_4 a0_5 a1 a2_0 (IntKind.u64.wrap (a2_0 + t274)) l3 (l4.take ((wrap64 ((l4.length : Int) - 1)) : Int).toNat)).bind fun t279 => (if (wrap64 ((l4.length : Int) - 1)) < (l4.length : Int) then ((spec_HashChildren.f k a0_0 a0_1 a0_2 a0_3 a0_4 a0_5 t279 (rd_L1 l4 (wrap64 ((l4.length : Int) - 1)))).bind fun t283 => (some t283)) else (none))) else (none)) else (none)) else (if 0 ≤ (wrap64 ((l4.length : Int) - 1)) then (if (wrap64 ((l4.length : Int) - 1)) < (l4.length : Int) then (if (wrap64 ((l4.length : Int) - 1)) ≤ (l4.length : Int) then ((spec_rootIn.f k a0_0 a0_1 a0_2 a0_3 a0_4 a0_5 a1 (IntKind.u64.wrap (a2_0 + t274)) a2_1 l3 (l4.take ((wrap64 ((l4.length : Int) - 1)) : Int).toNat)).bind fun t291 => ((spec_HashChildren.f k a0_0 a0_1 a0_2 a0_3 a0_4 a0_5 (rd_L1 l4 (wrap64 ((l4.length : Int) - 1))) t291).bind fun t294 => (some t294))) else (none)) else (none)) else (none))))
theorem spec_rootIn.mono_l : ∀ k, (∀ y0 y1 y2 y3 y4 y5 y6 y7 y8 y9 y10, LeO (spec_rootIn.f k y0 y1 y2 y3 y4 y5 y6 y7 y8 y9 y10) (spec_rootIn.f (k + 1) y0 y1 y2 y3 y4 y5 y6 y7 y8 y9 y10))
  | 0 => fun _ _ _ _ _ _ _ _ _ _ _ r h => by simp [spec_rootIn.f] at h
  | k + 1 => by
    have ih0 := spec_rootIn.mono_l k
    · intro y0 y1 y2 y3 y4 y5 y6 y7 y8 y9 y10
      unfold spec_rootIn.f
      repeat' first
      | (with_reducible exact ih0 _ _ _ _ _ _ _ _ _ _ _)
      | (with_reducible exact spec_HashChildren.mono _ _ _ _ _ _ _ _ _)
      | (with_reducible exact spec_split.mono _ _)
      | (with_reducible exact LeO.refl _)
      | (with_reducible exact LeO.none _)
      | (with_reducible refine LeO.ite ?_ ?_)
      | (with_reducible refine LeO.bind ?_ (fun _ => ?_))
      | exact ih0 _ _ _ _ _ _ _ _ _ _ _
      | exact spec_HashChildren.mono _ _ _ _ _ _ _ _ _
      | exact spec_split.mono _ _
      | exact LeO.none _
      | refine LeO.ite ?_ ?_
      | refine LeO.bind ?_ (fun _ => ?_)
theorem spec_rootIn.mono : ∀ a0 a1 a2 a3 a4 a5 a6 a7 a8 a9 a10 k, LeO (spec_rootIn.f k a0 a1 a2 a3 a4 a5 a6 a7 a8 a9 a10) (spec_rootIn.f (k + 1) a0 a1 a2 a3 a4 a5 a6 a7 a8 a9 a10) := by
  intro a0 a1 a2 a3 a4 a5 a6 a7 a8 a9 a10 k
  have ih0 := spec_rootIn.mono_l k
  exact ih0 a0 a1 a2 a3 a4 a5 a6 a7 a8 a9 a10
def spec_rootIn.T3 : Bool × List (List Nat × List Nat) := (true, [([], []), ([0], [0]), ([], []), ([2], [2]), ([], []), ([4], [4]), ([3, 5], [3, 5]), ([6], [6]), ([1, 7], [1, 7]), ([], []), ([9], [9]), ([10], [10]), ([8, 7, 0, 1, 2, 3, 4, 5, 6, 7, 8], [8]), ([11, 12, 0, 1, 2, 3, 4, 5, 6, 7, 8, 9, 10, 11, 12], [11])])
def spec_rootIn.B3 : List Nat := [0, 1, 0, 4, 0, 16, 60, 124, 255, 0, 512, 1536, 511, 8191]
theorem spec_rootIn.tab3 : rtab .any (opsOf Try.f44 3) = spec_rootIn.T3 := by kernel_rfl
theorem spec_rootIn.bits3 : waitsOk spec_rootIn.T3.2 spec_rootIn.B3 = true := by kernel_rfl
def spec_rootIn.T5 : Bool × List (List Nat × List Nat) := (true, [([], []), ([], []), ([], []), ([], []), ([3], [3]), ([], []), ([4, 5], [4, 5]), ([], []), ([], []), ([], []), ([8, 9], [8, 9]), ([1, 2, 6, 7, 10], [1, 2, 6, 7, 10]), ([], []), ([], []), ([12, 13], [12, 13]), ([14], [14]), ([0, 11, 15, 11], [0, 11, 15]), ([16, 16, 0, 1, 2, 3, 4, 5, 6, 7, 8, 9, 10, 11, 12, 13, 14, 15, 16], [16])])
def spec_rootIn.B5 : List Nat := [0, 0, 0, 0, 8, 0, 56, 0, 0, 0, 768, 2046, 0, 0, 12288, 28672, 65535, 131071]
theorem spec_rootIn.tab5 : rtab .any (opsOf Try.f44 5) = spec_rootIn.T5 := by kernel_rfl
theorem spec_rootIn.bits5 : waitsOk spec_rootIn.T5.2 spec_rootIn.B5 = true := by kernel_rfl
def spec_rootIn.T6 : Bool × List (List Nat × List Nat) := (true, [([], []), ([], []), ([], []), ([1, 2], [1, 2]), ([3], [3]), ([], []), ([], []), ([], []), ([], []), ([8], [8]), ([7, 9], [7, 9]), ([], []), ([], []), ([], []), ([12, 13], [12, 13]), ([5, 6, 10, 11, 14], [5, 6, 10, 11, 14]), ([0, 4, 15, 15], [0, 4, 15]), ([16, 16, 0, 1, 2, 3, 4, 5, 6, 7, 8, 9, 10, 11, 12, 13, 14, 15, 16], [16])])
def spec_rootIn.B6 : List Nat := [0, 0, 0, 6, 14, 0, 0, 0, 0, 256, 896, 0, 0, 0, 12288, 32736, 65535, 131071]
theorem spec_rootIn.tab6 : rtab .any (opsOf Try.f44 6) = spec_rootIn.T6 := by kernel_rfl
theorem spec_rootIn.bits6 : waitsOk spec_rootIn.T6.2 spec_rootIn.B6 = true := by kernel_rfl
set_option maxHeartbeats 8000000 in
set_option maxRecDepth 100000 in
theorem spec_rootIn.calls (k : Nat) : ∀ (a0_0 : Int) (a0_1 : Int) (a0_2 : Int) (a0_3 : Int) (a0_4 : Int) (a0_5 : Int) (a1 : Int) (a2_0 : Int) (a2_1 : Int) (P3_ : Nat → Prop) (A3 : Option Addr) (c3 : Nat) (l3 : List Int) (A4 : Option Addr) (c4 : Nat) (l4 : List (List Int)) (r : List Int) (w : World) (hs3 : Kd.V (Kd.int .u8) 5 w w.heap.size (fun k_ => P3_ k_) (.slice A3 l3.length c3) l3) (hr4 : Kd.C (Kd.slice 5 (Kd.int .u8)) w A4 l4.length l4) (hc4 : l4.length ≤ c4) (h : spec_rootIn.f k a0_0 a0_1 a0_2 a0_3 a0_4 a0_5 a1 a2_0 a2_1 l3 l4 = some r),
    Calls Try.prog 44 #[.agg #[.int .i64 a0_0, .int .i64 a0_1, .int .i64 a0_2, .int .u64 a0_3, .int .u64 a0_4, .int .u64 a0_5], .int .u64 a1, .agg #[.int .u64 a2_0, .int .u64 a2_1], .slice A3 l3.length c3, .slice A4 l4.length c4] w fun e w' => ∃ v0_ : Value, e = .returned (v0_) ∧ Kd.V (Kd.int .u8) 5 w' w.heap.size (fun k_ => (P3_ k_ ∨ w.heap.size ≤ k_)) v0_ r ∧ Below w.heap.size w w' := by
  induction k using Nat.strongRecOn with
  | _ k ih =>
  intro a0_0 a0_1 a0_2 a0_3 a0_4 a0_5 a1 a2_0 a2_1 P3_ A3 c3 l3 A4 c4 l4 r w hs3 hr4 hc4 h
  cases k with
  | zero => exact absurd h (by simp [spec_rootIn.f])
  | succ k =>
  simp only [spec_rootIn.f] at h
  have hu29 := Try.underlying29
  have hu48 := Try.underlying48
  have HO3 := Aside0.mk (show Kd.V (Kd.int .u8) 5 w w.heap.size (fun k_ => (P3_ k_ ∨ w.heap.size ≤ k_)) (.slice A3 l3.length c3) l3 from Kd.V_mono hs3 (fun k_ hk => .inl hk))
  have HR4 := Aside0.mk hr4
  have HC4 := Aside0.mk hc4
  clear hr4 hc4
  have HB := Aside0.mk (Below.refl w.heap.size w)
  have H : (if (IntKind.u64.wrap (a2_1 - a2_0)) = 1 then (some l3) else ((spec_split.f k (IntKind.u64.wrap (a2_1 - a2_0))).bind fun t274 => (if a1 < (IntKind.u64.wrap (a2_0 + t274)) then (if 0 ≤ (wrap64 ((l4.length : Int) - 1)) then (if (wrap64 ((l4.length : Int) - 1)) ≤ (l4.length : Int) then ((spec_rootIn.f k a0_0 a0_1 a0_2 a0_3 a0_4 a0_5 a1 a2_0 (IntKind.u64.wrap (a2_0 + t274)) l3 (l4.take ((wrap64 ((l4.length : Int) - 1)) : Int).toNat)).bind fun t279 => (if (wrap64 ((l4.length : Int) - 1)) < (l4.length : Int) then ((spec_HashChildren.f k a0_0 a0_1 a0_2 a0_3 a0_4 a0_5 t279 (rd_L1 l4 (wrap64 ((l4.length : Int) - 1)))).bind fun t283 => (some t283)) else (none))) else (none)) else (none)) else (if 0 ≤ (wrap64 ((l4.length : Int) - 1)) then (if (wrap64 ((l4.length : Int) - 1)) < (l4.length : Int) then (if (wrap64 ((l4.length : Int) - 1)) ≤ (l4.length : Int) then ((spec_rootIn.f k a0_0 a0_1 a0_2 a0_3 a0_4 a0_5 a1 (IntKind.u64.wrap (a2_0 + t274)) a2_1 l3 (l4.take ((wrap64 ((l4.length : Int) - 1)) : Int).toNat)).bind fun t291 => ((spec_HashChildren.f k a0_0 a0_1 a0_2 a0_3 a0_4 a0_5 (rd_L1 l4 (wrap64 ((l4.length : Int) - 1))) t291).bind fun t294 => (some t294))) else (none)) else (none)) else (none))))) = some r := h
  clear h
  by_cases c6 : (IntKind.u64.wrap (a2_1 - a2_0)) = 1
  · rw [if_pos c6] at H
    have c6b0 : ((IntKind.u64.wrap (a2_1 - a2_0)) == 1) = true := beq_iff_eq.mpr c6
    have c6b1 : ((IntKind.u64.wrap (a2_1 - a2_0)) != 1) = false := bne_eq_false_iff_eq.mpr c6
    clear c6
    obtain rfl := Option.some.inj H
    go_enter Try.func44, Try.ntmps44
    go_wp2_with (first | ((with_reducible refine gate_dst (N := 5) rfl ?_); refine box_event ?hg (N := 5) ?hd (cs := #[.int .i64 a0_0, .int .i64 a0_1, .int .i64 a0_2, .int .u64 a0_3, .int .u64 a0_4, .int .u64 a0_5]) (t := 29) ?hr ?_; (case hd => rfl); (case hg => rfl); (case hr => first | (go_simp; done) | (go_simp; rfl)); intro gb272 hg w7 hbox hb; have n0_ := Aside0.mk (Kd.V_below (Kd.V_elderB (by (with_reducible repeat (first | apply Kd.V_alloc | apply Kd.V_drewN | apply Kd.V_drew)); exact HO3.out) gb272 (Nat.le_of_eq hg.symm)) hb); have n1_ := Aside0.mk (below_step (by repeat (first | (with_reducible first | exact HB.out | apply below_alloc | apply pw_below_drewN | apply below_drew1) | exact HB.out)) hb); have n2_ := Aside0.mk (hbox); have n3_ := Aside0.mk ((by rw [hg]; exact (below_size (by repeat (first | (with_reducible first | exact HB.out | apply below_alloc | apply pw_below_drewN | apply below_drew1) | exact HB.out))) : w.heap.size ≤ gb272)); have n4_ := Aside0.mk ((by rw [hg]; exact (below_size (by repeat (first | (with_reducible first | exact HB.out | apply below_alloc | apply pw_below_drewN | apply below_drew1) | exact HB.out))) : w.heap.size ≤ gb272)); clear HO3; clear HB; have HO3 := n0_; have HB := n1_; have BK272 := n2_; have GW272 := n3_; have GE272 := n4_; clear n0_ n1_ n2_ n3_ n4_; clear hb hbox hg) | ((with_reducible refine gate_dst (N := 7) rfl ?_); refine box_event ?hg (N := 7) ?hd (cs := #[.int .u64 a2_0, .int .u64 a2_1]) (t := 48) ?hr ?_; (case hd => rfl); (case hg => rfl); (case hr => first | (go_simp; done) | (go_simp; rfl)); intro gb273 hg w8 hbox hb; have n0_ := Aside0.mk (Kd.V_below (Kd.V_elderB (by (with_reducible repeat (first | apply Kd.V_alloc | apply Kd.V_drewN | apply Kd.V_drew)); exact HO3.out) gb273 (Nat.le_of_eq hg.symm)) hb); have n1_ := Aside0.mk (blk_below (g := gb272) (o := .cells #[.int .i64 a0_0, .int .i64 a0_1, .int .i64 a0_2, .int .u64 a0_3, .int .u64 a0_4, .int .u64 a0_5] 29 (0, 0)) (by (with_reducible repeat (first | refine blk_drewN ?_ _ | refine blk_drew ?_ | refine blk_alloc ?_ _)); exact BK272.out) hb); have n2_ := Aside0.mk (below_step (by repeat (first | (with_reducible first | exact HB.out | apply below_alloc | apply pw_below_drewN | apply below_drew1 | refine below_set ?_ GE272.out) | exact HB.out)) hb); have n3_ := Aside0.mk (hbox); have n4_ := Aside0.mk ((by rw [hg]; exact (below_size (by repeat (first | (with_reducible first | exact HB.out | apply below_alloc | apply pw_below_drewN | apply below_drew1 | refine below_set ?_ GE272.out) | exact HB.out))) : w.heap.size ≤ gb273)); have n5_ := Aside0.mk ((by rw [hg]; exact (below_size (by repeat (first | (with_reducible first | exact HB.out | apply below_alloc | apply pw_below_drewN | apply below_drew1 | refine below_set ?_ GE272.out) | exact HB.out))) : w.heap.size ≤ gb273)); have n6_ := Aside0.mk ((by rw [hg]; exact Nat.ne_of_lt (blk_lt (g := gb272) (o := .cells #[.int .i64 a0_0, .int .i64 a0_1, .int .i64 a0_2, .int .u64 a0_3, .int .u64 a0_4, .int .u64 a0_5] 29 (0, 0)) (by (with_reducible repeat (first | refine blk_drewN ?_ _ | refine blk_drew ?_ | refine blk_alloc ?_ _)); exact BK272.out)) : gb272 ≠ gb273)); have n7_ := Aside0.mk ((by rw [hg]; exact Nat.ne_of_gt (blk_lt (g := gb272) (o := .cells #[.int .i64 a0_0, .int .i64 a0_1, .int .i64 a0_2, .int .u64 a0_3, .int .u64 a0_4, .int .u64 a0_5] 29 (0, 0)) (by (with_reducible repeat (first | refine blk_drewN ?_ _ | refine blk_drew ?_ | refine blk_alloc ?_ _)); exact BK272.out)) : gb273 ≠ gb272)); clear HO3; clear BK272; clear HB; have HO3 := n0_; have BK272 := n1_; have HB := n2_; have BK273 := n3_; have GW273 := n4_; have GE273 := n5_; have NB272_273 := n6_; have NB273_272 := n7_; clear n0_ n1_ n2_ n3_ n4_ n5_ n6_ n7_; clear hb hbox hg; have hnb9 := NB273_272.out; have hnc9 := NB272_273.out; have hcz10_0 : w8.cell? ⟨gb273, 0, none⟩ = some (.int .u64 a2_0) := (blk_cell BK273.out 0).trans rfl; have hcz10_1 : w8.cell? ⟨gb273, 1, none⟩ = some (.int .u64 a2_1) := (blk_cell BK273.out 1).trans rfl; have hfz10_0 := blk_frozen BK273.out 0; have hfz10_1 := blk_frozen BK273.out 1))
    go_ret
    exact ⟨_, by first | rfl | (simp [errW_none, errW_some] <;> rfl) | (simp [*, errW_none, errW_some] <;> rfl), by (with_reducible repeat (first | apply Kd.V_alloc | apply Kd.V_drewN | apply Kd.V_drew)); exact Kd.V_mono HO3.out (fun _ hk => hk.1.1), by repeat (first | (with_reducible first | exact HB.out | apply below_alloc | apply pw_below_drewN | apply below_drew1 | refine below_set ?_ GE272.out | refine below_set ?_ GE273.out) | exact HB.out)⟩
  · rw [if_neg c6] at H
    have c6b0 : ((IntKind.u64.wrap (a2_1 - a2_0)) == 1) = false := beq_eq_false_iff_ne.mpr c6
    have c6b1 : ((IntKind.u64.wrap (a2_1 - a2_0)) != 1) = true := bne_iff_ne.mpr c6
    replace H := Option.bind_eq_some_iff.mp H
    obtain ⟨t274, A110, H⟩ := H
    replace H : (if a1 < (IntKind.u64.wrap (a2_0 + t274)) then (if 0 ≤ (wrap64 ((l4.length : Int) - 1)) then (if (wrap64 ((l4.length : Int) - 1)) ≤ (l4.length : Int) then ((spec_rootIn.f k a0_0 a0_1 a0_2 a0_3 a0_4 a0_5 a1 a2_0 (IntKind.u64.wrap (a2_0 + t274)) l3 (l4.take ((wrap64 ((l4.length : Int) - 1)) : Int).toNat)).bind fun t279 => (if (wrap64 ((l4.length : Int) - 1)) < (l4.length : Int) then ((spec_HashChildren.f k a0_0 a0_1 a0_2 a0_3 a0_4 a0_5 t279 (rd_L1 l4 (wrap64 ((l4.length : Int) - 1)))).bind fun t283 => (some t283)) else (none))) else (none)) else (none)) else (if 0 ≤ (wrap64 ((l4.length : Int) - 1)) then (if (wrap64 ((l4.length : Int) - 1)) < (l4.length : Int) then (if (wrap64 ((l4.length : Int) - 1)) ≤ (l4.length : Int) then ((spec_rootIn.f k a0_0 a0_1 a0_2 a0_3 a0_4 a0_5 a1 (IntKind.u64.wrap (a2_0 + t274)) a2_1 l3 (l4.take ((wrap64 ((l4.length : Int) - 1)) : Int).toNat)).bind fun t291 => ((spec_HashChildren.f k a0_0 a0_1 a0_2 a0_3 a0_4 a0_5 (rd_L1 l4 (wrap64 ((l4.length : Int) - 1))) t291).bind fun t294 => (some t294))) else (none)) else (none)) else (none))) = some r := H
    have A11 := Aside0.mk A110
    clear A110
    by_cases c12 : a1 < (IntKind.u64.wrap (a2_0 + t274))
    · rw [if_pos c12] at H
      have c12b0 : decide (a1 < (IntKind.u64.wrap (a2_0 + t274))) = true := decide_eq_true c12
      clear c12
      obtain ⟨ji13, hji13⟩ : ∃ j_ : Int, (wrap64 ((l4.length : Int) - 1)) = j_ := ⟨_, rfl⟩
      replace H : (if 0 ≤ (ji13) then (if (ji13) ≤ (l4.length : Int) then ((spec_rootIn.f k a0_0 a0_1 a0_2 a0_3 a0_4 a0_5 a1 a2_0 (IntKind.u64.wrap (a2_0 + t274)) l3 (l4.take ((ji13) : Int).toNat)).bind fun t279 => (if (ji13) < (l4.length : Int) then ((spec_HashChildren.f k a0_0 a0_1 a0_2 a0_3 a0_4 a0_5 t279 (rd_L1 l4 (ji13))).bind fun t283 => (some t283)) else (none))) else (none)) else (none)) = some r := by first | (rw [hji13] at H; exact H) | (simp only [hji13] at H ⊢; exact H)
      (try rw [hji13] at A11)
      have hji13w : (IntKind.i64.wrap ((l4.length : Int) - 1)) = ji13 := (i64_w _).trans hji13
      by_cases c14 : 0 ≤ (ji13)
      · rw [if_pos c14] at H
        have c14b0 := eq_true c14
        have c14b1 : decide (0 ≤ (ji13)) = true := decide_eq_true c14
        clear c14
        by_cases c15 : (ji13) ≤ (l4.length : Int)
        · rw [if_pos c15] at H
          have c15b0 := eq_true c15
          have c15b1 : decide ((ji13) ≤ (l4.length : Int)) = true := decide_eq_true c15
          clear c15
          obtain ⟨y275, hy275⟩ : ∃ y_ : List (List Int), y_ = (l4.take ((ji13) : Int).toNat) := ⟨_, rfl⟩
          replace H : ((spec_rootIn.f k a0_0 a0_1 a0_2 a0_3 a0_4 a0_5 a1 a2_0 (IntKind.u64.wrap (a2_0 + t274)) l3 y275).bind fun t279 => (if (ji13) < (l4.length : Int) then ((spec_HashChildren.f k a0_0 a0_1 a0_2 a0_3 a0_4 a0_5 t279 (rd_L1 l4 (ji13))).bind fun t283 => (some t283)) else (none))) = some r := by first | (rw [hy275]; with_reducible exact H) | (have H2_ := (Option.bind_some _ _).symm.trans H; rw [hy275]; with_reducible exact H2_) | (have H2_ := (Option.bind_some _ _).symm.trans H; with_reducible exact H2_) | with_reducible exact H | (rw [hy275]; exact H) | exact H
          have Ny275 := Aside0.mk hy275
          clear hy275
          replace H := Option.bind_eq_some_iff.mp H
          obtain ⟨t279, A160, H⟩ := H
          replace H : (if (ji13) < (l4.length : Int) then ((spec_HashChildren.f k a0_0 a0_1 a0_2 a0_3 a0_4 a0_5 t279 (rd_L1 l4 (ji13))).bind fun t283 => (some t283)) else (none)) = some r := H
          have A16 := Aside0.mk A160
          clear A160
          by_cases c17 : (ji13) < (l4.length : Int)
          · rw [if_pos c17] at H
            have c17b0 : decide ((ji13) < (l4.length : Int)) = true := decide_eq_true c17
            clear c17
            replace H := Option.bind_eq_some_iff.mp H
            obtain ⟨t283, A180, H⟩ := H
            replace H : (some t283) = some r := H
            have A18 := Aside0.mk A180
            clear A180
            obtain rfl := Option.some.inj H
            go_enter Try.func44, Try.ntmps44
            try go_wp2_with (first | ((with_reducible refine gate_dst (N := 5) rfl ?_); refine box_event ?hg (N := 5) ?hd (cs := #[.int .i64 a0_0, .int .i64 a0_1, .int .i64 a0_2, .int .u64 a0_3, .int .u64 a0_4, .int .u64 a0_5]) (t := 29) ?hr ?_; (case hd => rfl); (case hg => rfl); (case hr => first | (go_simp; done) | (go_simp; rfl)); intro gb272 hg w19 hbox hb; have n0_ := Aside0.mk (Kd.V_below (Kd.V_elderB (by (with_reducible repeat (first | apply Kd.V_alloc | apply Kd.V_drewN | apply Kd.V_drew)); exact HO3.out) gb272 (Nat.le_of_eq hg.symm)) hb); have n1_ := Aside0.mk (below_step (by repeat (first | (with_reducible first | exact HB.out | apply below_alloc | apply pw_below_drewN | apply below_drew1) | exact HB.out)) hb); have n2_ := Aside0.mk (hbox); have n3_ := Aside0.mk ((by rw [hg]; exact (below_size (by repeat (first | (with_reducible first | exact HB.out | apply below_alloc | apply pw_below_drewN | apply below_drew1) | exact HB.out))) : w.heap.size ≤ gb272)); have n4_ := Aside0.mk ((by rw [hg]; exact (below_size (by repeat (first | (with_reducible first | exact HB.out | apply below_alloc | apply pw_below_drewN | apply below_drew1) | exact HB.out))) : w.heap.size ≤ gb272)); clear HO3; clear HB; have HO3 := n0_; have HB := n1_; have BK272 := n2_; have GW272 := n3_; have GE272 := n4_; clear n0_ n1_ n2_ n3_ n4_; clear hb hbox hg) | ((with_reducible refine gate_dst (N := 7) rfl ?_); refine box_event ?hg (N := 7) ?hd (cs := #[.int .u64 a2_0, .int .u64 a2_1]) (t := 48) ?hr ?_; (case hd => rfl); (case hg => rfl); (case hr => first | (go_simp; done) | (go_simp; rfl)); intro gb273 hg w20 hbox hb; have n0_ := Aside0.mk (Kd.V_below (Kd.V_elderB (by (with_reducible repeat (first | apply Kd.V_alloc | apply Kd.V_drewN | apply Kd.V_drew)); exact HO3.out) gb273 (Nat.le_of_eq hg.symm)) hb); have n1_ := Aside0.mk (blk_below (g := gb272) (o := .cells #[.int .i64 a0_0, .int .i64 a0_1, .int .i64 a0_2, .int .u64 a0_3, .int .u64 a0_4, .int .u64 a0_5] 29 (0, 0)) (by (with_reducible repeat (first | refine blk_drewN ?_ _ | refine blk_drew ?_ | refine blk_alloc ?_ _)); exact BK272.out) hb); have n2_ := Aside0.mk (below_step (by repeat (first | (with_reducible first | exact HB.out | apply below_alloc | apply pw_below_drewN | apply below_drew1 | refine below_set ?_ GE272.out) | exact HB.out)) hb); have n3_ := Aside0.mk (hbox); have n4_ := Aside0.mk ((by rw [hg]; exact (below_size (by repeat (first | (with_reducible first | exact HB.out | apply below_alloc | apply pw_below_drewN | apply below_drew1 | refine below_set ?_ GE272.out) | exact HB.out))) : w.heap.size ≤ gb273)); have n5_ := Aside0.mk ((by rw [hg]; exact (below_size (by repeat (first | (with_reducible first | exact HB.out | apply below_alloc | apply pw_below_drewN | apply below_drew1 | refine below_set ?_ GE272.out) | exact HB.out))) : w.heap.size ≤ gb273)); have n6_ := Aside0.mk ((by rw [hg]; exact Nat.ne_of_lt (blk_lt (g := gb272) (o := .cells #[.int .i64 a0_0, .int .i64 a0_1, .int .i64 a0_2, .int .u64 a0_3, .int .u64 a0_4, .int .u64 a0_5] 29 (0, 0)) (by (with_reducible repeat (first | refine blk_drewN ?_ _ | refine blk_drew ?_ | refine blk_alloc ?_ _)); exact BK272.out)) : gb272 ≠ gb273)); have n7_ := Aside0.mk ((by rw [hg]; exact Nat.ne_of_gt (blk_lt (g := gb272) (o := .cells #[.int .i64 a0_0, .int .i64 a0_1, .int .i64 a0_2, .int .u64 a0_3, .int .u64 a0_4, .int .u64 a0_5] 29 (0, 0)) (by (with_reducible repeat (first | refine blk_drewN ?_ _ | refine blk_drew ?_ | refine blk_alloc ?_ _)); exact BK272.out)) : gb273 ≠ gb272)); clear HO3; clear BK272; clear HB; have HO3 := n0_; have BK272 := n1_; have HB := n2_; have BK273 := n3_; have GW273 := n4_; have GE273 := n5_; have NB272_273 := n6_; have NB273_272 := n7_; clear n0_ n1_ n2_ n3_ n4_ n5_ n6_ n7_; clear hb hbox hg; have hnb21 := NB273_272.out; have hnc21 := NB272_273.out; have hcz22_0 : w20.cell? ⟨gb273, 0, none⟩ = some (.int .u64 a2_0) := (blk_cell BK273.out 0).trans rfl; have hcz22_1 : w20.cell? ⟨gb273, 1, none⟩ = some (.int .u64 a2_1) := (blk_cell BK273.out 1).trans rfl; have hfz22_0 := blk_frozen BK273.out 0; have hfz22_1 := blk_frozen BK273.out 1))
            have n0_ := Aside0.mk (Kd.V_drew HO3.out)
            have n1_ := Aside0.mk (blk_drew BK272.out)
            have n2_ := Aside0.mk (blk_drew BK273.out)
            have n3_ := Aside0.mk (below_drew1 HB.out)
            clear HO3
            clear BK272
            clear BK273
            clear HB
            have HO3 := n0_
            have BK272 := n1_
            have BK273 := n2_
            have HB := n3_
            clear n0_ n1_ n2_ n3_
            refine start_ (n := 14) (S := fun w' => w'.cell? ⟨gb273, 0, none⟩ = some (.int .u64 a2_0) ∧ w'.cell? ⟨gb273, 1, none⟩ = some (.int .u64 a2_1)) (ds := []) #[false, false, false, false, false, false, false, false, false, false, false, false, false, false] (by kernel_rfl) rfl rfl ⟨(blk_cell BK273.out 0).trans rfl, (blk_cell BK273.out 1).trans rfl⟩ (fun hHeld => ?_); refine with_tabW spec_rootIn.tab3 spec_rootIn.bits3 (fun HT_ HW_ => ?_)
            generalize w20.drew = w23 at HO3 BK272 BK273 HB hHeld ⊢
            refine pure_ (i := 0) (N := some 20) (v := ?_) (a' := ?_) #[true, false, false, false, false, false, false, false, false, false, false, false, false, false] rfl rfl (any_of HT_.out (by kernel_rfl)) (fun _ _ _ h => h) (Or.inl ⟨by rfl, ?_⟩) ?_ ?_
            rotate_left
            · intro w'
              go_simp
              with_reducible rfl
            rotate_left
            · simp only [Act.put, List.setIfInBounds_toArray, List.set_cons_zero, List.set_cons_succ, i64_w, i32_w]
              rfl
            refine pure_ (i := 2) (N := some 22) (v := ?_) (a' := ?_) #[true, false, true, false, false, false, false, false, false, false, false, false, false, false] rfl rfl (any_of HT_.out (by kernel_rfl)) (fun _ _ _ h => h) (Or.inl ⟨by rfl, ?_⟩) ?_ ?_
            rotate_left
            · intro w'
              go_simp
              with_reducible rfl
            rotate_left
            · simp only [Act.put, List.setIfInBounds_toArray, List.set_cons_zero, List.set_cons_succ, i64_w, i32_w]
              rfl
            refine pure_ (i := 4) (N := some 24) (v := ?_) (a' := ?_) #[true, false, true, false, true, false, false, false, false, false, false, false, false, false] rfl rfl (any_of HT_.out (by kernel_rfl)) (fun _ _ _ h => h) (Or.inl ⟨by rfl, ?_⟩) ?_ ?_
            rotate_left
            · intro w'
              go_simp
              with_reducible rfl
            rotate_left
            · simp only [Act.put, List.setIfInBounds_toArray, List.set_cons_zero, List.set_cons_succ, i64_w, i32_w]
              rfl
            refine pure_ (i := 9) (N := some 29) (v := ?_) (a' := ?_) #[true, false, true, false, true, false, false, false, false, true, false, false, false, false] rfl rfl (any_of HT_.out (by kernel_rfl)) (fun _ _ _ h => h) (Or.inl ⟨by rfl, ?_⟩) ?_ ?_
            rotate_left
            · intro w'
              go_simp
              with_reducible rfl
            rotate_left
            · simp only [Act.put, List.setIfInBounds_toArray, List.set_cons_zero, List.set_cons_succ, i64_w, i32_w]
              rfl
            refine pure_ (i := 10) (N := some 30) (v := ?_) (a' := ?_) #[true, false, true, false, true, false, false, false, false, true, true, false, false, false] rfl rfl (any_of HT_.out (by kernel_rfl)) (fun _ _ _ h => h) (Or.inl ⟨by rfl, ?_⟩) ?_ ?_
            rotate_left
            · intro w'
              go_simp
              with_reducible rfl
            rotate_left
            · simp only [Act.put, List.setIfInBounds_toArray, List.set_cons_zero, List.set_cons_succ, i64_w, i32_w]
              rfl
            refine pure_ (i := 11) (N := some 31) (v := ?_) (a' := ?_) #[true, false, true, false, true, false, false, false, false, true, true, true, false, false] rfl rfl (any_of HT_.out (by kernel_rfl)) (fun _ _ _ h => h) (Or.inl ⟨by rfl, ?_⟩) ?_ ?_
            rotate_left
            · intro w'
              go_simp
              with_reducible rfl
            rotate_left
            · simp only [Act.put, List.setIfInBounds_toArray, List.set_cons_zero, List.set_cons_succ, i64_w, i32_w]
              rfl
            refine take_ (i := 1) (N := some 21) (v := ?_) (a' := ?_) #[true, true, true, false, true, false, false, false, false, true, true, true, false, false] rfl rfl (take_ofW HT_.out HW_.out (by kernel_rfl)) (fun _ _ _ h => h) (Or.inl ⟨by rfl, ?_⟩) hHeld ?_ ?_
            rotate_left
            · rintro w' ⟨s0, s1⟩
              go_simp
              with_reducible rfl
            rotate_left
            · simp only [Act.put, List.setIfInBounds_toArray, List.set_cons_zero, List.set_cons_succ, i64_w, i32_w]
              rfl
            refine take_ (i := 3) (N := some 23) (v := ?_) (a' := ?_) #[true, true, true, true, true, false, false, false, false, true, true, true, false, false] rfl rfl (take_ofW HT_.out HW_.out (by kernel_rfl)) (fun _ _ _ h => h) (Or.inl ⟨by rfl, ?_⟩) hHeld ?_ ?_
            rotate_left
            · rintro w' ⟨s0, s1⟩
              go_simp
              with_reducible rfl
            rotate_left
            · simp only [Act.put, List.setIfInBounds_toArray, List.set_cons_zero, List.set_cons_succ, i64_w, i32_w]
              rfl
            refine take_ (i := 5) (N := some 25) (v := ?_) (a' := ?_) #[true, true, true, true, true, true, false, false, false, true, true, true, false, false] rfl rfl (take_ofW HT_.out HW_.out (by kernel_rfl)) (fun _ _ _ h => h) (Or.inl ⟨by rfl, ?_⟩) hHeld ?_ ?_
            rotate_left
            · rintro w' ⟨s0, s1⟩
              go_simp
              with_reducible rfl
            rotate_left
            · simp only [Act.put, List.setIfInBounds_toArray, List.set_cons_zero, List.set_cons_succ, i64_w, i32_w]
              rfl
            refine pure_ (i := 6) (N := some 26) (v := ?_) (a' := ?_) #[true, true, true, true, true, true, true, false, false, true, true, true, false, false] rfl rfl (any_of HT_.out (by kernel_rfl)) (fun _ _ _ h => h) (Or.inl ⟨by rfl, ?_⟩) ?_ ?_
            rotate_left
            · intro w'
              go_simp
              with_reducible rfl
            rotate_left
            · simp only [Act.put, List.setIfInBounds_toArray, List.set_cons_zero, List.set_cons_succ, i64_w, i32_w]
              rfl
            refine one_ (i := 7) (N := some 27) #[true, true, true, true, true, true, true, true, false, true, true, true, false, false] rfl rfl (one_of HT_.out (by kernel_rfl)) (by decide) (fun K hK => ?_)
            refine goes_ Try.func39 (by kernel_rfl) rfl #[.int .u64 (IntKind.u64.wrap (a2_1 - a2_0))] (by rfl) rfl rfl (by (try simp only [List.map_toArray, List.map_cons, List.map_nil]); first | done | rfl | (simp only [List.length_drop, List.length_take]; rfl)) ?_
            with_reducible refine (spec_split.calls k (IntKind.u64.wrap (a2_1 - a2_0)) t274 _ A11.out).mono ?_
            rintro e w' ⟨rfl, ⟨nd, rfl⟩⟩
            refine ⟨_, rfl, ?_⟩
            refine hK.out _ _ ⟨(blk_cell BK273.out 0).trans rfl, (blk_cell BK273.out 1).trans rfl⟩ (fun hHeld => ?_)
            clear hK K
            refine norm_ (a' := ?_) ?_ ?_
            rotate_left
            · show Act.put _ (some 27) _ = _
              simp only [Act.put, List.setIfInBounds_toArray, List.set_cons_zero, List.set_cons_succ, i64_w, i32_w]
              rfl
            refine pure_ (i := 8) (N := some 28) (v := ?_) (a' := ?_) #[true, true, true, true, true, true, true, true, true, true, true, true, false, false] rfl rfl (any_of HT_.out (by kernel_rfl)) (fun _ _ _ h => h) (Or.inl ⟨by rfl, ?_⟩) ?_ ?_
            rotate_left
            · intro w'
              go_simp
              with_reducible rfl
            rotate_left
            · simp only [Act.put, List.setIfInBounds_toArray, List.set_cons_zero, List.set_cons_succ, i64_w, i32_w]
              rfl
            refine pure_ (i := 12) (N := some 11) (v := ?_) (a' := ?_) #[true, true, true, true, true, true, true, true, true, true, true, true, true, false] rfl rfl (any_of HT_.out (by kernel_rfl)) (fun _ _ _ h => h) (Or.inl ⟨by rfl, ?_⟩) ?_ ?_
            rotate_left
            · intro w'
              go_simp
              with_reducible rfl
            rotate_left
            · simp only [Act.put, List.setIfInBounds_toArray, List.set_cons_zero, List.set_cons_succ, i64_w, i32_w]
              rfl
            refine pure_ (i := 13) (N := some 12) (v := ?_) (a' := ?_) #[true, true, true, true, true, true, true, true, true, true, true, true, true, true] rfl rfl (any_of HT_.out (by kernel_rfl)) (fun _ _ _ h => h) (Or.inl ⟨by rfl, ?_⟩) ?_ ?_
            rotate_left
            · intro w'
              go_simp
              with_reducible rfl
            rotate_left
            · simp only [Act.put, List.setIfInBounds_toArray, List.set_cons_zero, List.set_cons_succ, i64_w, i32_w]
              rfl
            refine done_ (done_of HT_.out (by kernel_rfl)) ?_
            try go_wp2
            (try (rw [drewN_self w23]; generalize hq_ : World.drewN w23 _ = w23; have n0_ : Aside0 (Kd.V (Kd.int .u8) 5 w23 w.heap.size (fun k_ => (P3_ k_ ∨ w.heap.size ≤ k_) ∧ k_ ≠ gb272 ∧ k_ ≠ gb273) (.slice A3 l3.length c3) l3) := ⟨by rw [← hq_]; exact (by (with_reducible repeat (first | apply Kd.V_alloc | apply Kd.V_drewN | apply Kd.V_drew)); exact Kd.V_mono HO3.out (fun _ hk => ⟨hk.1.1, ⟨hk.1.2, hk.2⟩⟩))⟩; have n1_ : Aside0 (w23.heap[gb272]? = some (.cells #[.int .i64 a0_0, .int .i64 a0_1, .int .i64 a0_2, .int .u64 a0_3, .int .u64 a0_4, .int .u64 a0_5] 29 (0, 0))) := ⟨by rw [← hq_]; exact (by (with_reducible repeat (first | refine blk_drewN ?_ _ | refine blk_drew ?_ | refine blk_alloc ?_ _)); exact BK272.out)⟩; have n2_ : Aside0 (w23.heap[gb273]? = some (.cells #[.int .u64 a2_0, .int .u64 a2_1] 48 (0, 0))) := ⟨by rw [← hq_]; exact (by (with_reducible repeat (first | refine blk_drewN ?_ _ | refine blk_drew ?_ | refine blk_alloc ?_ _)); exact BK273.out)⟩; have n3_ : Aside0 (Below w.heap.size w w23) := ⟨by rw [← hq_]; exact (by repeat (first | (with_reducible first | exact HB.out | apply below_alloc | apply pw_below_drewN | apply below_drew1 | refine below_set ?_ GE272.out | refine below_set ?_ GE273.out) | exact HB.out))⟩; clear HO3 BK272 BK273 HB hq_; have HO3 := n0_; have BK272 := n1_; have BK273 := n2_; have HB := n3_; clear n0_ n1_ n2_ n3_))
            have n0_ := Aside0.mk (Kd.V_drew HO3.out)
            have n1_ := Aside0.mk (blk_drew BK272.out)
            have n2_ := Aside0.mk (blk_drew BK273.out)
            have n3_ := Aside0.mk (below_drew1 HB.out)
            clear HO3
            clear BK272
            clear BK273
            clear HB
            have HO3 := n0_
            have BK272 := n1_
            have BK273 := n2_
            have HB := n3_
            clear n0_ n1_ n2_ n3_
            have q25 : ((ji13) : Int) ≤ ((l4.length : Int) : Int) := of_decide_eq_true (by first | (with_reducible assumption) | assumption)
            obtain ⟨i025, hi025, _, hsz25, _⟩ := info_parts info30
            have hroom25 : l4.length ≤ c4 := HC4.out
            have hC25 : Kd.C (Kd.slice 5 (Kd.int .u8)) _ A4 l4.length l4 := HR4.out
            have hcut25 := cut_to (P := Try.prog) 23 30 .i64 Try.underlying23 hi025 A4 l4.length c4 (ji13) (of_decide_eq_true (by first | (with_reducible assumption) | assumption)) q25 hroom25
            have hr25 := Kd.C_take (m := ((ji13) : Int).toNat) hC25 (by omega)
            have hy25 : y275.length = ((ji13) : Int).toNat := (by rw [Ny275.out, List.length_take]; omega)
            rw [← Ny275.out] at hr25
            rw [← hy25] at hcut25
            have HR278 := Aside0.mk hr25
            have HC278 := Aside0.mk (show y275.length ≤ c4 from by omega)
            clear hr25 hC25 hroom25 hi025 hsz25
            have KY25 := Aside0.mk hy25
            clear hy25
            replace q25 := eq_true q25
            have p282 : 0 ≤ ((ji13) : Int) := of_decide_eq_true (by first | (with_reducible assumption) | assumption)
            have q282 : (ji13) < (l4.length : Int) := of_decide_eq_true (by first | (with_reducible assumption) | assumption)
            obtain ⟨ad282, A282_0, c282_0, e282, hx282_0, hl282_0, hi282_0⟩ := at_L1 HR4.out (ji13) p282 q282
            have hw282_0 := hx282_0
            cases e282
            replace hx282_0 := (HB.out.cell (World.block_lt_of_cell? w _ hx282_0)).trans hx282_0
            have HR282_0 := Aside0.mk hi282_0
            have HC282_0 := Aside0.mk hl282_0
            clear hi282_0 hl282_0
            replace p282 := eq_true p282
            replace q282 := eq_true q282
            refine start_ (n := 18) (S := fun w' => w'.cell? ⟨gb272, 0, none⟩ = some (.int .i64 a0_0) ∧ w'.cell? ⟨gb272, 1, none⟩ = some (.int .i64 a0_1) ∧ w'.cell? ⟨gb272, 2, none⟩ = some (.int .i64 a0_2) ∧ w'.cell? ⟨gb272, 3, none⟩ = some (.int .u64 a0_3) ∧ w'.cell? ⟨gb272, 4, none⟩ = some (.int .u64 a0_4) ∧ w'.cell? ⟨gb272, 5, none⟩ = some (.int .u64 a0_5) ∧ w'.cell? ⟨gb273, 0, none⟩ = some (.int .u64 a2_0) ∧ w'.cell? ⟨gb273, 1, none⟩ = some (.int .u64 a2_1) ∧ w'.cell? (ad282.add ((ji13)).toNat) = some (.slice A282_0 (rd_L1 l4 (ji13)).length c282_0)) (ds := []) #[false, false, false, false, false, false, false, false, false, false, false, false, false, false, false, false, false, false] (by kernel_rfl) rfl rfl ⟨(blk_cell BK272.out 0).trans rfl, (blk_cell BK272.out 1).trans rfl, (blk_cell BK272.out 2).trans rfl, (blk_cell BK272.out 3).trans rfl, (blk_cell BK272.out 4).trans rfl, (blk_cell BK272.out 5).trans rfl, (blk_cell BK273.out 0).trans rfl, (blk_cell BK273.out 1).trans rfl, ((HB.out.cell (World.block_lt_of_cell? w _ hw282_0)).trans hw282_0)⟩ (fun hHeld => ?_); refine with_tabW spec_rootIn.tab5 spec_rootIn.bits5 (fun HT_ HW_ => ?_)
            generalize w23.drew = w24 at HO3 BK272 BK273 HB HR278 HR282_0 hx282_0 hHeld ⊢
            refine pure_ (i := 2) (N := some 37) (v := ?_) (a' := ?_) #[false, false, true, false, false, false, false, false, false, false, false, false, false, false, false, false, false, false] rfl rfl (any_of HT_.out (by kernel_rfl)) (fun _ _ _ h => h) (Or.inl ⟨by rfl, ?_⟩) ?_ ?_
            rotate_left
            · intro w'
              go_simp
              with_reducible rfl
            rotate_left
            · simp only [Act.put, List.setIfInBounds_toArray, List.set_cons_zero, List.set_cons_succ, i64_w, i32_w]
              rfl
            refine pure_ (i := 3) (N := some 38) (v := ?_) (a' := ?_) #[false, false, true, true, false, false, false, false, false, false, false, false, false, false, false, false, false, false] rfl rfl (any_of HT_.out (by kernel_rfl)) (fun _ _ _ h => h) (Or.inl ⟨by rfl, ?_⟩) ?_ ?_
            rotate_left
            · intro w'
              go_simp
              with_reducible rfl
            rotate_left
            · simp only [Act.put, List.setIfInBounds_toArray, List.set_cons_zero, List.set_cons_succ, i64_w, i32_w]
              rfl
            refine pure_ (i := 5) (N := some 40) (v := ?_) (a' := ?_) #[false, false, true, true, false, true, false, false, false, false, false, false, false, false, false, false, false, false] rfl rfl (any_of HT_.out (by kernel_rfl)) (fun _ _ _ h => h) (Or.inl ⟨by rfl, ?_⟩) ?_ ?_
            rotate_left
            · intro w'
              go_simp
              with_reducible rfl
            rotate_left
            · simp only [Act.put, List.setIfInBounds_toArray, List.set_cons_zero, List.set_cons_succ, i64_w, i32_w]
              rfl
            refine pure_ (i := 7) (N := some 42) (v := ?_) (a' := ?_) #[false, false, true, true, false, true, false, true, false, false, false, false, false, false, false, false, false, false] rfl rfl (any_of HT_.out (by kernel_rfl)) (fun _ _ _ h => h) (Or.inl ⟨by rfl, ?_⟩) ?_ ?_
            rotate_left
            · intro w'
              go_simp
              with_reducible rfl
            rotate_left
            · simp only [Act.put, List.setIfInBounds_toArray, List.set_cons_zero, List.set_cons_succ, i64_w, i32_w]
              rfl
            refine pure_ (i := 8) (N := some 43) (v := ?_) (a' := ?_) #[false, false, true, true, false, true, false, true, true, false, false, false, false, false, false, false, false, false] rfl rfl (any_of HT_.out (by kernel_rfl)) (fun _ _ _ h => h) (Or.inl ⟨by rfl, ?_⟩) ?_ ?_
            rotate_left
            · intro w'
              go_simp
              with_reducible rfl
            rotate_left
            · simp only [Act.put, List.setIfInBounds_toArray, List.set_cons_zero, List.set_cons_succ, i64_w, i32_w]
              rfl
            refine pure_ (i := 9) (N := some 44) (v := ?_) (a' := ?_) #[false, false, true, true, false, true, false, true, true, true, false, false, false, false, false, false, false, false] rfl rfl (any_of HT_.out (by kernel_rfl)) (fun _ _ _ h => h) (Or.inl ⟨by rfl, ?_⟩) ?_ ?_
            rotate_left
            · intro w'
              go_simp
              with_reducible rfl
            rotate_left
            · simp only [Act.put, List.setIfInBounds_toArray, List.set_cons_zero, List.set_cons_succ, i64_w, i32_w]
              rfl
            refine pure_ (i := 10) (N := some 45) (v := ?_) (a' := ?_) #[false, false, true, true, false, true, false, true, true, true, true, false, false, false, false, false, false, false] rfl rfl (any_of HT_.out (by kernel_rfl)) (fun _ _ _ h => h) (Or.inl ⟨by rfl, ?_⟩) ?_ ?_
            rotate_left
            · intro w'
              go_simp
              with_reducible rfl
            rotate_left
            · simp only [Act.put, List.setIfInBounds_toArray, List.set_cons_zero, List.set_cons_succ, i64_w, i32_w]
              rfl
            refine pure_ (i := 12) (N := some 47) (v := ?_) (a' := ?_) #[false, false, true, true, false, true, false, true, true, true, true, false, true, false, false, false, false, false] rfl rfl (any_of HT_.out (by kernel_rfl)) (fun _ _ _ h => h) (Or.inl ⟨by rfl, ?_⟩) ?_ ?_
            rotate_left
            · intro w'
              go_simp
              with_reducible rfl
            rotate_left
            · simp only [Act.put, List.setIfInBounds_toArray, List.set_cons_zero, List.set_cons_succ, i64_w, i32_w]
              rfl
            refine pure_ (i := 13) (N := some 48) (v := ?_) (a' := ?_) #[false, false, true, true, false, true, false, true, true, true, true, false, true, true, false, false, false, false] rfl rfl (any_of HT_.out (by kernel_rfl)) (fun _ _ _ h => h) (Or.inl ⟨by rfl, ?_⟩) ?_ ?_
            rotate_left
            · intro w'
              go_simp
              with_reducible rfl
            rotate_left
            · simp only [Act.put, List.setIfInBounds_toArray, List.set_cons_zero, List.set_cons_succ, i64_w, i32_w]
              rfl
            refine pure_ (i := 14) (N := some 49) (v := ?_) (a' := ?_) #[false, false, true, true, false, true, false, true, true, true, true, false, true, true, true, false, false, false] rfl rfl (any_of HT_.out (by kernel_rfl)) (fun _ _ _ h => h) (Or.inl ⟨by rfl, ?_⟩) ?_ ?_
            rotate_left
            · intro w'
              go_simp
              with_reducible rfl
            rotate_left
            · simp only [Act.put, List.setIfInBounds_toArray, List.set_cons_zero, List.set_cons_succ, i64_w, i32_w]
              rfl
            refine take_ (i := 0) (N := some 35) (v := ?_) (a' := ?_) #[true, false, true, true, false, true, false, true, true, true, true, false, true, true, true, false, false, false] rfl rfl (take_ofW HT_.out HW_.out (by kernel_rfl)) (fun _ _ _ h => h) (Or.inl ⟨by rfl, ?_⟩) hHeld ?_ ?_
            rotate_left
            · rintro w' ⟨s0, s1, s2, s3, s4, s5, s6, s7, s8⟩
              go_simp
              with_reducible rfl
            rotate_left
            · simp only [Act.put, List.setIfInBounds_toArray, List.set_cons_zero, List.set_cons_succ, i64_w, i32_w]
              rfl
            refine take_ (i := 1) (N := some 36) (v := ?_) (a' := ?_) #[true, true, true, true, false, true, false, true, true, true, true, false, true, true, true, false, false, false] rfl rfl (take_ofW HT_.out HW_.out (by kernel_rfl)) (fun _ _ _ h => h) (Or.inl ⟨by rfl, ?_⟩) hHeld ?_ ?_
            rotate_left
            · rintro w' ⟨s0, s1, s2, s3, s4, s5, s6, s7, s8⟩
              go_simp
              with_reducible rfl
            rotate_left
            · simp only [Act.put, List.setIfInBounds_toArray, List.set_cons_zero, List.set_cons_succ, i64_w, i32_w]
              rfl
            refine take_ (i := 4) (N := some 39) (v := ?_) (a' := ?_) #[true, true, true, true, true, true, false, true, true, true, true, false, true, true, true, false, false, false] rfl rfl (take_ofW HT_.out HW_.out (by kernel_rfl)) (fun _ _ _ h => h) (Or.inl ⟨by rfl, ?_⟩) hHeld ?_ ?_
            rotate_left
            · rintro w' ⟨s0, s1, s2, s3, s4, s5, s6, s7, s8⟩
              go_simp
              with_reducible rfl
            rotate_left
            · simp only [Act.put, List.setIfInBounds_toArray, List.set_cons_zero, List.set_cons_succ, i64_w, i32_w]
              rfl
            refine pure_ (i := 6) (N := some 41) (v := ?_) (a' := ?_) #[true, true, true, true, true, true, true, true, true, true, true, false, true, true, true, false, false, false] rfl rfl (any_of HT_.out (by kernel_rfl)) (fun _ _ _ h => h) (Or.inl ⟨by rfl, ?_⟩) ?_ ?_
            rotate_left
            · intro w'
              go_simp
              with_reducible rfl
            rotate_left
            · simp only [Act.put, List.setIfInBounds_toArray, List.set_cons_zero, List.set_cons_succ, i64_w, i32_w]
              rfl
            refine take_ (i := 15) (N := some 50) (v := ?_) (a' := ?_) #[true, true, true, true, true, true, true, true, true, true, true, false, true, true, true, true, false, false] rfl rfl (take_ofW HT_.out HW_.out (by kernel_rfl)) (fun _ _ _ h => h) (Or.inl ⟨by rfl, ?_⟩) hHeld ?_ ?_
            rotate_left
            · rintro w' ⟨s0, s1, s2, s3, s4, s5, s6, s7, s8⟩
              go_simp
              with_reducible rfl
            rotate_left
            · simp only [Act.put, List.setIfInBounds_toArray, List.set_cons_zero, List.set_cons_succ, i64_w, i32_w]
              rfl
            refine one_ (i := 11) (N := some 46) #[true, true, true, true, true, true, true, true, true, true, true, true, true, true, true, true, false, false] rfl rfl (one_of HT_.out (by kernel_rfl)) (by decide) (fun K hK => ?_)
            refine goes_ Try.func44 (by kernel_rfl) rfl #[.agg #[.int .i64 a0_0, .int .i64 a0_1, .int .i64 a0_2, .int .u64 a0_3, .int .u64 a0_4, .int .u64 a0_5], .int .u64 a1, .agg #[.int .u64 a2_0, .int .u64 (IntKind.u64.wrap (a2_0 + t274))], .slice A3 l3.length c3, .slice (some ad282) y275.length c4] (by rfl) rfl rfl (by (try simp only [List.map_toArray, List.map_cons, List.map_nil]); first | done | rfl | (simp only [List.length_drop, List.length_take]; rfl)) ?_
            with_reducible refine (ih k (by omega) a0_0 a0_1 a0_2 a0_3 a0_4 a0_5 a1 a2_0 (IntKind.u64.wrap (a2_0 + t274)) (fun k_ => (((P3_ k_ ∨ w.heap.size ≤ k_) ∧ k_ ≠ gb272) ∧ k_ ≠ gb273)) _ _ l3 _ _ y275 t279 _ ?side1 ?side2 ?side3 A16.out).mono ?_
            (case side1 => first | exact HO3.out | exact Kd.V_mono HO3.out (fun k_ h_ => by simp only [and_assoc] at h_ ⊢; exact h_))
            (case side2 => repeat (first | exact (Kd.C_below HR278.out HB.out) | (with_reducible refine Kd.C_alloc ?_ _) | (with_reducible refine Kd.C_drewN ?_ _) | (with_reducible refine Kd.C_drew ?_)))
            (case side3 => exact HC278.out)
            rintro e w26 ⟨v280, rfl, ho0, hb⟩
            refine ⟨_, rfl, ?_⟩
            have n0_ := Aside0.mk (Kd.V_below (by (with_reducible repeat (first | apply Kd.V_alloc | apply Kd.V_drewN | apply Kd.V_drew)); exact HO3.out) hb)
            have n1_ := Aside0.mk (Kd.V_lower (Kd.V_mono (ok' := fun k_ => (P3_ k_ ∨ w.heap.size ≤ k_) ∧ k_ ≠ gb272 ∧ k_ ≠ gb273) ho0 (fun k_ hk_ => ⟨Or.elim hk_ (fun hs_ => hs_.1.1) (fun hn_ => (.inr (Nat.le_trans (below_size (by repeat (first | (with_reducible first | exact HB.out | apply below_alloc | apply pw_below_drewN | apply below_drew1 | refine below_set ?_ GE272.out | refine below_set ?_ GE273.out) | exact HB.out))) hn_))), Or.elim hk_ (fun hs_ => hs_.1.2) (fun hn_ => (Kd.freshB (g := gb272) (o := .cells #[.int .i64 a0_0, .int .i64 a0_1, .int .i64 a0_2, .int .u64 a0_3, .int .u64 a0_4, .int .u64 a0_5] 29 (0, 0)) (by (with_reducible repeat (first | refine blk_drewN ?_ _ | refine blk_drew ?_ | refine blk_alloc ?_ _)); exact BK272.out) k_ hn_)), Or.elim hk_ (fun hs_ => hs_.2) (fun hn_ => (Kd.freshB (g := gb273) (o := .cells #[.int .u64 a2_0, .int .u64 a2_1] 48 (0, 0)) (by (with_reducible repeat (first | refine blk_drewN ?_ _ | refine blk_drew ?_ | refine blk_alloc ?_ _)); exact BK273.out) k_ hn_))⟩)) (below_size (by repeat (first | (with_reducible first | exact HB.out | apply below_alloc | apply pw_below_drewN | apply below_drew1 | refine below_set ?_ GE272.out | refine below_set ?_ GE273.out) | exact HB.out))))
            have n2_ := Aside0.mk (blk_below (g := gb272) (o := .cells #[.int .i64 a0_0, .int .i64 a0_1, .int .i64 a0_2, .int .u64 a0_3, .int .u64 a0_4, .int .u64 a0_5] 29 (0, 0)) (by (with_reducible repeat (first | refine blk_drewN ?_ _ | refine blk_drew ?_ | refine blk_alloc ?_ _)); exact BK272.out) hb)
            have n3_ := Aside0.mk (blk_below (g := gb273) (o := .cells #[.int .u64 a2_0, .int .u64 a2_1] 48 (0, 0)) (by (with_reducible repeat (first | refine blk_drewN ?_ _ | refine blk_drew ?_ | refine blk_alloc ?_ _)); exact BK273.out) hb)
            have n4_ := Aside0.mk (below_step (by repeat (first | (with_reducible first | exact HB.out | apply below_alloc | apply pw_below_drewN | apply below_drew1 | refine below_set ?_ GE272.out | refine below_set ?_ GE273.out) | exact HB.out)) hb)
            clear HO3
            clear BK272
            clear BK273
            clear HB
            have HO3 := n0_
            have HO281 := n1_
            have BK272 := n2_
            have BK273 := n3_
            have HB := n4_
            clear n0_ n1_ n2_ n3_ n4_
            (try clear hb)
            (try clear hb2)
            (try clear hk)
            (try clear hi)
            (try clear ho0)
            obtain ⟨Ao27, co27, eo27⟩ := Kd.V_slice HO281.out
            (first | subst eo27 | (injection eo27 with f1_ f2_ f3_; have f4_ := f1_.symm; have f5_ := f3_.symm; clear f1_ f2_ f3_; subst f4_; subst f5_))
            refine hK.out _ _ ⟨(blk_cell BK272.out 0).trans rfl, (blk_cell BK272.out 1).trans rfl, (blk_cell BK272.out 2).trans rfl, (blk_cell BK272.out 3).trans rfl, (blk_cell BK272.out 4).trans rfl, (blk_cell BK272.out 5).trans rfl, (blk_cell BK273.out 0).trans rfl, (blk_cell BK273.out 1).trans rfl, ((HB.out.cell (World.block_lt_of_cell? w _ hw282_0)).trans hw282_0)⟩ (fun hHeld => ?_)
            clear hK K
            refine norm_ (a' := ?_) ?_ ?_
            rotate_left
            · show Act.put _ (some 46) _ = _
              simp only [Act.put, List.setIfInBounds_toArray, List.set_cons_zero, List.set_cons_succ, i64_w, i32_w]
              rfl
            refine one_ (i := 16) (N := some 51) #[true, true, true, true, true, true, true, true, true, true, true, true, true, true, true, true, true, false] rfl rfl (one_of HT_.out (by kernel_rfl)) (by decide) (fun K hK => ?_)
            refine goes_ Try.func48 (by kernel_rfl) rfl #[.agg #[.int .i64 a0_0, .int .i64 a0_1, .int .i64 a0_2, .int .u64 a0_3, .int .u64 a0_4, .int .u64 a0_5], .slice Ao27 t279.length co27, .slice A282_0 (rd_L1 l4 (ji13)).length c282_0] (by rfl) rfl rfl (by (try simp only [List.map_toArray, List.map_cons, List.map_nil]); first | done | (simp only [hji13]; rfl) | rfl | (simp only [List.length_drop, List.length_take]; rfl)) ?_
            with_reducible refine (spec_HashChildren.calls k a0_0 a0_1 a0_2 a0_3 a0_4 a0_5 _ _ t279 _ _ (rd_L1 l4 (ji13)) t283 _ ?side1 ?side2 ?side3 ?side4 A18.out).mono ?_
            (case side1 => repeat (first | exact (Kd.V_reads' HO281.out).2.2 | (with_reducible refine Kd.C_alloc ?_ _) | (with_reducible refine Kd.C_drewN ?_ _) | (with_reducible refine Kd.C_drew ?_)))
            (case side2 => exact (Kd.V_reads' HO281.out).2.1)
            (case side3 => repeat (first | exact (Kd.C_below HR282_0.out HB.out) | (with_reducible refine Kd.C_alloc ?_ _) | (with_reducible refine Kd.C_drewN ?_ _) | (with_reducible refine Kd.C_drew ?_)))
            (case side4 => exact HC282_0.out)
            rintro e w28 ⟨v284, rfl, ho0, hb⟩
            refine ⟨_, rfl, ?_⟩
            have n0_ := Aside0.mk (Kd.V_elder' (by (with_reducible repeat (first | apply Kd.V_alloc | apply Kd.V_drewN | apply Kd.V_drew)); exact HO3.out) (Kd.R_base ho0) hb)
            have n1_ := Aside0.mk (Kd.V_elder' (by (with_reducible repeat (first | apply Kd.V_alloc | apply Kd.V_drewN | apply Kd.V_drew)); exact HO281.out) (Kd.R_base ho0) hb)
            have n2_ := Aside0.mk (Kd.R_lower (Kd.R_newM (M := fun k_ => (w.heap.size ≤ k_)) ho0 (below_size (by repeat (first | (with_reducible first | exact HB.out | apply below_alloc | apply pw_below_drewN | apply below_drew1 | refine below_set ?_ GE272.out | refine below_set ?_ GE273.out) | exact HB.out))) (fun k_ h_ => h_)) (below_size (by repeat (first | (with_reducible first | exact HB.out | apply below_alloc | apply pw_below_drewN | apply below_drew1 | refine below_set ?_ GE272.out | refine below_set ?_ GE273.out) | exact HB.out))))
            have n3_ := Aside0.mk (blk_below (g := gb272) (o := .cells #[.int .i64 a0_0, .int .i64 a0_1, .int .i64 a0_2, .int .u64 a0_3, .int .u64 a0_4, .int .u64 a0_5] 29 (0, 0)) (by (with_reducible repeat (first | refine blk_drewN ?_ _ | refine blk_drew ?_ | refine blk_alloc ?_ _)); exact BK272.out) hb)
            have n4_ := Aside0.mk (blk_below (g := gb273) (o := .cells #[.int .u64 a2_0, .int .u64 a2_1] 48 (0, 0)) (by (with_reducible repeat (first | refine blk_drewN ?_ _ | refine blk_drew ?_ | refine blk_alloc ?_ _)); exact BK273.out) hb)
            have n5_ := Aside0.mk (below_step (by repeat (first | (with_reducible first | exact HB.out | apply below_alloc | apply pw_below_drewN | apply below_drew1 | refine below_set ?_ GE272.out | refine below_set ?_ GE273.out) | exact HB.out)) hb)
            clear HO3
            clear HO281
            clear BK272
            clear BK273
            clear HB
            have HO3 := n0_
            have HO281 := n1_
            have HO285 := n2_
            have BK272 := n3_
            have BK273 := n4_
            have HB := n5_
            clear n0_ n1_ n2_ n3_ n4_ n5_
            (try clear hb)
            (try clear hb2)
            (try clear hk)
            (try clear hi)
            (try clear ho0)
            refine hK.out _ _ ⟨(blk_cell BK272.out 0).trans rfl, (blk_cell BK272.out 1).trans rfl, (blk_cell BK272.out 2).trans rfl, (blk_cell BK272.out 3).trans rfl, (blk_cell BK272.out 4).trans rfl, (blk_cell BK272.out 5).trans rfl, (blk_cell BK273.out 0).trans rfl, (blk_cell BK273.out 1).trans rfl, ((HB.out.cell (World.block_lt_of_cell? w _ hw282_0)).trans hw282_0)⟩ (fun hHeld => ?_)
            clear hK K
            refine norm_ (a' := ?_) ?_ ?_
            rotate_left
            · show Act.put _ (some 51) _ = _
              simp only [Act.put, List.setIfInBounds_toArray, List.set_cons_zero, List.set_cons_succ, i64_w, i32_w]
              rfl
            refine pure_ (i := 17) (N := some 10) (v := ?_) (a' := ?_) #[true, true, true, true, true, true, true, true, true, true, true, true, true, true, true, true, true, true] rfl rfl (any_of HT_.out (by kernel_rfl)) (fun _ _ _ h => h) (Or.inl ⟨by rfl, ?_⟩) ?_ ?_
            rotate_left
            · intro w'
              go_simp
              with_reducible rfl
            rotate_left
            · simp only [Act.put, List.setIfInBounds_toArray, List.set_cons_zero, List.set_cons_succ, i64_w, i32_w]
              rfl
            refine done_ (done_of HT_.out (by kernel_rfl)) ?_
            try go_wp2
            go_ret
            exact ⟨_, by first | rfl | (simp [errW_none, errW_some] <;> rfl) | (simp only [← hji13]; first | rfl | (simp [errW_none, errW_some] <;> rfl)) | (simp [*, errW_none, errW_some] <;> rfl), Kd.V_mono (Kd.R_V (by (with_reducible repeat (first | apply Kd.R_alloc | apply Kd.R_drewN | apply Kd.R_drew)); exact Kd.R_mono HO285.out (fun _ hk => hk.1))) (fun k_ hk => by first | exact ⟨(.inr (hk.1)), hk.2⟩ | exact (.inr (hk))), by repeat (first | (with_reducible first | exact HB.out | apply below_alloc | apply pw_below_drewN | apply below_drew1 | refine below_set ?_ GE272.out | refine below_set ?_ GE273.out) | exact HB.out)⟩
          · rw [if_neg c17] at H
            exact absurd H (by simp)
        · rw [if_neg c15] at H
          exact absurd H (by simp)
      · rw [if_neg c14] at H
        exact absurd H (by simp)
    · rw [if_neg c12] at H
      have c12b0 : decide (a1 < (IntKind.u64.wrap (a2_0 + t274))) = false := decide_eq_false c12
      clear c12
      obtain ⟨ji29, hji29⟩ : ∃ j_ : Int, (wrap64 ((l4.length : Int) - 1)) = j_ := ⟨_, rfl⟩
      replace H : (if 0 ≤ (ji29) then (if (ji29) < (l4.length : Int) then (if (ji29) ≤ (l4.length : Int) then ((spec_rootIn.f k a0_0 a0_1 a0_2 a0_3 a0_4 a0_5 a1 (IntKind.u64.wrap (a2_0 + t274)) a2_1 l3 (l4.take ((ji29) : Int).toNat)).bind fun t291 => ((spec_HashChildren.f k a0_0 a0_1 a0_2 a0_3 a0_4 a0_5 (rd_L1 l4 (ji29)) t291).bind fun t294 => (some t294))) else (none)) else (none)) else (none)) = some r := by first | (rw [hji29] at H; exact H) | (simp only [hji29] at H ⊢; exact H)
      (try rw [hji29] at A11)
      have hji29w : (IntKind.i64.wrap ((l4.length : Int) - 1)) = ji29 := (i64_w _).trans hji29
      by_cases c30 : 0 ≤ (ji29)
      · rw [if_pos c30] at H
        have c30b0 : decide (0 ≤ (ji29)) = true := decide_eq_true c30
        clear c30
        by_cases c31 : (ji29) < (l4.length : Int)
        · rw [if_pos c31] at H
          have c31b0 : decide ((ji29) < (l4.length : Int)) = true := decide_eq_true c31
          clear c31
          have c32b0 := eq_true (of_decide_eq_true (by first | (with_reducible assumption) | assumption) : 0 ≤ (ji29))
          by_cases c33 : (ji29) ≤ (l4.length : Int)
          · rw [if_pos c33] at H
            have c33b0 := eq_true c33
            have c33b1 : decide ((ji29) ≤ (l4.length : Int)) = true := decide_eq_true c33
            clear c33
            obtain ⟨y287, hy287⟩ : ∃ y_ : List (List Int), y_ = (l4.take ((ji29) : Int).toNat) := ⟨_, rfl⟩
            replace H : ((spec_rootIn.f k a0_0 a0_1 a0_2 a0_3 a0_4 a0_5 a1 (IntKind.u64.wrap (a2_0 + t274)) a2_1 l3 y287).bind fun t291 => ((spec_HashChildren.f k a0_0 a0_1 a0_2 a0_3 a0_4 a0_5 (rd_L1 l4 (ji29)) t291).bind fun t294 => (some t294))) = some r := by first | (rw [hy287]; with_reducible exact H) | (have H2_ := (Option.bind_some _ _).symm.trans H; rw [hy287]; with_reducible exact H2_) | (have H2_ := (Option.bind_some _ _).symm.trans H; with_reducible exact H2_) | with_reducible exact H | (rw [hy287]; exact H) | exact H
            have Ny287 := Aside0.mk hy287
            clear hy287
            replace H := Option.bind_eq_some_iff.mp H
            obtain ⟨t291, A340, H⟩ := H
            replace H : ((spec_HashChildren.f k a0_0 a0_1 a0_2 a0_3 a0_4 a0_5 (rd_L1 l4 (ji29)) t291).bind fun t294 => (some t294)) = some r := H
            have A34 := Aside0.mk A340
            clear A340
            replace H := Option.bind_eq_some_iff.mp H
            obtain ⟨t294, A350, H⟩ := H
            replace H : (some t294) = some r := H
            have A35 := Aside0.mk A350
            clear A350
            obtain rfl := Option.some.inj H
            go_enter Try.func44, Try.ntmps44
            try go_wp2_with (first | ((with_reducible refine gate_dst (N := 5) rfl ?_); refine box_event ?hg (N := 5) ?hd (cs := #[.int .i64 a0_0, .int .i64 a0_1, .int .i64 a0_2, .int .u64 a0_3, .int .u64 a0_4, .int .u64 a0_5]) (t := 29) ?hr ?_; (case hd => rfl); (case hg => rfl); (case hr => first | (go_simp; done) | (go_simp; rfl)); intro gb272 hg w36 hbox hb; have n0_ := Aside0.mk (Kd.V_below (Kd.V_elderB (by (with_reducible repeat (first | apply Kd.V_alloc | apply Kd.V_drewN | apply Kd.V_drew)); exact HO3.out) gb272 (Nat.le_of_eq hg.symm)) hb); have n1_ := Aside0.mk (below_step (by repeat (first | (with_reducible first | exact HB.out | apply below_alloc | apply pw_below_drewN | apply below_drew1) | exact HB.out)) hb); have n2_ := Aside0.mk (hbox); have n3_ := Aside0.mk ((by rw [hg]; exact (below_size (by repeat (first | (with_reducible first | exact HB.out | apply below_alloc | apply pw_below_drewN | apply below_drew1) | exact HB.out))) : w.heap.size ≤ gb272)); have n4_ := Aside0.mk ((by rw [hg]; exact (below_size (by repeat (first | (with_reducible first | exact HB.out | apply below_alloc | apply pw_below_drewN | apply below_drew1) | exact HB.out))) : w.heap.size ≤ gb272)); clear HO3; clear HB; have HO3 := n0_; have HB := n1_; have BK272 := n2_; have GW272 := n3_; have GE272 := n4_; clear n0_ n1_ n2_ n3_ n4_; clear hb hbox hg) | ((with_reducible refine gate_dst (N := 7) rfl ?_); refine box_event ?hg (N := 7) ?hd (cs := #[.int .u64 a2_0, .int .u64 a2_1]) (t := 48) ?hr ?_; (case hd => rfl); (case hg => rfl); (case hr => first | (go_simp; done) | (go_simp; rfl)); intro gb273 hg w37 hbox hb; have n0_ := Aside0.mk (Kd.V_below (Kd.V_elderB (by (with_reducible repeat (first | apply Kd.V_alloc | apply Kd.V_drewN | apply Kd.V_drew)); exact HO3.out) gb273 (Nat.le_of_eq hg.symm)) hb); have n1_ := Aside0.mk (blk_below (g := gb272) (o := .cells #[.int .i64 a0_0, .int .i64 a0_1, .int .i64 a0_2, .int .u64 a0_3, .int .u64 a0_4, .int .u64 a0_5] 29 (0, 0)) (by (with_reducible repeat (first | refine blk_drewN ?_ _ | refine blk_drew ?_ | refine blk_alloc ?_ _)); exact BK272.out) hb); have n2_ := Aside0.mk (below_step (by repeat (first | (with_reducible first | exact HB.out | apply below_alloc | apply pw_below_drewN | apply below_drew1 | refine below_set ?_ GE272.out) | exact HB.out)) hb); have n3_ := Aside0.mk (hbox); have n4_ := Aside0.mk ((by rw [hg]; exact (below_size (by repeat (first | (with_reducible first | exact HB.out | apply below_alloc | apply pw_below_drewN | apply below_drew1 | refine below_set ?_ GE272.out) | exact HB.out))) : w.heap.size ≤ gb273)); have n5_ := Aside0.mk ((by rw [hg]; exact (below_size (by repeat (first | (with_reducible first | exact HB.out | apply below_alloc | apply pw_below_drewN | apply below_drew1 | refine below_set ?_ GE272.out) | exact HB.out))) : w.heap.size ≤ gb273)); have n6_ := Aside0.mk ((by rw [hg]; exact Nat.ne_of_lt (blk_lt (g := gb272) (o := .cells #[.int .i64 a0_0, .int .i64 a0_1, .int .i64 a0_2, .int .u64 a0_3, .int .u64 a0_4, .int .u64 a0_5] 29 (0, 0)) (by (with_reducible repeat (first | refine blk_drewN ?_ _ | refine blk_drew ?_ | refine blk_alloc ?_ _)); exact BK272.out)) : gb272 ≠ gb273)); have n7_ := Aside0.mk ((by rw [hg]; exact Nat.ne_of_gt (blk_lt (g := gb272) (o := .cells #[.int .i64 a0_0, .int .i64 a0_1, .int .i64 a0_2, .int .u64 a0_3, .int .u64 a0_4, .int .u64 a0_5] 29 (0, 0)) (by (with_reducible repeat (first | refine blk_drewN ?_ _ | refine blk_drew ?_ | refine blk_alloc ?_ _)); exact BK272.out)) : gb273 ≠ gb272)); clear HO3; clear BK272; clear HB; have HO3 := n0_; have BK272 := n1_; have HB := n2_; have BK273 := n3_; have GW273 := n4_; have GE273 := n5_; have NB272_273 := n6_; have NB273_272 := n7_; clear n0_ n1_ n2_ n3_ n4_ n5_ n6_ n7_; clear hb hbox hg; have hnb38 := NB273_272.out; have hnc38 := NB272_273.out; have hcz39_0 : w37.cell? ⟨gb273, 0, none⟩ = some (.int .u64 a2_0) := (blk_cell BK273.out 0).trans rfl; have hcz39_1 : w37.cell? ⟨gb273, 1, none⟩ = some (.int .u64 a2_1) := (blk_cell BK273.out 1).trans rfl; have hfz39_0 := blk_frozen BK273.out 0; have hfz39_1 := blk_frozen BK273.out 1))
            have n0_ := Aside0.mk (Kd.V_drew HO3.out)
            have n1_ := Aside0.mk (blk_drew BK272.out)
            have n2_ := Aside0.mk (blk_drew BK273.out)
            have n3_ := Aside0.mk (below_drew1 HB.out)
            clear HO3
            clear BK272
            clear BK273
            clear HB
            have HO3 := n0_
            have BK272 := n1_
            have BK273 := n2_
            have HB := n3_
            clear n0_ n1_ n2_ n3_
            refine start_ (n := 14) (S := fun w' => w'.cell? ⟨gb273, 0, none⟩ = some (.int .u64 a2_0) ∧ w'.cell? ⟨gb273, 1, none⟩ = some (.int .u64 a2_1)) (ds := []) #[false, false, false, false, false, false, false, false, false, false, false, false, false, false] (by kernel_rfl) rfl rfl ⟨(blk_cell BK273.out 0).trans rfl, (blk_cell BK273.out 1).trans rfl⟩ (fun hHeld => ?_); refine with_tabW spec_rootIn.tab3 spec_rootIn.bits3 (fun HT_ HW_ => ?_)
            generalize w37.drew = w40 at HO3 BK272 BK273 HB hHeld ⊢
            refine pure_ (i := 0) (N := some 20) (v := ?_) (a' := ?_) #[true, false, false, false, false, false, false, false, false, false, false, false, false, false] rfl rfl (any_of HT_.out (by kernel_rfl)) (fun _ _ _ h => h) (Or.inl ⟨by rfl, ?_⟩) ?_ ?_
            rotate_left
            · intro w'
              go_simp
              with_reducible rfl
            rotate_left
            · simp only [Act.put, List.setIfInBounds_toArray, List.set_cons_zero, List.set_cons_succ, i64_w, i32_w]
              rfl
            refine pure_ (i := 2) (N := some 22) (v := ?_) (a' := ?_) #[true, false, true, false, false, false, false, false, false, false, false, false, false, false] rfl rfl (any_of HT_.out (by kernel_rfl)) (fun _ _ _ h => h) (Or.inl ⟨by rfl, ?_⟩) ?_ ?_
            rotate_left
            · intro w'
              go_simp
              with_reducible rfl
            rotate_left
            · simp only [Act.put, List.setIfInBounds_toArray, List.set_cons_zero, List.set_cons_succ, i64_w, i32_w]
              rfl
            refine pure_ (i := 4) (N := some 24) (v := ?_) (a' := ?_) #[true, false, true, false, true, false, false, false, false, false, false, false, false, false] rfl rfl (any_of HT_.out (by kernel_rfl)) (fun _ _ _ h => h) (Or.inl ⟨by rfl, ?_⟩) ?_ ?_
            rotate_left
            · intro w'
              go_simp
              with_reducible rfl
            rotate_left
            · simp only [Act.put, List.setIfInBounds_toArray, List.set_cons_zero, List.set_cons_succ, i64_w, i32_w]
              rfl
            refine pure_ (i := 9) (N := some 29) (v := ?_) (a' := ?_) #[true, false, true, false, true, false, false, false, false, true, false, false, false, false] rfl rfl (any_of HT_.out (by kernel_rfl)) (fun _ _ _ h => h) (Or.inl ⟨by rfl, ?_⟩) ?_ ?_
            rotate_left
            · intro w'
              go_simp
              with_reducible rfl
            rotate_left
            · simp only [Act.put, List.setIfInBounds_toArray, List.set_cons_zero, List.set_cons_succ, i64_w, i32_w]
              rfl
            refine pure_ (i := 10) (N := some 30) (v := ?_) (a' := ?_) #[true, false, true, false, true, false, false, false, false, true, true, false, false, false] rfl rfl (any_of HT_.out (by kernel_rfl)) (fun _ _ _ h => h) (Or.inl ⟨by rfl, ?_⟩) ?_ ?_
            rotate_left
            · intro w'
              go_simp
              with_reducible rfl
            rotate_left
            · simp only [Act.put, List.setIfInBounds_toArray, List.set_cons_zero, List.set_cons_succ, i64_w, i32_w]
              rfl
            refine pure_ (i := 11) (N := some 31) (v := ?_) (a' := ?_) #[true, false, true, false, true, false, false, false, false, true, true, true, false, false] rfl rfl (any_of HT_.out (by kernel_rfl)) (fun _ _ _ h => h) (Or.inl ⟨by rfl, ?_⟩) ?_ ?_
            rotate_left
            · intro w'
              go_simp
              with_reducible rfl
            rotate_left
            · simp only [Act.put, List.setIfInBounds_toArray, List.set_cons_zero, List.set_cons_succ, i64_w, i32_w]
              rfl
            refine take_ (i := 1) (N := some 21) (v := ?_) (a' := ?_) #[true, true, true, false, true, false, false, false, false, true, true, true, false, false] rfl rfl (take_ofW HT_.out HW_.out (by kernel_rfl)) (fun _ _ _ h => h) (Or.inl ⟨by rfl, ?_⟩) hHeld ?_ ?_
            rotate_left
            · rintro w' ⟨s0, s1⟩
              go_simp
              with_reducible rfl
            rotate_left
            · simp only [Act.put, List.setIfInBounds_toArray, List.set_cons_zero, List.set_cons_succ, i64_w, i32_w]
              rfl
            refine take_ (i := 3) (N := some 23) (v := ?_) (a' := ?_) #[true, true, true, true, true, false, false, false, false, true, true, true, false, false] rfl rfl (take_ofW HT_.out HW_.out (by kernel_rfl)) (fun _ _ _ h => h) (Or.inl ⟨by rfl, ?_⟩) hHeld ?_ ?_
            rotate_left
            · rintro w' ⟨s0, s1⟩
              go_simp
              with_reducible rfl
            rotate_left
            · simp only [Act.put, List.setIfInBounds_toArray, List.set_cons_zero, List.set_cons_succ, i64_w, i32_w]
              rfl
            refine take_ (i := 5) (N := some 25) (v := ?_) (a' := ?_) #[true, true, true, true, true, true, false, false, false, true, true, true, false, false] rfl rfl (take_ofW HT_.out HW_.out (by kernel_rfl)) (fun _ _ _ h => h) (Or.inl ⟨by rfl, ?_⟩) hHeld ?_ ?_
            rotate_left
            · rintro w' ⟨s0, s1⟩
              go_simp
              with_reducible rfl
            rotate_left
            · simp only [Act.put, List.setIfInBounds_toArray, List.set_cons_zero, List.set_cons_succ, i64_w, i32_w]
              rfl
            refine pure_ (i := 6) (N := some 26) (v := ?_) (a' := ?_) #[true, true, true, true, true, true, true, false, false, true, true, true, false, false] rfl rfl (any_of HT_.out (by kernel_rfl)) (fun _ _ _ h => h) (Or.inl ⟨by rfl, ?_⟩) ?_ ?_
            rotate_left
            · intro w'
              go_simp
              with_reducible rfl
            rotate_left
            · simp only [Act.put, List.setIfInBounds_toArray, List.set_cons_zero, List.set_cons_succ, i64_w, i32_w]
              rfl
            refine one_ (i := 7) (N := some 27) #[true, true, true, true, true, true, true, true, false, true, true, true, false, false] rfl rfl (one_of HT_.out (by kernel_rfl)) (by decide) (fun K hK => ?_)
            refine goes_ Try.func39 (by kernel_rfl) rfl #[.int .u64 (IntKind.u64.wrap (a2_1 - a2_0))] (by rfl) rfl rfl (by (try simp only [List.map_toArray, List.map_cons, List.map_nil]); first | done | rfl | (simp only [List.length_drop, List.length_take]; rfl)) ?_
            with_reducible refine (spec_split.calls k (IntKind.u64.wrap (a2_1 - a2_0)) t274 _ A11.out).mono ?_
            rintro e w' ⟨rfl, ⟨nd, rfl⟩⟩
            refine ⟨_, rfl, ?_⟩
            refine hK.out _ _ ⟨(blk_cell BK273.out 0).trans rfl, (blk_cell BK273.out 1).trans rfl⟩ (fun hHeld => ?_)
            clear hK K
            refine norm_ (a' := ?_) ?_ ?_
            rotate_left
            · show Act.put _ (some 27) _ = _
              simp only [Act.put, List.setIfInBounds_toArray, List.set_cons_zero, List.set_cons_succ, i64_w, i32_w]
              rfl
            refine pure_ (i := 8) (N := some 28) (v := ?_) (a' := ?_) #[true, true, true, true, true, true, true, true, true, true, true, true, false, false] rfl rfl (any_of HT_.out (by kernel_rfl)) (fun _ _ _ h => h) (Or.inl ⟨by rfl, ?_⟩) ?_ ?_
            rotate_left
            · intro w'
              go_simp
              with_reducible rfl
            rotate_left
            · simp only [Act.put, List.setIfInBounds_toArray, List.set_cons_zero, List.set_cons_succ, i64_w, i32_w]
              rfl
            refine pure_ (i := 12) (N := some 11) (v := ?_) (a' := ?_) #[true, true, true, true, true, true, true, true, true, true, true, true, true, false] rfl rfl (any_of HT_.out (by kernel_rfl)) (fun _ _ _ h => h) (Or.inl ⟨by rfl, ?_⟩) ?_ ?_
            rotate_left
            · intro w'
              go_simp
              with_reducible rfl
            rotate_left
            · simp only [Act.put, List.setIfInBounds_toArray, List.set_cons_zero, List.set_cons_succ, i64_w, i32_w]
              rfl
            refine pure_ (i := 13) (N := some 12) (v := ?_) (a' := ?_) #[true, true, true, true, true, true, true, true, true, true, true, true, true, true] rfl rfl (any_of HT_.out (by kernel_rfl)) (fun _ _ _ h => h) (Or.inl ⟨by rfl, ?_⟩) ?_ ?_
            rotate_left
            · intro w'
              go_simp
              with_reducible rfl
            rotate_left
            · simp only [Act.put, List.setIfInBounds_toArray, List.set_cons_zero, List.set_cons_succ, i64_w, i32_w]
              rfl
            refine done_ (done_of HT_.out (by kernel_rfl)) ?_
            try go_wp2
            (try (rw [drewN_self w40]; generalize hq_ : World.drewN w40 _ = w40; have n0_ : Aside0 (Kd.V (Kd.int .u8) 5 w40 w.heap.size (fun k_ => (P3_ k_ ∨ w.heap.size ≤ k_) ∧ k_ ≠ gb272 ∧ k_ ≠ gb273) (.slice A3 l3.length c3) l3) := ⟨by rw [← hq_]; exact (by (with_reducible repeat (first | apply Kd.V_alloc | apply Kd.V_drewN | apply Kd.V_drew)); exact Kd.V_mono HO3.out (fun _ hk => ⟨hk.1.1, ⟨hk.1.2, hk.2⟩⟩))⟩; have n1_ : Aside0 (w40.heap[gb272]? = some (.cells #[.int .i64 a0_0, .int .i64 a0_1, .int .i64 a0_2, .int .u64 a0_3, .int .u64 a0_4, .int .u64 a0_5] 29 (0, 0))) := ⟨by rw [← hq_]; exact (by (with_reducible repeat (first | refine blk_drewN ?_ _ | refine blk_drew ?_ | refine blk_alloc ?_ _)); exact BK272.out)⟩; have n2_ : Aside0 (w40.heap[gb273]? = some (.cells #[.int .u64 a2_0, .int .u64 a2_1] 48 (0, 0))) := ⟨by rw [← hq_]; exact (by (with_reducible repeat (first | refine blk_drewN ?_ _ | refine blk_drew ?_ | refine blk_alloc ?_ _)); exact BK273.out)⟩; have n3_ : Aside0 (Below w.heap.size w w40) := ⟨by rw [← hq_]; exact (by repeat (first | (with_reducible first | exact HB.out | apply below_alloc | apply pw_below_drewN | apply below_drew1 | refine below_set ?_ GE272.out | refine below_set ?_ GE273.out) | exact HB.out))⟩; clear HO3 BK272 BK273 HB hq_; have HO3 := n0_; have BK272 := n1_; have BK273 := n2_; have HB := n3_; clear n0_ n1_ n2_ n3_))
            have n0_ := Aside0.mk (Kd.V_drew HO3.out)
            have n1_ := Aside0.mk (blk_drew BK272.out)
            have n2_ := Aside0.mk (blk_drew BK273.out)
            have n3_ := Aside0.mk (below_drew1 HB.out)
            clear HO3
            clear BK272
            clear BK273
            clear HB
            have HO3 := n0_
            have BK272 := n1_
            have BK273 := n2_
            have HB := n3_
            clear n0_ n1_ n2_ n3_
            have p286 : 0 ≤ ((ji29) : Int) := of_decide_eq_true (by first | (with_reducible assumption) | assumption)
            have q286 : (ji29) < (l4.length : Int) := of_decide_eq_true (by first | (with_reducible assumption) | assumption)
            obtain ⟨ad286, A286_0, c286_0, e286, hx286_0, hl286_0, hi286_0⟩ := at_L1 HR4.out (ji29) p286 q286
            have hw286_0 := hx286_0
            cases e286
            replace hx286_0 := (HB.out.cell (World.block_lt_of_cell? w _ hx286_0)).trans hx286_0
            have HR286_0 := Aside0.mk hi286_0
            have HC286_0 := Aside0.mk hl286_0
            clear hi286_0 hl286_0
            replace p286 := eq_true p286
            replace q286 := eq_true q286
            have q42 : ((ji29) : Int) ≤ ((l4.length : Int) : Int) := of_decide_eq_true (by first | (with_reducible assumption) | assumption)
            obtain ⟨i042, hi042, _, hsz42, _⟩ := info_parts info30
            have hroom42 : l4.length ≤ c4 := HC4.out
            have hC42 : Kd.C (Kd.slice 5 (Kd.int .u8)) _ (some ad286) l4.length l4 := HR4.out
            have hcut42 := cut_to (P := Try.prog) 23 30 .i64 Try.underlying23 hi042 (some ad286) l4.length c4 (ji29) (of_decide_eq_true (by first | (with_reducible assumption) | assumption)) q42 hroom42
            have hr42 := Kd.C_take (m := ((ji29) : Int).toNat) hC42 (by omega)
            have hy42 : y287.length = ((ji29) : Int).toNat := (by rw [Ny287.out, List.length_take]; omega)
            rw [← Ny287.out] at hr42
            rw [← hy42] at hcut42
            have HR290 := Aside0.mk hr42
            have HC290 := Aside0.mk (show y287.length ≤ c4 from by omega)
            clear hr42 hC42 hroom42 hi042 hsz42
            have KY42 := Aside0.mk hy42
            clear hy42
            replace q42 := eq_true q42
            refine start_ (n := 18) (S := fun w' => w'.cell? ⟨gb272, 0, none⟩ = some (.int .i64 a0_0) ∧ w'.cell? ⟨gb272, 1, none⟩ = some (.int .i64 a0_1) ∧ w'.cell? ⟨gb272, 2, none⟩ = some (.int .i64 a0_2) ∧ w'.cell? ⟨gb272, 3, none⟩ = some (.int .u64 a0_3) ∧ w'.cell? ⟨gb272, 4, none⟩ = some (.int .u64 a0_4) ∧ w'.cell? ⟨gb272, 5, none⟩ = some (.int .u64 a0_5) ∧ w'.cell? ⟨gb273, 0, none⟩ = some (.int .u64 a2_0) ∧ w'.cell? ⟨gb273, 1, none⟩ = some (.int .u64 a2_1) ∧ w'.cell? (ad286.add ((ji29)).toNat) = some (.slice A286_0 (rd_L1 l4 (ji29)).length c286_0)) (ds := []) #[false, false, false, false, false, false, false, false, false, false, false, false, false, false, false, false, false, false] (by kernel_rfl) rfl rfl ⟨(blk_cell BK272.out 0).trans rfl, (blk_cell BK272.out 1).trans rfl, (blk_cell BK272.out 2).trans rfl, (blk_cell BK272.out 3).trans rfl, (blk_cell BK272.out 4).trans rfl, (blk_cell BK272.out 5).trans rfl, (blk_cell BK273.out 0).trans rfl, (blk_cell BK273.out 1).trans rfl, ((HB.out.cell (World.block_lt_of_cell? w _ hw286_0)).trans hw286_0)⟩ (fun hHeld => ?_); refine with_tabW spec_rootIn.tab6 spec_rootIn.bits6 (fun HT_ HW_ => ?_)
            generalize w40.drew = w41 at HO3 BK272 BK273 HB HR286_0 HR290 hx286_0 hHeld ⊢
            refine pure_ (i := 1) (N := some 53) (v := ?_) (a' := ?_) #[false, true, false, false, false, false, false, false, false, false, false, false, false, false, false, false, false, false] rfl rfl (any_of HT_.out (by kernel_rfl)) (fun _ _ _ h => h) (Or.inl ⟨by rfl, ?_⟩) ?_ ?_
            rotate_left
            · intro w'
              go_simp
              with_reducible rfl
            rotate_left
            · simp only [Act.put, List.setIfInBounds_toArray, List.set_cons_zero, List.set_cons_succ, i64_w, i32_w]
              rfl
            refine pure_ (i := 2) (N := some 54) (v := ?_) (a' := ?_) #[false, true, true, false, false, false, false, false, false, false, false, false, false, false, false, false, false, false] rfl rfl (any_of HT_.out (by kernel_rfl)) (fun _ _ _ h => h) (Or.inl ⟨by rfl, ?_⟩) ?_ ?_
            rotate_left
            · intro w'
              go_simp
              with_reducible rfl
            rotate_left
            · simp only [Act.put, List.setIfInBounds_toArray, List.set_cons_zero, List.set_cons_succ, i64_w, i32_w]
              rfl
            refine pure_ (i := 3) (N := some 55) (v := ?_) (a' := ?_) #[false, true, true, true, false, false, false, false, false, false, false, false, false, false, false, false, false, false] rfl rfl (any_of HT_.out (by kernel_rfl)) (fun _ _ _ h => h) (Or.inl ⟨by rfl, ?_⟩) ?_ ?_
            rotate_left
            · intro w'
              go_simp
              with_reducible rfl
            rotate_left
            · simp only [Act.put, List.setIfInBounds_toArray, List.set_cons_zero, List.set_cons_succ, i64_w, i32_w]
              rfl
            refine pure_ (i := 6) (N := some 58) (v := ?_) (a' := ?_) #[false, true, true, true, false, false, true, false, false, false, false, false, false, false, false, false, false, false] rfl rfl (any_of HT_.out (by kernel_rfl)) (fun _ _ _ h => h) (Or.inl ⟨by rfl, ?_⟩) ?_ ?_
            rotate_left
            · intro w'
              go_simp
              with_reducible rfl
            rotate_left
            · simp only [Act.put, List.setIfInBounds_toArray, List.set_cons_zero, List.set_cons_succ, i64_w, i32_w]
              rfl
            refine pure_ (i := 7) (N := some 59) (v := ?_) (a' := ?_) #[false, true, true, true, false, false, true, true, false, false, false, false, false, false, false, false, false, false] rfl rfl (any_of HT_.out (by kernel_rfl)) (fun _ _ _ h => h) (Or.inl ⟨by rfl, ?_⟩) ?_ ?_
            rotate_left
            · intro w'
              go_simp
              with_reducible rfl
            rotate_left
            · simp only [Act.put, List.setIfInBounds_toArray, List.set_cons_zero, List.set_cons_succ, i64_w, i32_w]
              rfl
            refine pure_ (i := 8) (N := some 60) (v := ?_) (a' := ?_) #[false, true, true, true, false, false, true, true, true, false, false, false, false, false, false, false, false, false] rfl rfl (any_of HT_.out (by kernel_rfl)) (fun _ _ _ h => h) (Or.inl ⟨by rfl, ?_⟩) ?_ ?_
            rotate_left
            · intro w'
              go_simp
              with_reducible rfl
            rotate_left
            · simp only [Act.put, List.setIfInBounds_toArray, List.set_cons_zero, List.set_cons_succ, i64_w, i32_w]
              rfl
            refine pure_ (i := 11) (N := some 63) (v := ?_) (a' := ?_) #[false, true, true, true, false, false, true, true, true, false, false, true, false, false, false, false, false, false] rfl rfl (any_of HT_.out (by kernel_rfl)) (fun _ _ _ h => h) (Or.inl ⟨by rfl, ?_⟩) ?_ ?_
            rotate_left
            · intro w'
              go_simp
              with_reducible rfl
            rotate_left
            · simp only [Act.put, List.setIfInBounds_toArray, List.set_cons_zero, List.set_cons_succ, i64_w, i32_w]
              rfl
            refine pure_ (i := 12) (N := some 64) (v := ?_) (a' := ?_) #[false, true, true, true, false, false, true, true, true, false, false, true, true, false, false, false, false, false] rfl rfl (any_of HT_.out (by kernel_rfl)) (fun _ _ _ h => h) (Or.inl ⟨by rfl, ?_⟩) ?_ ?_
            rotate_left
            · intro w'
              go_simp
              with_reducible rfl
            rotate_left
            · simp only [Act.put, List.setIfInBounds_toArray, List.set_cons_zero, List.set_cons_succ, i64_w, i32_w]
              rfl
            refine pure_ (i := 13) (N := some 65) (v := ?_) (a' := ?_) #[false, true, true, true, false, false, true, true, true, false, false, true, true, true, false, false, false, false] rfl rfl (any_of HT_.out (by kernel_rfl)) (fun _ _ _ h => h) (Or.inl ⟨by rfl, ?_⟩) ?_ ?_
            rotate_left
            · intro w'
              go_simp
              with_reducible rfl
            rotate_left
            · simp only [Act.put, List.setIfInBounds_toArray, List.set_cons_zero, List.set_cons_succ, i64_w, i32_w]
              rfl
            refine pure_ (i := 14) (N := some 66) (v := ?_) (a' := ?_) #[false, true, true, true, false, false, true, true, true, false, false, true, true, true, true, false, false, false] rfl rfl (any_of HT_.out (by kernel_rfl)) (fun _ _ _ h => h) (Or.inl ⟨by rfl, ?_⟩) ?_ ?_
            rotate_left
            · intro w'
              go_simp
              with_reducible rfl
            rotate_left
            · simp only [Act.put, List.setIfInBounds_toArray, List.set_cons_zero, List.set_cons_succ, i64_w, i32_w]
              rfl
            refine take_ (i := 0) (N := some 52) (v := ?_) (a' := ?_) #[true, true, true, true, false, false, true, true, true, false, false, true, true, true, true, false, false, false] rfl rfl (take_ofW HT_.out HW_.out (by kernel_rfl)) (fun _ _ _ h => h) (Or.inl ⟨by rfl, ?_⟩) hHeld ?_ ?_
            rotate_left
            · rintro w' ⟨s0, s1, s2, s3, s4, s5, s6, s7, s8⟩
              go_simp
              with_reducible rfl
            rotate_left
            · simp only [Act.put, List.setIfInBounds_toArray, List.set_cons_zero, List.set_cons_succ, i64_w, i32_w]
              rfl
            refine take_ (i := 4) (N := some 56) (v := ?_) (a' := ?_) #[true, true, true, true, true, false, true, true, true, false, false, true, true, true, true, false, false, false] rfl rfl (take_ofW HT_.out HW_.out (by kernel_rfl)) (fun _ _ _ h => h) (Or.inl ⟨by rfl, ?_⟩) hHeld ?_ ?_
            rotate_left
            · rintro w' ⟨s0, s1, s2, s3, s4, s5, s6, s7, s8⟩
              go_simp
              with_reducible rfl
            rotate_left
            · simp only [Act.put, List.setIfInBounds_toArray, List.set_cons_zero, List.set_cons_succ, i64_w, i32_w]
              rfl
            refine take_ (i := 5) (N := some 57) (v := ?_) (a' := ?_) #[true, true, true, true, true, true, true, true, true, false, false, true, true, true, true, false, false, false] rfl rfl (take_ofW HT_.out HW_.out (by kernel_rfl)) (fun _ _ _ h => h) (Or.inl ⟨by rfl, ?_⟩) hHeld ?_ ?_
            rotate_left
            · rintro w' ⟨s0, s1, s2, s3, s4, s5, s6, s7, s8⟩
              go_simp
              with_reducible rfl
            rotate_left
            · simp only [Act.put, List.setIfInBounds_toArray, List.set_cons_zero, List.set_cons_succ, i64_w, i32_w]
              rfl
            refine take_ (i := 9) (N := some 61) (v := ?_) (a' := ?_) #[true, true, true, true, true, true, true, true, true, true, false, true, true, true, true, false, false, false] rfl rfl (take_ofW HT_.out HW_.out (by kernel_rfl)) (fun _ _ _ h => h) (Or.inl ⟨by rfl, ?_⟩) hHeld ?_ ?_
            rotate_left
            · rintro w' ⟨s0, s1, s2, s3, s4, s5, s6, s7, s8⟩
              go_simp
              with_reducible rfl
            rotate_left
            · simp only [Act.put, List.setIfInBounds_toArray, List.set_cons_zero, List.set_cons_succ, i64_w, i32_w]
              rfl
            refine pure_ (i := 10) (N := some 62) (v := ?_) (a' := ?_) #[true, true, true, true, true, true, true, true, true, true, true, true, true, true, true, false, false, false] rfl rfl (any_of HT_.out (by kernel_rfl)) (fun _ _ _ h => h) (Or.inl ⟨by rfl, ?_⟩) ?_ ?_
            rotate_left
            · intro w'
              go_simp
              with_reducible rfl
            rotate_left
            · simp only [Act.put, List.setIfInBounds_toArray, List.set_cons_zero, List.set_cons_succ, i64_w, i32_w]
              rfl
            refine one_ (i := 15) (N := some 67) #[true, true, true, true, true, true, true, true, true, true, true, true, true, true, true, true, false, false] rfl rfl (one_of HT_.out (by kernel_rfl)) (by decide) (fun K hK => ?_)
            refine goes_ Try.func44 (by kernel_rfl) rfl #[.agg #[.int .i64 a0_0, .int .i64 a0_1, .int .i64 a0_2, .int .u64 a0_3, .int .u64 a0_4, .int .u64 a0_5], .int .u64 a1, .agg #[.int .u64 (IntKind.u64.wrap (a2_0 + t274)), .int .u64 a2_1], .slice A3 l3.length c3, .slice (some ad286) y287.length c4] (by rfl) rfl rfl (by (try simp only [List.map_toArray, List.map_cons, List.map_nil]); first | done | rfl | (simp only [List.length_drop, List.length_take]; rfl)) ?_
            with_reducible refine (ih k (by omega) a0_0 a0_1 a0_2 a0_3 a0_4 a0_5 a1 (IntKind.u64.wrap (a2_0 + t274)) a2_1 (fun k_ => (((P3_ k_ ∨ w.heap.size ≤ k_) ∧ k_ ≠ gb272) ∧ k_ ≠ gb273)) _ _ l3 _ _ y287 t291 _ ?side1 ?side2 ?side3 A34.out).mono ?_
            (case side1 => first | exact HO3.out | exact Kd.V_mono HO3.out (fun k_ h_ => by simp only [and_assoc] at h_ ⊢; exact h_))
            (case side2 => repeat (first | exact (Kd.C_below HR290.out HB.out) | (with_reducible refine Kd.C_alloc ?_ _) | (with_reducible refine Kd.C_drewN ?_ _) | (with_reducible refine Kd.C_drew ?_)))
            (case side3 => exact HC290.out)
            rintro e w43 ⟨v292, rfl, ho0, hb⟩
            refine ⟨_, rfl, ?_⟩
            have n0_ := Aside0.mk (Kd.V_below (by (with_reducible repeat (first | apply Kd.V_alloc | apply Kd.V_drewN | apply Kd.V_drew)); exact HO3.out) hb)
            have n1_ := Aside0.mk (Kd.V_lower (Kd.V_mono (ok' := fun k_ => (P3_ k_ ∨ w.heap.size ≤ k_) ∧ k_ ≠ gb272 ∧ k_ ≠ gb273) ho0 (fun k_ hk_ => ⟨Or.elim hk_ (fun hs_ => hs_.1.1) (fun hn_ => (.inr (Nat.le_trans (below_size (by repeat (first | (with_reducible first | exact HB.out | apply below_alloc | apply pw_below_drewN | apply below_drew1 | refine below_set ?_ GE272.out | refine below_set ?_ GE273.out) | exact HB.out))) hn_))), Or.elim hk_ (fun hs_ => hs_.1.2) (fun hn_ => (Kd.freshB (g := gb272) (o := .cells #[.int .i64 a0_0, .int .i64 a0_1, .int .i64 a0_2, .int .u64 a0_3, .int .u64 a0_4, .int .u64 a0_5] 29 (0, 0)) (by (with_reducible repeat (first | refine blk_drewN ?_ _ | refine blk_drew ?_ | refine blk_alloc ?_ _)); exact BK272.out) k_ hn_)), Or.elim hk_ (fun hs_ => hs_.2) (fun hn_ => (Kd.freshB (g := gb273) (o := .cells #[.int .u64 a2_0, .int .u64 a2_1] 48 (0, 0)) (by (with_reducible repeat (first | refine blk_drewN ?_ _ | refine blk_drew ?_ | refine blk_alloc ?_ _)); exact BK273.out) k_ hn_))⟩)) (below_size (by repeat (first | (with_reducible first | exact HB.out | apply below_alloc | apply pw_below_drewN | apply below_drew1 | refine below_set ?_ GE272.out | refine below_set ?_ GE273.out) | exact HB.out))))
            have n2_ := Aside0.mk (blk_below (g := gb272) (o := .cells #[.int .i64 a0_0, .int .i64 a0_1, .int .i64 a0_2, .int .u64 a0_3, .int .u64 a0_4, .int .u64 a0_5] 29 (0, 0)) (by (with_reducible repeat (first | refine blk_drewN ?_ _ | refine blk_drew ?_ | refine blk_alloc ?_ _)); exact BK272.out) hb)
            have n3_ := Aside0.mk (blk_below (g := gb273) (o := .cells #[.int .u64 a2_0, .int .u64 a2_1] 48 (0, 0)) (by (with_reducible repeat (first | refine blk_drewN ?_ _ | refine blk_drew ?_ | refine blk_alloc ?_ _)); exact BK273.out) hb)
            have n4_ := Aside0.mk (below_step (by repeat (first | (with_reducible first | exact HB.out | apply below_alloc | apply pw_below_drewN | apply below_drew1 | refine below_set ?_ GE272.out | refine below_set ?_ GE273.out) | exact HB.out)) hb)
            clear HO3
            clear BK272
            clear BK273
            clear HB
            have HO3 := n0_
            have HO293 := n1_
            have BK272 := n2_
            have BK273 := n3_
            have HB := n4_
            clear n0_ n1_ n2_ n3_ n4_
            (try clear hb)
            (try clear hb2)
            (try clear hk)
            (try clear hi)
            (try clear ho0)
            obtain ⟨Ao44, co44, eo44⟩ := Kd.V_slice HO293.out
            (first | subst eo44 | (injection eo44 with f1_ f2_ f3_; have f4_ := f1_.symm; have f5_ := f3_.symm; clear f1_ f2_ f3_; subst f4_; subst f5_))
            refine hK.out _ _ ⟨(blk_cell BK272.out 0).trans rfl, (blk_cell BK272.out 1).trans rfl, (blk_cell BK272.out 2).trans rfl, (blk_cell BK272.out 3).trans rfl, (blk_cell BK272.out 4).trans rfl, (blk_cell BK272.out 5).trans rfl, (blk_cell BK273.out 0).trans rfl, (blk_cell BK273.out 1).trans rfl, ((HB.out.cell (World.block_lt_of_cell? w _ hw286_0)).trans hw286_0)⟩ (fun hHeld => ?_)
            clear hK K
            refine norm_ (a' := ?_) ?_ ?_
            rotate_left
            · show Act.put _ (some 67) _ = _
              simp only [Act.put, List.setIfInBounds_toArray, List.set_cons_zero, List.set_cons_succ, i64_w, i32_w]
              rfl
            refine one_ (i := 16) (N := some 68) #[true, true, true, true, true, true, true, true, true, true, true, true, true, true, true, true, true, false] rfl rfl (one_of HT_.out (by kernel_rfl)) (by decide) (fun K hK => ?_)
            refine goes_ Try.func48 (by kernel_rfl) rfl #[.agg #[.int .i64 a0_0, .int .i64 a0_1, .int .i64 a0_2, .int .u64 a0_3, .int .u64 a0_4, .int .u64 a0_5], .slice A286_0 (rd_L1 l4 (ji29)).length c286_0, .slice Ao44 t291.length co44] (by rfl) rfl rfl (by (try simp only [List.map_toArray, List.map_cons, List.map_nil]); first | done | (simp only [hji29]; rfl) | rfl | (simp only [List.length_drop, List.length_take]; rfl)) ?_
            with_reducible refine (spec_HashChildren.calls k a0_0 a0_1 a0_2 a0_3 a0_4 a0_5 _ _ (rd_L1 l4 (ji29)) _ _ t291 t294 _ ?side1 ?side2 ?side3 ?side4 A35.out).mono ?_
            (case side1 => repeat (first | exact (Kd.C_below HR286_0.out HB.out) | (with_reducible refine Kd.C_alloc ?_ _) | (with_reducible refine Kd.C_drewN ?_ _) | (with_reducible refine Kd.C_drew ?_)))
            (case side2 => exact HC286_0.out)
            (case side3 => repeat (first | exact (Kd.V_reads' HO293.out).2.2 | (with_reducible refine Kd.C_alloc ?_ _) | (with_reducible refine Kd.C_drewN ?_ _) | (with_reducible refine Kd.C_drew ?_)))
            (case side4 => exact (Kd.V_reads' HO293.out).2.1)
            rintro e w45 ⟨v295, rfl, ho0, hb⟩
            refine ⟨_, rfl, ?_⟩
            have n0_ := Aside0.mk (Kd.V_elder' (by (with_reducible repeat (first | apply Kd.V_alloc | apply Kd.V_drewN | apply Kd.V_drew)); exact HO3.out) (Kd.R_base ho0) hb)
            have n1_ := Aside0.mk (Kd.V_elder' (by (with_reducible repeat (first | apply Kd.V_alloc | apply Kd.V_drewN | apply Kd.V_drew)); exact HO293.out) (Kd.R_base ho0) hb)
            have n2_ := Aside0.mk (Kd.R_lower (Kd.R_newM (M := fun k_ => (w.heap.size ≤ k_)) ho0 (below_size (by repeat (first | (with_reducible first | exact HB.out | apply below_alloc | apply pw_below_drewN | apply below_drew1 | refine below_set ?_ GE272.out | refine below_set ?_ GE273.out) | exact HB.out))) (fun k_ h_ => h_)) (below_size (by repeat (first | (with_reducible first | exact HB.out | apply below_alloc | apply pw_below_drewN | apply below_drew1 | refine below_set ?_ GE272.out | refine below_set ?_ GE273.out) | exact HB.out))))
            have n3_ := Aside0.mk (blk_below (g := gb272) (o := .cells #[.int .i64 a0_0, .int .i64 a0_1, .int .i64 a0_2, .int .u64 a0_3, .int .u64 a0_4, .int .u64 a0_5] 29 (0, 0)) (by (with_reducible repeat (first | refine blk_drewN ?_ _ | refine blk_drew ?_ | refine blk_alloc ?_ _)); exact BK272.out) hb)
            have n4_ := Aside0.mk (blk_below (g := gb273) (o := .cells #[.int .u64 a2_0, .int .u64 a2_1] 48 (0, 0)) (by (with_reducible repeat (first | refine blk_drewN ?_ _ | refine blk_drew ?_ | refine blk_alloc ?_ _)); exact BK273.out) hb)
            have n5_ := Aside0.mk (below_step (by repeat (first | (with_reducible first | exact HB.out | apply below_alloc | apply pw_below_drewN | apply below_drew1 | refine below_set ?_ GE272.out | refine below_set ?_ GE273.out) | exact HB.out)) hb)
            clear HO3
            clear HO293
            clear BK272
            clear BK273
            clear HB
            have HO3 := n0_
            have HO293 := n1_
            have HO296 := n2_
            have BK272 := n3_
            have BK273 := n4_
            have HB := n5_
            clear n0_ n1_ n2_ n3_ n4_ n5_
            (try clear hb)
            (try clear hb2)
            (try clear hk)
            (try clear hi)
            (try clear ho0)
            refine hK.out _ _ ⟨(blk_cell BK272.out 0).trans rfl, (blk_cell BK272.out 1).trans rfl, (blk_cell BK272.out 2).trans rfl, (blk_cell BK272.out 3).trans rfl, (blk_cell BK272.out 4).trans rfl, (blk_cell BK272.out 5).trans rfl, (blk_cell BK273.out 0).trans rfl, (blk_cell BK273.out 1).trans rfl, ((HB.out.cell (World.block_lt_of_cell? w _ hw286_0)).trans hw286_0)⟩ (fun hHeld => ?_)
            clear hK K
            refine norm_ (a' := ?_) ?_ ?_
            rotate_left
            · show Act.put _ (some 68) _ = _
              simp only [Act.put, List.setIfInBounds_toArray, List.set_cons_zero, List.set_cons_succ, i64_w, i32_w]
              rfl
            refine pure_ (i := 17) (N := some 10) (v := ?_) (a' := ?_) #[true, true, true, true, true, true, true, true, true, true, true, true, true, true, true, true, true, true] rfl rfl (any_of HT_.out (by kernel_rfl)) (fun _ _ _ h => h) (Or.inl ⟨by rfl, ?_⟩) ?_ ?_
            rotate_left
            · intro w'
              go_simp
              with_reducible rfl
            rotate_left
            · simp only [Act.put, List.setIfInBounds_toArray, List.set_cons_zero, List.set_cons_succ, i64_w, i32_w]
              rfl
            refine done_ (done_of HT_.out (by kernel_rfl)) ?_
            try go_wp2
            go_ret
            exact ⟨_, by first | rfl | (simp [errW_none, errW_some] <;> rfl) | (simp only [← hji29]; first | rfl | (simp [errW_none, errW_some] <;> rfl)) | (simp [*, errW_none, errW_some] <;> rfl), Kd.V_mono (Kd.R_V (by (with_reducible repeat (first | apply Kd.R_alloc | apply Kd.R_drewN | apply Kd.R_drew)); exact Kd.R_mono HO296.out (fun _ hk => hk.1))) (fun k_ hk => by first | exact ⟨(.inr (hk.1)), hk.2⟩ | exact (.inr (hk))), by repeat (first | (with_reducible first | exact HB.out | apply below_alloc | apply pw_below_drewN | apply below_drew1 | refine below_set ?_ GE272.out | refine below_set ?_ GE273.out) | exact HB.out)⟩
          · rw [if_neg c33] at H
            exact absurd H (by simp)
        · rw [if_neg c31] at H
          exact absurd H (by simp)
      · rw [if_neg c30] at H
        exact absurd H (by simp)

end Go.Proofs.Ytkmdkmlgahfcpaa.M

namespace Go.Proofs.Ytkmdkmlgahfcpaa.M
open Go.RowKit Go.Proofs.YtkmdkmlgahfcpaaW.PrintWords Go.Proofs.YtkmdkmlgahfcpaaW.PrintLast Go.Proofs.YtkmdkmlgahfcpaaW.PrintMore
attribute [local go_sem] max2_int min2_int max_two min_two max_three min_three max_four min_four   -- for this text's walks alone
set_option linter.unusedVariables false
set_option linter.unusedSimpArgs false

/-! ### spec_RootFromPath: function 33 -/
def spec_RootFromPath.f (k : Nat) (a0_0 : Int) (a0_1 : Int) (a0_2 : Int) (a0_3 : Int) (a0_4 : Int) (a0_5 : Int) (a1 : Int) (a2 : Int) (l3 : List Int) (l4 : List (List Int)) : Option (List Int) := (spec_rootIn.f k a0_0 a0_1 a0_2 a0_3 a0_4 a0_5 a1 0 a2 l3 l4).bind fun t298 => (some t298)
theorem spec_RootFromPath.mono : ∀ a0 a1 a2 a3 a4 a5 a6 a7 a8 a9 k, LeO (spec_RootFromPath.f k a0 a1 a2 a3 a4 a5 a6 a7 a8 a9) (spec_RootFromPath.f (k + 1) a0 a1 a2 a3 a4 a5 a6 a7 a8 a9) := by
  intro a0 a1 a2 a3 a4 a5 a6 a7 a8 a9 k
  unfold spec_RootFromPath.f
  repeat' first
      | (with_reducible exact spec_rootIn.mono _ _ _ _ _ _ _ _ _ _ _ _)
      | (with_reducible exact LeO.refl _)
      | (with_reducible exact LeO.none _)
      | (with_reducible refine LeO.ite ?_ ?_)
      | (with_reducible refine LeO.bind ?_ (fun _ => ?_))
      | exact spec_rootIn.mono _ _ _ _ _ _ _ _ _ _ _ _
      | exact LeO.none _
      | refine LeO.ite ?_ ?_
      | refine LeO.bind ?_ (fun _ => ?_)
set_option maxHeartbeats 8000000 in
set_option maxRecDepth 100000 in
theorem spec_RootFromPath.calls (k : Nat) (a0_0 : Int) (a0_1 : Int) (a0_2 : Int) (a0_3 : Int) (a0_4 : Int) (a0_5 : Int) (a1 : Int) (a2 : Int) (P3_ : Nat → Prop) (A3 : Option Addr) (c3 : Nat) (l3 : List Int) (A4 : Option Addr) (c4 : Nat) (l4 : List (List Int)) (r : List Int) (w : World) (hs3 : Kd.V (Kd.int .u8) 5 w w.heap.size (fun k_ => P3_ k_) (.slice A3 l3.length c3) l3) (hr4 : Kd.C (Kd.slice 5 (Kd.int .u8)) w A4 l4.length l4) (hc4 : l4.length ≤ c4) (h : spec_RootFromPath.f k a0_0 a0_1 a0_2 a0_3 a0_4 a0_5 a1 a2 l3 l4 = some r) :
    Calls Try.prog 33 #[.agg #[.int .i64 a0_0, .int .i64 a0_1, .int .i64 a0_2, .int .u64 a0_3, .int .u64 a0_4, .int .u64 a0_5], .int .u64 a1, .int .u64 a2, .slice A3 l3.length c3, .slice A4 l4.length c4] w fun e w' => ∃ v0_ : Value, e = .returned (v0_) ∧ Kd.V (Kd.int .u8) 5 w' w.heap.size (fun k_ => (P3_ k_ ∨ w.heap.size ≤ k_)) v0_ r ∧ Below w.heap.size w w' := by
  have hu29 := Try.underlying29
  have hu48 := Try.underlying48
  have HO3 := Aside0.mk (show Kd.V (Kd.int .u8) 5 w w.heap.size (fun k_ => (P3_ k_ ∨ w.heap.size ≤ k_)) (.slice A3 l3.length c3) l3 from Kd.V_mono hs3 (fun k_ hk => .inl hk))
  have HR4 := Aside0.mk hr4
  have HC4 := Aside0.mk hc4
  clear hr4 hc4
  have HB := Aside0.mk (Below.refl w.heap.size w)
  have H : ((spec_rootIn.f k a0_0 a0_1 a0_2 a0_3 a0_4 a0_5 a1 0 a2 l3 l4).bind fun t298 => (some t298)) = some r := h
  clear h
  replace H := Option.bind_eq_some_iff.mp H
  obtain ⟨t298, A60, H⟩ := H
  replace H : (some t298) = some r := H
  have A6 := Aside0.mk A60
  clear A60
  obtain rfl := Option.some.inj H
  go_enter Try.func33, Try.ntmps33
  go_wp2_with (first | ((with_reducible refine gate_dst (N := 5) rfl ?_); refine box_event ?hg (N := 5) ?hd (cs := #[.int .i64 a0_0, .int .i64 a0_1, .int .i64 a0_2, .int .u64 a0_3, .int .u64 a0_4, .int .u64 a0_5]) (t := 29) ?hr ?_; (case hd => rfl); (case hg => rfl); (case hr => first | (go_simp; done) | (go_simp; rfl)); intro gb297 hg w7 hbox hb; have n0_ := Aside0.mk (Kd.V_below (Kd.V_elderB (by (with_reducible repeat (first | apply Kd.V_alloc | apply Kd.V_drewN | apply Kd.V_drew)); exact HO3.out) gb297 (Nat.le_of_eq hg.symm)) hb); have n1_ := Aside0.mk (below_step (by repeat (first | (with_reducible first | exact HB.out | apply below_alloc | apply pw_below_drewN | apply below_drew1) | exact HB.out)) hb); have n2_ := Aside0.mk (hbox); have n3_ := Aside0.mk ((by rw [hg]; exact (below_size (by repeat (first | (with_reducible first | exact HB.out | apply below_alloc | apply pw_below_drewN | apply below_drew1) | exact HB.out))) : w.heap.size ≤ gb297)); have n4_ := Aside0.mk ((by rw [hg]; exact (below_size (by repeat (first | (with_reducible first | exact HB.out | apply below_alloc | apply pw_below_drewN | apply below_drew1) | exact HB.out))) : w.heap.size ≤ gb297)); clear HO3; clear HB; have HO3 := n0_; have HB := n1_; have BK297 := n2_; have GW297 := n3_; have GE297 := n4_; clear n0_ n1_ n2_ n3_ n4_; clear hb hbox hg; have hcz8_0 : w7.cell? ⟨gb297, 0, none⟩ = some (.int .i64 a0_0) := (blk_cell BK297.out 0).trans rfl; have hcz8_1 : w7.cell? ⟨gb297, 1, none⟩ = some (.int .i64 a0_1) := (blk_cell BK297.out 1).trans rfl; have hcz8_2 : w7.cell? ⟨gb297, 2, none⟩ = some (.int .i64 a0_2) := (blk_cell BK297.out 2).trans rfl; have hcz8_3 : w7.cell? ⟨gb297, 3, none⟩ = some (.int .u64 a0_3) := (blk_cell BK297.out 3).trans rfl; have hcz8_4 : w7.cell? ⟨gb297, 4, none⟩ = some (.int .u64 a0_4) := (blk_cell BK297.out 4).trans rfl; have hcz8_5 : w7.cell? ⟨gb297, 5, none⟩ = some (.int .u64 a0_5) := (blk_cell BK297.out 5).trans rfl; have hfz8_0 := blk_frozen BK297.out 0; have hfz8_1 := blk_frozen BK297.out 1; have hfz8_2 := blk_frozen BK297.out 2; have hfz8_3 := blk_frozen BK297.out 3; have hfz8_4 := blk_frozen BK297.out 4; have hfz8_5 := blk_frozen BK297.out 5) | ((with_reducible refine gate_callee (f := 44) rfl ?_); refine goesL_ (some 17) rfl rfl Try.func44 (by kernel_rfl) rfl #[.agg #[.int .i64 a0_0, .int .i64 a0_1, .int .i64 a0_2, .int .u64 a0_3, .int .u64 a0_4, .int .u64 a0_5], .int .u64 a1, .agg #[.int .u64 0, .int .u64 a2], .slice A3 l3.length c3, .slice A4 l4.length c4] rfl (by (try simp only [List.map_toArray, List.map_cons, List.map_nil]); first | done | rfl | (simp only [List.length_drop, List.length_take]; rfl)) ?_; (with_reducible refine (spec_rootIn.calls k a0_0 a0_1 a0_2 a0_3 a0_4 a0_5 a1 0 a2 (fun k_ => ((P3_ k_ ∨ w.heap.size ≤ k_) ∧ k_ ≠ gb297)) _ _ l3 _ _ l4 t298 _ ?side1 ?side2 ?side3 A6.out).mono ?_); (case side1 => first | exact HO3.out | exact Kd.V_mono HO3.out (fun k_ h_ => by simp only [and_assoc] at h_ ⊢; exact h_)); (case side2 => repeat (first | exact (Kd.C_below HR4.out HB.out) | (with_reducible refine Kd.C_alloc ?_ _) | (with_reducible refine Kd.C_drewN ?_ _) | (with_reducible refine Kd.C_drew ?_))); (case side3 => exact HC4.out); rintro e w9 ⟨v299, rfl, ho0, hb⟩; refine ⟨_, rfl, ?_⟩; have n0_ := Aside0.mk (Kd.V_below (by (with_reducible repeat (first | apply Kd.V_alloc | apply Kd.V_drewN | apply Kd.V_drew)); exact HO3.out) hb); have n1_ := Aside0.mk (Kd.V_lower (Kd.V_mono (ok' := fun k_ => (P3_ k_ ∨ w.heap.size ≤ k_) ∧ k_ ≠ gb297) ho0 (fun k_ hk_ => ⟨Or.elim hk_ (fun hs_ => hs_.1) (fun hn_ => (.inr (Nat.le_trans (below_size (by repeat (first | (with_reducible first | exact HB.out | apply below_alloc | apply pw_below_drewN | apply below_drew1 | refine below_set ?_ GE297.out) | exact HB.out))) hn_))), Or.elim hk_ (fun hs_ => hs_.2) (fun hn_ => (Kd.freshB (g := gb297) (o := .cells #[.int .i64 a0_0, .int .i64 a0_1, .int .i64 a0_2, .int .u64 a0_3, .int .u64 a0_4, .int .u64 a0_5] 29 (0, 0)) (by (with_reducible repeat (first | refine blk_drewN ?_ _ | refine blk_drew ?_ | refine blk_alloc ?_ _)); exact BK297.out) k_ hn_))⟩)) (below_size (by repeat (first | (with_reducible first | exact HB.out | apply below_alloc | apply pw_below_drewN | apply below_drew1 | refine below_set ?_ GE297.out) | exact HB.out)))); have n2_ := Aside0.mk (blk_below (g := gb297) (o := .cells #[.int .i64 a0_0, .int .i64 a0_1, .int .i64 a0_2, .int .u64 a0_3, .int .u64 a0_4, .int .u64 a0_5] 29 (0, 0)) (by (with_reducible repeat (first | refine blk_drewN ?_ _ | refine blk_drew ?_ | refine blk_alloc ?_ _)); exact BK297.out) hb); have n3_ := Aside0.mk (below_step (by repeat (first | (with_reducible first | exact HB.out | apply below_alloc | apply pw_below_drewN | apply below_drew1 | refine below_set ?_ GE297.out) | exact HB.out)) hb); clear HO3; clear BK297; clear HB; have HO3 := n0_; have HO300 := n1_; have BK297 := n2_; have HB := n3_; clear n0_ n1_ n2_ n3_; (try clear hb); (try clear hb2); (try clear hk); (try clear hi); (try clear ho0)))
  go_ret
  exact ⟨_, by first | rfl | (simp [errW_none, errW_some] <;> rfl) | (simp [*, errW_none, errW_some] <;> rfl), by (with_reducible repeat (first | apply Kd.V_alloc | apply Kd.V_drewN | apply Kd.V_drew)); exact Kd.V_mono HO300.out (fun _ hk => hk.1), by repeat (first | (with_reducible first | exact HB.out | apply below_alloc | apply pw_below_drewN | apply below_drew1 | refine below_set ?_ GE297.out) | exact HB.out)⟩

end Go.Proofs.Ytkmdkmlgahfcpaa.M

namespace Go.Proofs.Ytkmdkmlgahfcpaa.M
open Go.RowKit Go.Proofs.YtkmdkmlgahfcpaaW.PrintWords Go.Proofs.YtkmdkmlgahfcpaaW.PrintLast Go.Proofs.YtkmdkmlgahfcpaaW.PrintMore
attribute [local go_sem] max2_int min2_int max_two min_two max_three min_three max_four min_four   -- for this text's walks alone
set_option linter.unusedVariables false
set_option linter.unusedSimpArgs false

/-! ### spec_VerifiedInclusion: function 19 -/
def spec_VerifiedInclusion.j0 : Nat → Int → Int → List Int → List (List Int) → List Int → Bool → Int → Int → Int → Int → Int → Int → Option (Int × List Int)
  | 0, _, _, _, _, _, _, _, _, _, _, _, _ => none
  | k + 1, x1, x2, x3, x4, x5, x33, x302000, x302001, x302002, x302003, x302004, x302005 => if x33 = true then (some (2, ([] : List Int))) else ((spec_RootFromPath.f k x302000 x302001 x302002 x302003 x302004 x302005 x1 x2 x3 x4).bind fun t305 => ((spec_SameText.f t305 x5).bind fun t308 => (if t308 = true then (some (0, ([] : List Int))) else (some (1, t305)))))
def spec_VerifiedInclusion.f (k : Nat) (a0_0 : Int) (a0_1 : Int) (a0_2 : Int) (a0_3 : Int) (a0_4 : Int) (a0_5 : Int) (a1 : Int) (a2 : Int) (l3 : List Int) (l4 : List (List Int)) (l5 : List Int) : Option (Int × List Int) := if a1 ≥ a2 then (spec_VerifiedInclusion.j0 k a1 a2 l3 l4 l5 true a0_0 a0_1 a0_2 a0_3 a0_4 a0_5) else (if (l3.length : Int) = a0_1 then ((spec_PathParts.f k a1 a2).bind fun t302 => (spec_VerifiedInclusion.j0 k a1 a2 l3 l4 l5 ((l4.length : Int) != (t302.length : Int)) a0_0 a0_1 a0_2 a0_3 a0_4 a0_5)) else (spec_VerifiedInclusion.j0 k a1 a2 l3 l4 l5 true a0_0 a0_1 a0_2 a0_3 a0_4 a0_5))
theorem spec_VerifiedInclusion.mono_l : ∀ k, (∀ y0 y1 y2 y3 y4 y5 y6 y7 y8 y9 y10 y11, LeO (spec_VerifiedInclusion.j0 k y0 y1 y2 y3 y4 y5 y6 y7 y8 y9 y10 y11) (spec_VerifiedInclusion.j0 (k + 1) y0 y1 y2 y3 y4 y5 y6 y7 y8 y9 y10 y11))
  | 0 => fun _ _ _ _ _ _ _ _ _ _ _ _ r h => by simp [spec_VerifiedInclusion.j0] at h
  | k + 1 => by
    have ih0 := spec_VerifiedInclusion.mono_l k
    · intro y0 y1 y2 y3 y4 y5 y6 y7 y8 y9 y10 y11
      unfold spec_VerifiedInclusion.j0
      repeat' first
      | (with_reducible exact ih0 _ _ _ _ _ _ _ _ _ _ _ _)
      | (with_reducible exact spec_PathParts.mono _ _ _)
      | (with_reducible exact spec_RootFromPath.mono _ _ _ _ _ _ _ _ _ _ _)
      | (with_reducible exact LeO.refl _)
      | (with_reducible exact LeO.none _)
      | (with_reducible refine LeO.ite ?_ ?_)
      | (with_reducible refine LeO.bind ?_ (fun _ => ?_))
      | exact ih0 _ _ _ _ _ _ _ _ _ _ _ _
      | exact spec_PathParts.mono _ _ _
      | exact spec_RootFromPath.mono _ _ _ _ _ _ _ _ _ _ _
      | exact LeO.none _
      | refine LeO.ite ?_ ?_
      | refine LeO.bind ?_ (fun _ => ?_)
theorem spec_VerifiedInclusion.mono : ∀ a0 a1 a2 a3 a4 a5 a6 a7 a8 a9 a10 k, LeO (spec_VerifiedInclusion.f k a0 a1 a2 a3 a4 a5 a6 a7 a8 a9 a10) (spec_VerifiedInclusion.f (k + 1) a0 a1 a2 a3 a4 a5 a6 a7 a8 a9 a10) := by
  intro a0 a1 a2 a3 a4 a5 a6 a7 a8 a9 a10 k
  have ih0 := spec_VerifiedInclusion.mono_l k
  unfold spec_VerifiedInclusion.f
  repeat' first
      | (with_reducible exact ih0 _ _ _ _ _ _ _ _ _ _ _ _)
      | (with_reducible exact spec_PathParts.mono _ _ _)
      | (with_reducible exact spec_RootFromPath.mono _ _ _ _ _ _ _ _ _ _ _)
      | (with_reducible exact LeO.refl _)
      | (with_reducible exact LeO.none _)
      | (with_reducible refine LeO.ite ?_ ?_)
      | (with_reducible refine LeO.bind ?_ (fun _ => ?_))
      | exact ih0 _ _ _ _ _ _ _ _ _ _ _ _
      | exact spec_PathParts.mono _ _ _
      | exact spec_RootFromPath.mono _ _ _ _ _ _ _ _ _ _ _
      | exact LeO.none _
      | refine LeO.ite ?_ ?_
      | refine LeO.bind ?_ (fun _ => ?_)
set_option maxHeartbeats 8000000 in
set_option maxRecDepth 100000 in
theorem spec_VerifiedInclusion.calls (k : Nat) (a0_0 : Int) (a0_1 : Int) (a0_2 : Int) (a0_3 : Int) (a0_4 : Int) (a0_5 : Int) (a1 : Int) (a2 : Int) (P3_ : Nat → Prop) (A3 : Option Addr) (c3 : Nat) (l3 : List Int) (A4 : Option Addr) (c4 : Nat) (l4 : List (List Int)) (A5 : Option Addr) (c5 : Nat) (l5 : List Int) (r1 : Int) (r2 : List Int) (w : World) (hs3 : Kd.V (Kd.int .u8) 5 w w.heap.size (fun k_ => P3_ k_) (.slice A3 l3.length c3) l3) (hr4 : Kd.C (Kd.slice 5 (Kd.int .u8)) w A4 l4.length l4) (hc4 : l4.length ≤ c4) (hr5 : Kd.C (Kd.int .u8) w A5 l5.length l5) (hc5 : l5.length ≤ c5) (h : spec_VerifiedInclusion.f k a0_0 a0_1 a0_2 a0_3 a0_4 a0_5 a1 a2 l3 l4 l5 = some (r1, r2)) :
    Calls Try.prog 19 #[.agg #[.int .i64 a0_0, .int .i64 a0_1, .int .i64 a0_2, .int .u64 a0_3, .int .u64 a0_4, .int .u64 a0_5], .int .u64 a1, .int .u64 a2, .slice A3 l3.length c3, .slice A4 l4.length c4, .slice A5 l5.length c5] w fun e w' => ∃ v1_ : Value, e = .returned (.tuple #[.int .i64 r1, v1_]) ∧ Kd.V (Kd.int .u8) 5 w' w.heap.size (fun k_ => (P3_ k_ ∨ w.heap.size ≤ k_)) v1_ r2 ∧ Below w.heap.size w w' := by
  have hu29 := Try.underlying29
  have HO3 := Aside0.mk (show Kd.V (Kd.int .u8) 5 w w.heap.size (fun k_ => (P3_ k_ ∨ w.heap.size ≤ k_)) (.slice A3 l3.length c3) l3 from Kd.V_mono hs3 (fun k_ hk => .inl hk))
  have HR4 := Aside0.mk hr4
  have HC4 := Aside0.mk hc4
  clear hr4 hc4
  have HR5 := Aside0.mk hr5
  have HC5 := Aside0.mk hc5
  clear hr5 hc5
  have HB := Aside0.mk (Below.refl w.heap.size w)
  have H : (if a1 ≥ a2 then (spec_VerifiedInclusion.j0 k a1 a2 l3 l4 l5 true a0_0 a0_1 a0_2 a0_3 a0_4 a0_5) else (if (l3.length : Int) = a0_1 then ((spec_PathParts.f k a1 a2).bind fun t302 => (spec_VerifiedInclusion.j0 k a1 a2 l3 l4 l5 ((l4.length : Int) != (t302.length : Int)) a0_0 a0_1 a0_2 a0_3 a0_4 a0_5)) else (spec_VerifiedInclusion.j0 k a1 a2 l3 l4 l5 true a0_0 a0_1 a0_2 a0_3 a0_4 a0_5))) = some (r1, r2) := h
  clear h
  have HC7 := Aside0.mk H
  clear H
  go_enter Try.func19, Try.ntmps19
  go_upto_region 1 with (first | ((with_reducible refine gate_dst (N := 6) rfl ?_); (try (refine gate_guard (by rfl) ?_; dsimp only)); refine box_event ?hg (N := 6) ?hd (cs := #[.int .i64 a0_0, .int .i64 a0_1, .int .i64 a0_2, .int .u64 a0_3, .int .u64 a0_4, .int .u64 a0_5]) (t := 29) ?hr ?_; (case hd => rfl); (case hg => rfl); (case hr => first | (go_simp; done) | (go_simp; rfl)); intro gb301 hg w8 hbox hb; have n0_ := Aside0.mk (Kd.V_below (Kd.V_elderB (by (with_reducible repeat (first | apply Kd.V_alloc | apply Kd.V_drewN | apply Kd.V_drew)); exact HO3.out) gb301 (Nat.le_of_eq hg.symm)) hb); have n1_ := Aside0.mk (below_step (by repeat (first | (with_reducible first | exact HB.out | apply below_alloc | apply pw_below_drewN | apply below_drew1) | exact HB.out)) hb); have n2_ := Aside0.mk (hbox); have n3_ := Aside0.mk ((by rw [hg]; exact (below_size (by repeat (first | (with_reducible first | exact HB.out | apply below_alloc | apply pw_below_drewN | apply below_drew1) | exact HB.out))) : w.heap.size ≤ gb301)); have n4_ := Aside0.mk ((by rw [hg]; exact (below_size (by repeat (first | (with_reducible first | exact HB.out | apply below_alloc | apply pw_below_drewN | apply below_drew1) | exact HB.out))) : w.heap.size ≤ gb301)); clear HO3; clear HB; have HO3 := n0_; have HB := n1_; have BK301 := n2_; have GW301 := n3_; have GE301 := n4_; clear n0_ n1_ n2_ n3_ n4_; clear hb hbox hg))
  (try simp only [Act.put, List.setIfInBounds_toArray, List.set_cons_zero, List.set_cons_succ])
  go_cut [33] (fun v33 wc => ∃ (kq : Nat) (x33_6 : Bool), v33 = .bool x33_6 ∧ Aside0 (spec_VerifiedInclusion.j0 kq a1 a2 l3 l4 l5 x33_6 a0_0 a0_1 a0_2 a0_3 a0_4 a0_5 = some (r1, r2)) ∧ Aside0 (kq ≤ k) ∧ Aside0 (Kd.V (Kd.int .u8) 5 wc w.heap.size (fun k_ => (P3_ k_ ∨ w.heap.size ≤ k_) ∧ k_ ≠ gb301) (.slice A3 l3.length c3) l3) ∧ Aside0 (wc.heap[gb301]? = some (.cells #[.int .i64 a0_0, .int .i64 a0_1, .int .i64 a0_2, .int .u64 a0_3, .int .u64 a0_4, .int .u64 a0_5] 29 (0, 0))) ∧ Aside0 (Below w.heap.size w wc))
  case first =>
    have H := HC7.out
    clear HC7
    by_cases c9 : a1 ≥ a2
    · rw [if_pos c9] at H
      have c9b0 : decide (a2 ≤ a1) = true := decide_eq_true c9
      clear c9
      (first | rw [c9b0] | (simp only [i64_w, i32_w]; rw [c9b0]) | skip)
      have H' := Aside0.mk H
      clear H
      go_wp2
      go_meet
      case rel => exact ⟨_, (true), (by first | rfl | (simp; done) | (simp [*]; done)), H', ⟨by first | omega | exact Nat.le_refl _⟩, ⟨by (with_reducible repeat (first | apply Kd.V_alloc | apply Kd.V_drewN | apply Kd.V_drew)); exact HO3.out⟩, ⟨by (with_reducible repeat (first | refine blk_drewN ?_ _ | refine blk_drew ?_ | refine blk_alloc ?_ _)); exact BK301.out⟩, ⟨by repeat (first | (with_reducible first | exact HB.out | apply below_alloc | apply pw_below_drewN | apply below_drew1 | refine below_set ?_ GE301.out) | exact HB.out)⟩⟩
    · rw [if_neg c9] at H
      have c9b0 : decide (a2 ≤ a1) = false := decide_eq_false c9
      clear c9
      (first | rw [c9b0] | (simp only [i64_w, i32_w]; rw [c9b0]) | skip)
      by_cases c10 : (l3.length : Int) = a0_1
      · rw [if_pos c10] at H
        have c10b0 : ((l3.length : Int) == a0_1) = true := beq_iff_eq.mpr c10
        have c10b1 : ((l3.length : Int) != a0_1) = false := bne_eq_false_iff_eq.mpr c10
        clear c10
        replace H := Option.bind_eq_some_iff.mp H
        obtain ⟨t302, A110, H⟩ := H
        replace H : (spec_VerifiedInclusion.j0 k a1 a2 l3 l4 l5 ((l4.length : Int) != (t302.length : Int)) a0_0 a0_1 a0_2 a0_3 a0_4 a0_5) = some (r1, r2) := H
        have A11 := Aside0.mk A110
        clear A110
        have H' := Aside0.mk H
        clear H
        have hcz12_0 : w8.cell? ⟨gb301, 0, none⟩ = some (.int .i64 a0_0) := (blk_cell BK301.out 0).trans rfl
        have hcz12_1 : w8.cell? ⟨gb301, 1, none⟩ = some (.int .i64 a0_1) := (blk_cell BK301.out 1).trans rfl
        have hcz12_2 : w8.cell? ⟨gb301, 2, none⟩ = some (.int .i64 a0_2) := (blk_cell BK301.out 2).trans rfl
        have hcz12_3 : w8.cell? ⟨gb301, 3, none⟩ = some (.int .u64 a0_3) := (blk_cell BK301.out 3).trans rfl
        have hcz12_4 : w8.cell? ⟨gb301, 4, none⟩ = some (.int .u64 a0_4) := (blk_cell BK301.out 4).trans rfl
        have hcz12_5 : w8.cell? ⟨gb301, 5, none⟩ = some (.int .u64 a0_5) := (blk_cell BK301.out 5).trans rfl
        have hfz12_0 := blk_frozen BK301.out 0
        have hfz12_1 := blk_frozen BK301.out 1
        have hfz12_2 := blk_frozen BK301.out 2
        have hfz12_3 := blk_frozen BK301.out 3
        have hfz12_4 := blk_frozen BK301.out 4
        have hfz12_5 := blk_frozen BK301.out 5
        go_wp2_with (first | (go_at_call 12; (with_reducible refine (spec_PathParts.calls k a1 a2 t302 _ A11.out).mono ?_); rintro e w13 ⟨v303, rfl, ho0, hb⟩; have n0_ := Aside0.mk (Kd.V_elder' (by (with_reducible repeat (first | apply Kd.V_alloc | apply Kd.V_drewN | apply Kd.V_drew)); exact HO3.out) (Kd.R_base ho0) hb); have n1_ := Aside0.mk (Kd.R_lower (Kd.R_newM (M := fun k_ => (w.heap.size ≤ k_)) ho0 (below_size (by repeat (first | (with_reducible first | exact HB.out | apply below_alloc | apply pw_below_drewN | apply below_drew1 | refine below_set ?_ GE301.out) | exact HB.out))) (fun k_ h_ => h_)) (below_size (by repeat (first | (with_reducible first | exact HB.out | apply below_alloc | apply pw_below_drewN | apply below_drew1 | refine below_set ?_ GE301.out) | exact HB.out)))); have n2_ := Aside0.mk (blk_below (g := gb301) (o := .cells #[.int .i64 a0_0, .int .i64 a0_1, .int .i64 a0_2, .int .u64 a0_3, .int .u64 a0_4, .int .u64 a0_5] 29 (0, 0)) (by (with_reducible repeat (first | refine blk_drewN ?_ _ | refine blk_drew ?_ | refine blk_alloc ?_ _)); exact BK301.out) hb); have n3_ := Aside0.mk (below_step (by repeat (first | (with_reducible first | exact HB.out | apply below_alloc | apply pw_below_drewN | apply below_drew1 | refine below_set ?_ GE301.out) | exact HB.out)) hb); clear HO3; clear BK301; clear HB; have HO3 := n0_; have HO304 := n1_; have BK301 := n2_; have HB := n3_; clear n0_ n1_ n2_ n3_; (try clear hb); (try clear hb2); (try clear hk); (try clear hi); (try clear ho0); obtain ⟨Ao14, co14, eo14⟩ := Kd.R_slice HO304.out; subst eo14))
        go_meet
        case rel => exact ⟨_, (((l4.length : Int) != (t302.length : Int))), (by first | rfl | (simp; done) | (simp [*]; done)), H', ⟨by first | omega | exact Nat.le_refl _⟩, ⟨by (with_reducible repeat (first | apply Kd.V_alloc | apply Kd.V_drewN | apply Kd.V_drew)); exact Kd.V_mono HO3.out (fun _ hk => ⟨hk.1.1, hk.1.2⟩)⟩, ⟨by (with_reducible repeat (first | refine blk_drewN ?_ _ | refine blk_drew ?_ | refine blk_alloc ?_ _)); exact BK301.out⟩, ⟨by repeat (first | (with_reducible first | exact HB.out | apply below_alloc | apply pw_below_drewN | apply below_drew1 | refine below_set ?_ GE301.out) | exact HB.out)⟩⟩
      · rw [if_neg c10] at H
        have c10b0 : ((l3.length : Int) == a0_1) = false := beq_eq_false_iff_ne.mpr c10
        have c10b1 : ((l3.length : Int) != a0_1) = true := bne_iff_ne.mpr c10
        have H' := Aside0.mk H
        clear H
        have hcz15_0 : w8.cell? ⟨gb301, 0, none⟩ = some (.int .i64 a0_0) := (blk_cell BK301.out 0).trans rfl
        have hcz15_1 : w8.cell? ⟨gb301, 1, none⟩ = some (.int .i64 a0_1) := (blk_cell BK301.out 1).trans rfl
        have hcz15_2 : w8.cell? ⟨gb301, 2, none⟩ = some (.int .i64 a0_2) := (blk_cell BK301.out 2).trans rfl
        have hcz15_3 : w8.cell? ⟨gb301, 3, none⟩ = some (.int .u64 a0_3) := (blk_cell BK301.out 3).trans rfl
        have hcz15_4 : w8.cell? ⟨gb301, 4, none⟩ = some (.int .u64 a0_4) := (blk_cell BK301.out 4).trans rfl
        have hcz15_5 : w8.cell? ⟨gb301, 5, none⟩ = some (.int .u64 a0_5) := (blk_cell BK301.out 5).trans rfl
        have hfz15_0 := blk_frozen BK301.out 0
        have hfz15_1 := blk_frozen BK301.out 1
        have hfz15_2 := blk_frozen BK301.out 2
        have hfz15_3 := blk_frozen BK301.out 3
        have hfz15_4 := blk_frozen BK301.out 4
        have hfz15_5 := blk_frozen BK301.out 5
        go_wp2
        go_meet
        case rel => exact ⟨_, (true), (by first | rfl | (simp; done) | (simp [*]; done)), H', ⟨by first | omega | exact Nat.le_refl _⟩, ⟨by (with_reducible repeat (first | apply Kd.V_alloc | apply Kd.V_drewN | apply Kd.V_drew)); exact HO3.out⟩, ⟨by (with_reducible repeat (first | refine blk_drewN ?_ _ | refine blk_drew ?_ | refine blk_alloc ?_ _)); exact BK301.out⟩, ⟨by repeat (first | (with_reducible first | exact HB.out | apply below_alloc | apply pw_below_drewN | apply below_drew1 | refine below_set ?_ GE301.out) | exact HB.out)⟩⟩
  case rest =>
    clear HC7
    try clear c1
    try clear p2
    try clear c3
    try clear c4
    try clear c5
    try clear c9
    try clear c9b0
    try clear c10
    try clear c10b0
    try clear c10b1
    try clear hcz12_0
    try clear hcz12_1
    try clear hcz12_2
    try clear hcz12_3
    try clear hcz12_4
    try clear hcz12_5
    try clear hcz15_0
    try clear hcz15_1
    try clear hcz15_2
    try clear hcz15_3
    try clear hcz15_4
    try clear hcz15_5
    try clear hfz12_0
    try clear hfz12_1
    try clear hfz12_2
    try clear hfz12_3
    try clear hfz12_4
    try clear hfz12_5
    try clear hfz15_0
    try clear hfz15_1
    try clear hfz15_2
    try clear hfz15_3
    try clear hfz15_4
    try clear hfz15_5
    obtain ⟨kq, x33_6, rfl, HA, HJ6, HO_3, BK301, HB⟩ := hcut
    cases kq with
    | zero => exact absurd HA.out (by simp [spec_VerifiedInclusion.j0])
    | succ kj6 =>
      have H := HA.out
      clear HA
      simp only [spec_VerifiedInclusion.j0] at H
      by_cases c16 : x33_6 = true
      · subst c16
        have H1 : (some (2, ([] : List Int))) = some (r1, r2) := by rw [if_pos rfl] at H; exact H
        clear H
        have H := H1
        clear H1
        simp only [Option.some.injEq, Prod.mk.injEq] at H
        obtain ⟨rfl, rfl⟩ := H
        go_wp2
        go_ret2
        exact ⟨(.slice none 0 0), by first | rfl | (simp [errW_none, errW_some] <;> rfl) | (simp [*, errW_none, errW_some] <;> rfl), by first | exact Kd.V_nil _ _ _ _ _ | exact Kd.R_nil _ _ _ _ _ | exact Kd.S_nil _ _ _ _ _ | exact Kd.N_nil _ _ _ _ _ | exact Kd.Q_nil _ _ _ _ _, by repeat (first | (with_reducible first | exact HB.out | apply below_alloc | apply pw_below_drewN | apply below_drew1 | refine below_set ?_ GE301.out) | exact HB.out)⟩
      · replace c16 := Bool.eq_false_iff.mpr c16
        subst c16
        have H1 : ((spec_RootFromPath.f kj6 a0_0 a0_1 a0_2 a0_3 a0_4 a0_5 a1 a2 l3 l4).bind fun t305 => ((spec_SameText.f t305 l5).bind fun t308 => (if t308 = true then (some (0, ([] : List Int))) else (some (1, t305))))) = some (r1, r2) := by rw [if_neg (show ¬ (false = true) by decide)] at H; exact H
        clear H
        have H := H1
        clear H1
        replace H := Option.bind_eq_some_iff.mp H
        obtain ⟨t305, A170, H⟩ := H
        replace H : ((spec_SameText.f t305 l5).bind fun t308 => (if t308 = true then (some (0, ([] : List Int))) else (some (1, t305)))) = some (r1, r2) := H
        have A17 := Aside0.mk A170
        clear A170
        replace H := Option.bind_eq_some_iff.mp H
        obtain ⟨t308, A180, H⟩ := H
        replace H : (if t308 = true then (some (0, ([] : List Int))) else (some (1, t305))) = some (r1, r2) := H
        have A18 := Aside0.mk A180
        clear A180
        by_cases c19 : t308 = true
        · subst c19
          have H1 : (some (0, ([] : List Int))) = some (r1, r2) := by rw [if_pos rfl] at H; exact H
          clear H
          have H := H1
          clear H1
          simp only [Option.some.injEq, Prod.mk.injEq] at H
          obtain ⟨rfl, rfl⟩ := H
          have hcz20_0 : wc.cell? ⟨gb301, 0, none⟩ = some (.int .i64 a0_0) := (blk_cell BK301.out 0).trans rfl
          have hcz20_1 : wc.cell? ⟨gb301, 1, none⟩ = some (.int .i64 a0_1) := (blk_cell BK301.out 1).trans rfl
          have hcz20_2 : wc.cell? ⟨gb301, 2, none⟩ = some (.int .i64 a0_2) := (blk_cell BK301.out 2).trans rfl
          have hcz20_3 : wc.cell? ⟨gb301, 3, none⟩ = some (.int .u64 a0_3) := (blk_cell BK301.out 3).trans rfl
          have hcz20_4 : wc.cell? ⟨gb301, 4, none⟩ = some (.int .u64 a0_4) := (blk_cell BK301.out 4).trans rfl
          have hcz20_5 : wc.cell? ⟨gb301, 5, none⟩ = some (.int .u64 a0_5) := (blk_cell BK301.out 5).trans rfl
          have hfz20_0 := blk_frozen BK301.out 0
          have hfz20_1 := blk_frozen BK301.out 1
          have hfz20_2 := blk_frozen BK301.out 2
          have hfz20_3 := blk_frozen BK301.out 3
          have hfz20_4 := blk_frozen BK301.out 4
          have hfz20_5 := blk_frozen BK301.out 5
          go_wp2_with (first | ((with_reducible refine gate_callee (f := 33) rfl ?_); refine goesL_ (some 39) rfl rfl Try.func33 (by kernel_rfl) rfl #[.agg #[.int .i64 a0_0, .int .i64 a0_1, .int .i64 a0_2, .int .u64 a0_3, .int .u64 a0_4, .int .u64 a0_5], .int .u64 a1, .int .u64 a2, .slice A3 l3.length c3, .slice A4 l4.length c4] rfl (by (try simp only [List.map_toArray, List.map_cons, List.map_nil]); first | done | rfl | (simp only [List.length_drop, List.length_take]; rfl)) ?_; (with_reducible refine (spec_RootFromPath.calls kj6 a0_0 a0_1 a0_2 a0_3 a0_4 a0_5 a1 a2 (fun k_ => ((P3_ k_ ∨ w.heap.size ≤ k_) ∧ k_ ≠ gb301)) _ _ l3 _ _ l4 t305 _ ?side1 ?side2 ?side3 A17.out).mono ?_); (case side1 => first | exact HO_3.out | exact Kd.V_mono HO_3.out (fun k_ h_ => by simp only [and_assoc] at h_ ⊢; exact h_)); (case side2 => repeat (first | exact (Kd.C_below HR4.out HB.out) | (with_reducible refine Kd.C_alloc ?_ _) | (with_reducible refine Kd.C_drewN ?_ _) | (with_reducible refine Kd.C_drew ?_))); (case side3 => exact HC4.out); rintro e w21 ⟨v306, rfl, ho0, hb⟩; refine ⟨_, rfl, ?_⟩; have n0_ := Aside0.mk (Kd.V_below (by (with_reducible repeat (first | apply Kd.V_alloc | apply Kd.V_drewN | apply Kd.V_drew)); exact HO_3.out) hb); have n1_ := Aside0.mk (Kd.V_lower (Kd.V_mono (ok' := fun k_ => (P3_ k_ ∨ w.heap.size ≤ k_) ∧ k_ ≠ gb301) ho0 (fun k_ hk_ => ⟨Or.elim hk_ (fun hs_ => hs_.1) (fun hn_ => (.inr (Nat.le_trans (below_size (by repeat (first | (with_reducible first | exact HB.out | apply below_alloc | apply pw_below_drewN | apply below_drew1 | refine below_set ?_ GE301.out) | exact HB.out))) hn_))), Or.elim hk_ (fun hs_ => hs_.2) (fun hn_ => (Kd.freshB (g := gb301) (o := .cells #[.int .i64 a0_0, .int .i64 a0_1, .int .i64 a0_2, .int .u64 a0_3, .int .u64 a0_4, .int .u64 a0_5] 29 (0, 0)) (by (with_reducible repeat (first | refine blk_drewN ?_ _ | refine blk_drew ?_ | refine blk_alloc ?_ _)); exact BK301.out) k_ hn_))⟩)) (below_size (by repeat (first | (with_reducible first | exact HB.out | apply below_alloc | apply pw_below_drewN | apply below_drew1 | refine below_set ?_ GE301.out) | exact HB.out)))); have n2_ := Aside0.mk (blk_below (g := gb301) (o := .cells #[.int .i64 a0_0, .int .i64 a0_1, .int .i64 a0_2, .int .u64 a0_3, .int .u64 a0_4, .int .u64 a0_5] 29 (0, 0)) (by (with_reducible repeat (first | refine blk_drewN ?_ _ | refine blk_drew ?_ | refine blk_alloc ?_ _)); exact BK301.out) hb); have n3_ := Aside0.mk (below_step (by repeat (first | (with_reducible first | exact HB.out | apply below_alloc | apply pw_below_drewN | apply below_drew1 | refine below_set ?_ GE301.out) | exact HB.out)) hb); clear HO_3; clear BK301; clear HB; have HO_3 := n0_; have HO307 := n1_; have BK301 := n2_; have HB := n3_; clear n0_ n1_ n2_ n3_; (try clear hb); (try clear hb2); (try clear hk); (try clear hi); (try clear ho0); obtain ⟨Ao22, co22, eo22⟩ := Kd.V_slice HO307.out; subst eo22) | ((with_reducible refine gate_callee (f := 15) rfl ?_); refine goesL_ (some 42) rfl rfl Try.func15 (by kernel_rfl) rfl #[.slice Ao22 t305.length co22, .slice A5 l5.length c5] rfl (by (try simp only [List.map_toArray, List.map_cons, List.map_nil]); first | done | rfl | (simp only [List.length_drop, List.length_take]; rfl)) ?_; (with_reducible refine (spec_SameText.calls _ _ t305 _ _ l5 true _ ?side1 ?side2 ?side3 ?side4 A18.out).mono ?_); (case side1 => repeat (first | exact (Kd.V_reads' HO307.out).2.2 | (with_reducible refine Kd.C_alloc ?_ _) | (with_reducible refine Kd.C_drewN ?_ _) | (with_reducible refine Kd.C_drew ?_))); (case side2 => exact (Kd.V_reads' HO307.out).2.1); (case side3 => repeat (first | exact (Kd.C_below HR5.out HB.out) | (with_reducible refine Kd.C_alloc ?_ _) | (with_reducible refine Kd.C_drewN ?_ _) | (with_reducible refine Kd.C_drew ?_))); (case side4 => exact HC5.out); rintro e w' ⟨rfl, ⟨nd, rfl⟩⟩; refine ⟨_, rfl, ?_⟩))
          go_ret2
          exact ⟨(.slice none 0 0), by first | rfl | (simp [errW_none, errW_some] <;> rfl) | (simp [*, errW_none, errW_some] <;> rfl), by first | exact Kd.V_nil _ _ _ _ _ | exact Kd.R_nil _ _ _ _ _ | exact Kd.S_nil _ _ _ _ _ | exact Kd.N_nil _ _ _ _ _ | exact Kd.Q_nil _ _ _ _ _, by repeat (first | (with_reducible first | exact HB.out | apply below_alloc | apply pw_below_drewN | apply below_drew1 | refine below_set ?_ GE301.out) | exact HB.out)⟩
        · replace c19 := Bool.eq_false_iff.mpr c19
          subst c19
          have H1 : (some (1, t305)) = some (r1, r2) := by rw [if_neg (show ¬ (false = true) by decide)] at H; exact H
          clear H
          have H := H1
          clear H1
          simp only [Option.some.injEq, Prod.mk.injEq] at H
          obtain ⟨rfl, rfl⟩ := H
          have hcz23_0 : wc.cell? ⟨gb301, 0, none⟩ = some (.int .i64 a0_0) := (blk_cell BK301.out 0).trans rfl
          have hcz23_1 : wc.cell? ⟨gb301, 1, none⟩ = some (.int .i64 a0_1) := (blk_cell BK301.out 1).trans rfl
          have hcz23_2 : wc.cell? ⟨gb301, 2, none⟩ = some (.int .i64 a0_2) := (blk_cell BK301.out 2).trans rfl
          have hcz23_3 : wc.cell? ⟨gb301, 3, none⟩ = some (.int .u64 a0_3) := (blk_cell BK301.out 3).trans rfl
          have hcz23_4 : wc.cell? ⟨gb301, 4, none⟩ = some (.int .u64 a0_4) := (blk_cell BK301.out 4).trans rfl
          have hcz23_5 : wc.cell? ⟨gb301, 5, none⟩ = some (.int .u64 a0_5) := (blk_cell BK301.out 5).trans rfl
          have hfz23_0 := blk_frozen BK301.out 0
          have hfz23_1 := blk_frozen BK301.out 1
          have hfz23_2 := blk_frozen BK301.out 2
          have hfz23_3 := blk_frozen BK301.out 3
          have hfz23_4 := blk_frozen BK301.out 4
          have hfz23_5 := blk_frozen BK301.out 5
          go_wp2_with (first | ((with_reducible refine gate_callee (f := 33) rfl ?_); refine goesL_ (some 39) rfl rfl Try.func33 (by kernel_rfl) rfl #[.agg #[.int .i64 a0_0, .int .i64 a0_1, .int .i64 a0_2, .int .u64 a0_3, .int .u64 a0_4, .int .u64 a0_5], .int .u64 a1, .int .u64 a2, .slice A3 l3.length c3, .slice A4 l4.length c4] rfl (by (try simp only [List.map_toArray, List.map_cons, List.map_nil]); first | done | rfl | (simp only [List.length_drop, List.length_take]; rfl)) ?_; (with_reducible refine (spec_RootFromPath.calls kj6 a0_0 a0_1 a0_2 a0_3 a0_4 a0_5 a1 a2 (fun k_ => ((P3_ k_ ∨ w.heap.size ≤ k_) ∧ k_ ≠ gb301)) _ _ l3 _ _ l4 t305 _ ?side1 ?side2 ?side3 A17.out).mono ?_); (case side1 => first | exact HO_3.out | exact Kd.V_mono HO_3.out (fun k_ h_ => by simp only [and_assoc] at h_ ⊢; exact h_)); (case side2 => repeat (first | exact (Kd.C_below HR4.out HB.out) | (with_reducible refine Kd.C_alloc ?_ _) | (with_reducible refine Kd.C_drewN ?_ _) | (with_reducible refine Kd.C_drew ?_))); (case side3 => exact HC4.out); rintro e w24 ⟨v306, rfl, ho0, hb⟩; refine ⟨_, rfl, ?_⟩; have n0_ := Aside0.mk (Kd.V_below (by (with_reducible repeat (first | apply Kd.V_alloc | apply Kd.V_drewN | apply Kd.V_drew)); exact HO_3.out) hb); have n1_ := Aside0.mk (Kd.V_lower (Kd.V_mono (ok' := fun k_ => (P3_ k_ ∨ w.heap.size ≤ k_) ∧ k_ ≠ gb301) ho0 (fun k_ hk_ => ⟨Or.elim hk_ (fun hs_ => hs_.1) (fun hn_ => (.inr (Nat.le_trans (below_size (by repeat (first | (with_reducible first | exact HB.out | apply below_alloc | apply pw_below_drewN | apply below_drew1 | refine below_set ?_ GE301.out) | exact HB.out))) hn_))), Or.elim hk_ (fun hs_ => hs_.2) (fun hn_ => (Kd.freshB (g := gb301) (o := .cells #[.int .i64 a0_0, .int .i64 a0_1, .int .i64 a0_2, .int .u64 a0_3, .int .u64 a0_4, .int .u64 a0_5] 29 (0, 0)) (by (with_reducible repeat (first | refine blk_drewN ?_ _ | refine blk_drew ?_ | refine blk_alloc ?_ _)); exact BK301.out) k_ hn_))⟩)) (below_size (by repeat (first | (with_reducible first | exact HB.out | apply below_alloc | apply pw_below_drewN | apply below_drew1 | refine below_set ?_ GE301.out) | exact HB.out)))); have n2_ := Aside0.mk (blk_below (g := gb301) (o := .cells #[.int .i64 a0_0, .int .i64 a0_1, .int .i64 a0_2, .int .u64 a0_3, .int .u64 a0_4, .int .u64 a0_5] 29 (0, 0)) (by (with_reducible repeat (first | refine blk_drewN ?_ _ | refine blk_drew ?_ | refine blk_alloc ?_ _)); exact BK301.out) hb); have n3_ := Aside0.mk (below_step (by repeat (first | (with_reducible first | exact HB.out | apply below_alloc | apply pw_below_drewN | apply below_drew1 | refine below_set ?_ GE301.out) | exact HB.out)) hb); clear HO_3; clear BK301; clear HB; have HO_3 := n0_; have HO307 := n1_; have BK301 := n2_; have HB := n3_; clear n0_ n1_ n2_ n3_; (try clear hb); (try clear hb2); (try clear hk); (try clear hi); (try clear ho0); obtain ⟨Ao25, co25, eo25⟩ := Kd.V_slice HO307.out; subst eo25) | ((with_reducible refine gate_callee (f := 15) rfl ?_); refine goesL_ (some 42) rfl rfl Try.func15 (by kernel_rfl) rfl #[.slice Ao25 t305.length co25, .slice A5 l5.length c5] rfl (by (try simp only [List.map_toArray, List.map_cons, List.map_nil]); first | done | rfl | (simp only [List.length_drop, List.length_take]; rfl)) ?_; (with_reducible refine (spec_SameText.calls _ _ t305 _ _ l5 false _ ?side1 ?side2 ?side3 ?side4 A18.out).mono ?_); (case side1 => repeat (first | exact (Kd.V_reads' HO307.out).2.2 | (with_reducible refine Kd.C_alloc ?_ _) | (with_reducible refine Kd.C_drewN ?_ _) | (with_reducible refine Kd.C_drew ?_))); (case side2 => exact (Kd.V_reads' HO307.out).2.1); (case side3 => repeat (first | exact (Kd.C_below HR5.out HB.out) | (with_reducible refine Kd.C_alloc ?_ _) | (with_reducible refine Kd.C_drewN ?_ _) | (with_reducible refine Kd.C_drew ?_))); (case side4 => exact HC5.out); rintro e w' ⟨rfl, ⟨nd, rfl⟩⟩; refine ⟨_, rfl, ?_⟩))
          go_ret2
          exact ⟨_, by first | rfl | (simp [errW_none, errW_some] <;> rfl) | (simp [*, errW_none, errW_some] <;> rfl), by (with_reducible repeat (first | apply Kd.V_alloc | apply Kd.V_drewN | apply Kd.V_drew)); exact Kd.V_mono HO307.out (fun _ hk => hk.1), by repeat (first | (with_reducible first | exact HB.out | apply below_alloc | apply pw_below_drewN | apply below_drew1 | refine below_set ?_ GE301.out) | exact HB.out)⟩

end Go.Proofs.Ytkmdkmlgahfcpaa.M

namespace Go.Proofs.Ytkmdkmlgahfcpaa.M
open Go.RowKit Go.Proofs.YtkmdkmlgahfcpaaW.PrintWords Go.Proofs.YtkmdkmlgahfcpaaW.PrintLast Go.Proofs.YtkmdkmlgahfcpaaW.PrintMore
attribute [local go_sem] max2_int min2_int max_two min_two max_three min_three max_four min_four   -- for this text's walks alone
set_option linter.unusedVariables false
set_option linter.unusedSimpArgs false

/-! ### laws_FnVerifyInclusion: function 5 -/
mutual
def laws_FnVerifyInclusion.j0 : Nat → Int → Int → List Int → List (List Int) → List Int → Bool → Int → Int → Int → Int → Int → Int → Option (Bool)
  | 0, _, _, _, _, _, _, _, _, _, _, _, _ => none
  | k + 1, x1, x2, x3, x4, x5, x29, x310000, x310001, x310002, x310003, x310004, x310005 => if x29 = true then (some true) else ((laws_logSmall.f k x4).bind fun t311 => (if t311 = true then (laws_FnVerifyInclusion.j1 k x1 x2 x3 x4 x5 (decide ((x3.length : Int) > 5000)) x310000 x310001 x310002 x310003 x310004 x310005) else (laws_FnVerifyInclusion.j1 k x1 x2 x3 x4 x5 true x310000 x310001 x310002 x310003 x310004 x310005)))
def laws_FnVerifyInclusion.j1 : Nat → Int → Int → List Int → List (List Int) → List Int → Bool → Int → Int → Int → Int → Int → Int → Option (Bool)
  | 0, _, _, _, _, _, _, _, _, _, _, _, _ => none
  | k + 1, x1, x2, x3, x4, x5, x37, x310000, x310001, x310002, x310003, x310004, x310005 => if x37 = true then (some true) else ((impl_VerifyInclusion.f k x310000 x310001 x310002 x310003 x310004 x310005 x1 x2 x3 x4 x5).bind fun bt312 => ((spec_VerifiedInclusion.f k x310000 x310001 x310002 x310003 x310004 x310005 x1 x2 x3 x4 x5).bind fun bt316 => (if bt312.1 = bt316.1 then (if bt316.1 = 1 then ((spec_SameText.f bt312.2 bt316.2).bind fun t320 => (some t320)) else (some true)) else (some false))))
end
def laws_FnVerifyInclusion.f (k : Nat) (a0_0 : Int) (a0_1 : Int) (a0_2 : Int) (a0_3 : Int) (a0_4 : Int) (a0_5 : Int) (a1 : Int) (a2 : Int) (l3 : List Int) (l4 : List (List Int)) (l5 : List Int) : Option (Bool) := if (l3.length : Int) > 2147483647 then (laws_FnVerifyInclusion.j0 k a1 a2 l3 l4 l5 true a0_0 a0_1 a0_2 a0_3 a0_4 a0_5) else ((laws_zzFits2.f k l4).bind fun t310 => (if t310 = true then (laws_FnVerifyInclusion.j0 k a1 a2 l3 l4 l5 (decide ((l5.length : Int) > 2147483647)) a0_0 a0_1 a0_2 a0_3 a0_4 a0_5) else (laws_FnVerifyInclusion.j0 k a1 a2 l3 l4 l5 true a0_0 a0_1 a0_2 a0_3 a0_4 a0_5)))
theorem laws_FnVerifyInclusion.mono_l : ∀ k, (∀ y0 y1 y2 y3 y4 y5 y6 y7 y8 y9 y10 y11, LeO (laws_FnVerifyInclusion.j0 k y0 y1 y2 y3 y4 y5 y6 y7 y8 y9 y10 y11) (laws_FnVerifyInclusion.j0 (k + 1) y0 y1 y2 y3 y4 y5 y6 y7 y8 y9 y10 y11)) ∧ (∀ y0 y1 y2 y3 y4 y5 y6 y7 y8 y9 y10 y11, LeO (laws_FnVerifyInclusion.j1 k y0 y1 y2 y3 y4 y5 y6 y7 y8 y9 y10 y11) (laws_FnVerifyInclusion.j1 (k + 1) y0 y1 y2 y3 y4 y5 y6 y7 y8 y9 y10 y11))
  | 0 => ⟨fun _ _ _ _ _ _ _ _ _ _ _ _ r h => by simp [laws_FnVerifyInclusion.j0] at h, fun _ _ _ _ _ _ _ _ _ _ _ _ r h => by simp [laws_FnVerifyInclusion.j1] at h⟩
  | k + 1 => by
    obtain ⟨ih0, ih1⟩ := laws_FnVerifyInclusion.mono_l k
    refine ⟨?_, ?_⟩
    · intro y0 y1 y2 y3 y4 y5 y6 y7 y8 y9 y10 y11
      unfold laws_FnVerifyInclusion.j0
      repeat' first
      | (with_reducible exact ih0 _ _ _ _ _ _ _ _ _ _ _ _)
      | (with_reducible exact ih1 _ _ _ _ _ _ _ _ _ _ _ _)
      | (with_reducible exact impl_VerifyInclusion.mono _ _ _ _ _ _ _ _ _ _ _ _)
      | (with_reducible exact laws_logSmall.mono _ _)
      | (with_reducible exact laws_zzFits2.mono _ _)
      | (with_reducible exact spec_VerifiedInclusion.mono _ _ _ _ _ _ _ _ _ _ _ _)
      | (with_reducible exact LeO.refl _)
      | (with_reducible exact LeO.none _)
      | (with_reducible refine LeO.ite ?_ ?_)
      | (with_reducible refine LeO.bind ?_ (fun _ => ?_))
      | exact ih0 _ _ _ _ _ _ _ _ _ _ _ _
      | exact ih1 _ _ _ _ _ _ _ _ _ _ _ _
      | exact impl_VerifyInclusion.mono _ _ _ _ _ _ _ _ _ _ _ _
      | exact laws_logSmall.mono _ _
      | exact laws_zzFits2.mono _ _
      | exact spec_VerifiedInclusion.mono _ _ _ _ _ _ _ _ _ _ _ _
      | exact LeO.none _
      | refine LeO.ite ?_ ?_
      | refine LeO.bind ?_ (fun _ => ?_)
    · intro y0 y1 y2 y3 y4 y5 y6 y7 y8 y9 y10 y11
      unfold laws_FnVerifyInclusion.j1
      repeat' first
      | (with_reducible exact ih0 _ _ _ _ _ _ _ _ _ _ _ _)
      | (with_reducible exact ih1 _ _ _ _ _ _ _ _ _ _ _ _)
      | (with_reducible exact impl_VerifyInclusion.mono _ _ _ _ _ _ _ _ _ _ _ _)
      | (with_reducible exact laws_logSmall.mono _ _)
      | (with_reducible exact laws_zzFits2.mono _ _)
      | (with_reducible exact spec_VerifiedInclusion.mono _ _ _ _ _ _ _ _ _ _ _ _)
      | (with_reducible exact LeO.refl _)
      | (with_reducible exact LeO.none _)
      | (with_reducible refine LeO.ite ?_ ?_)
      | (with_reducible refine LeO.bind ?_ (fun _ => ?_))
      | exact ih0 _ _ _ _ _ _ _ _ _ _ _ _
      | exact ih1 _ _ _ _ _ _ _ _ _ _ _ _
      | exact impl_VerifyInclusion.mono _ _ _ _ _ _ _ _ _ _ _ _
      | exact laws_logSmall.mono _ _
      | exact laws_zzFits2.mono _ _
      | exact spec_VerifiedInclusion.mono _ _ _ _ _ _ _ _ _ _ _ _
      | exact LeO.none _
      | refine LeO.ite ?_ ?_
      | refine LeO.bind ?_ (fun _ => ?_)
theorem laws_FnVerifyInclusion.mono : ∀ a0 a1 a2 a3 a4 a5 a6 a7 a8 a9 a10 k, LeO (laws_FnVerifyInclusion.f k a0 a1 a2 a3 a4 a5 a6 a7 a8 a9 a10) (laws_FnVerifyInclusion.f (k + 1) a0 a1 a2 a3 a4 a5 a6 a7 a8 a9 a10) := by
  intro a0 a1 a2 a3 a4 a5 a6 a7 a8 a9 a10 k
  obtain ⟨ih0, ih1⟩ := laws_FnVerifyInclusion.mono_l k
  unfold laws_FnVerifyInclusion.f
  repeat' first
      | (with_reducible exact ih0 _ _ _ _ _ _ _ _ _ _ _ _)
      | (with_reducible exact ih1 _ _ _ _ _ _ _ _ _ _ _ _)
      | (with_reducible exact impl_VerifyInclusion.mono _ _ _ _ _ _ _ _ _ _ _ _)
      | (with_reducible exact laws_logSmall.mono _ _)
      | (with_reducible exact laws_zzFits2.mono _ _)
      | (with_reducible exact spec_VerifiedInclusion.mono _ _ _ _ _ _ _ _ _ _ _ _)
      | (with_reducible exact LeO.refl _)
      | (with_reducible exact LeO.none _)
      | (with_reducible refine LeO.ite ?_ ?_)
      | (with_reducible refine LeO.bind ?_ (fun _ => ?_))
      | exact ih0 _ _ _ _ _ _ _ _ _ _ _ _
      | exact ih1 _ _ _ _ _ _ _ _ _ _ _ _
      | exact impl_VerifyInclusion.mono _ _ _ _ _ _ _ _ _ _ _ _
      | exact laws_logSmall.mono _ _
      | exact laws_zzFits2.mono _ _
      | exact spec_VerifiedInclusion.mono _ _ _ _ _ _ _ _ _ _ _ _
      | exact LeO.none _
      | refine LeO.ite ?_ ?_
      | refine LeO.bind ?_ (fun _ => ?_)
set_option maxHeartbeats 8000000 in
set_option maxRecDepth 100000 in
theorem laws_FnVerifyInclusion.calls (k : Nat) (a0_0 : Int) (a0_1 : Int) (a0_2 : Int) (a0_3 : Int) (a0_4 : Int) (a0_5 : Int) (a1 : Int) (a2 : Int) (A3 : Option Addr) (c3 : Nat) (l3 : List Int) (A4 : Option Addr) (c4 : Nat) (l4 : List (List Int)) (A5 : Option Addr) (c5 : Nat) (l5 : List Int) (r : Bool) (w : World) (hr3 : Kd.C (Kd.int .u8) w A3 l3.length l3) (hc3 : l3.length ≤ c3) (hr4 : Kd.C (Kd.slice 5 (Kd.int .u8)) w A4 l4.length l4) (hc4 : l4.length ≤ c4) (hr5 : Kd.C (Kd.int .u8) w A5 l5.length l5) (hc5 : l5.length ≤ c5) (h : laws_FnVerifyInclusion.f k a0_0 a0_1 a0_2 a0_3 a0_4 a0_5 a1 a2 l3 l4 l5 = some r) :
    Calls Try.prog 5 #[.agg #[.int .i64 a0_0, .int .i64 a0_1, .int .i64 a0_2, .int .u64 a0_3, .int .u64 a0_4, .int .u64 a0_5], .int .u64 a1, .int .u64 a2, .slice A3 l3.length c3, .slice A4 l4.length c4, .slice A5 l5.length c5] w fun e w' => e = .returned (.bool r) ∧ Below w.heap.size w w' := by
  have hu29 := Try.underlying29
  have HR3 := Aside0.mk hr3
  have HC3 := Aside0.mk hc3
  clear hr3 hc3
  have HR4 := Aside0.mk hr4
  have HC4 := Aside0.mk hc4
  clear hr4 hc4
  have HR5 := Aside0.mk hr5
  have HC5 := Aside0.mk hc5
  clear hr5 hc5
  have HB := Aside0.mk (Below.refl w.heap.size w)
  have H : (if (l3.length : Int) > 2147483647 then (laws_FnVerifyInclusion.j0 k a1 a2 l3 l4 l5 true a0_0 a0_1 a0_2 a0_3 a0_4 a0_5) else ((laws_zzFits2.f k l4).bind fun t310 => (if t310 = true then (laws_FnVerifyInclusion.j0 k a1 a2 l3 l4 l5 (decide ((l5.length : Int) > 2147483647)) a0_0 a0_1 a0_2 a0_3 a0_4 a0_5) else (laws_FnVerifyInclusion.j0 k a1 a2 l3 l4 l5 true a0_0 a0_1 a0_2 a0_3 a0_4 a0_5)))) = some r := h
  clear h
  have HC7 := Aside0.mk H
  clear H
  go_enter Try.func5, Try.ntmps5
  go_upto_region 1 with (first | ((with_reducible refine gate_dst (N := 6) rfl ?_); (try (refine gate_guard (by rfl) ?_; dsimp only)); refine box_event ?hg (N := 6) ?hd (cs := #[.int .i64 a0_0, .int .i64 a0_1, .int .i64 a0_2, .int .u64 a0_3, .int .u64 a0_4, .int .u64 a0_5]) (t := 29) ?hr ?_; (case hd => rfl); (case hg => rfl); (case hr => first | (go_simp; done) | (go_simp; rfl)); intro gb309 hg w8 hbox hb; have n0_ := Aside0.mk (below_step (by repeat (first | (with_reducible first | exact HB.out | apply below_alloc | apply pw_below_drewN | apply below_drew1) | exact HB.out)) hb); have n1_ := Aside0.mk (hbox); have n2_ := Aside0.mk ((by rw [hg]; exact (below_size (by repeat (first | (with_reducible first | exact HB.out | apply below_alloc | apply pw_below_drewN | apply below_drew1) | exact HB.out))) : w.heap.size ≤ gb309)); have n3_ := Aside0.mk ((by rw [hg]; exact (below_size (by repeat (first | (with_reducible first | exact HB.out | apply below_alloc | apply pw_below_drewN | apply below_drew1) | exact HB.out))) : w.heap.size ≤ gb309)); clear HB; have HB := n0_; have BK309 := n1_; have GW309 := n2_; have GE309 := n3_; clear n0_ n1_ n2_ n3_; clear hb hbox hg))
  (try simp only [Act.put, List.setIfInBounds_toArray, List.set_cons_zero, List.set_cons_succ])
  go_cut [29] (fun v29 wc => ∃ (kq : Nat) (x29_6 : Bool), v29 = .bool x29_6 ∧ Aside0 (laws_FnVerifyInclusion.j0 kq a1 a2 l3 l4 l5 x29_6 a0_0 a0_1 a0_2 a0_3 a0_4 a0_5 = some r) ∧ Aside0 (kq ≤ k) ∧ Aside0 (wc.heap[gb309]? = some (.cells #[.int .i64 a0_0, .int .i64 a0_1, .int .i64 a0_2, .int .u64 a0_3, .int .u64 a0_4, .int .u64 a0_5] 29 (0, 0))) ∧ Aside0 (Below w.heap.size w wc))
  case first =>
    have H := HC7.out
    clear HC7
    by_cases c9 : (l3.length : Int) > 2147483647
    · rw [if_pos c9] at H
      have c9b0 : decide (2147483647 < (l3.length : Int)) = true := decide_eq_true c9
      have c9b1 : decide (2147483647 < l3.length) = true := decide_eq_true (by omega)
      clear c9
      (first | rw [c9b0] | (simp only [i64_w, i32_w]; rw [c9b0]) | skip)
      have H' := Aside0.mk H
      clear H
      go_wp2
      go_meet
      case rel => exact ⟨_, (true), (by first | rfl | (simp; done) | (simp [*]; done)), H', ⟨by first | omega | exact Nat.le_refl _⟩, ⟨by (with_reducible repeat (first | refine blk_drewN ?_ _ | refine blk_drew ?_ | refine blk_alloc ?_ _)); exact BK309.out⟩, ⟨by repeat (first | (with_reducible first | exact HB.out | apply below_alloc | apply pw_below_drewN | apply below_drew1 | refine below_set ?_ GE309.out) | exact HB.out)⟩⟩
    · rw [if_neg c9] at H
      have c9b0 : decide (2147483647 < (l3.length : Int)) = false := decide_eq_false c9
      have c9b1 : decide (2147483647 < l3.length) = false := decide_eq_false (by omega)
      clear c9
      (first | rw [c9b0] | (simp only [i64_w, i32_w]; rw [c9b0]) | skip)
      replace H := Option.bind_eq_some_iff.mp H
      obtain ⟨t310, A100, H⟩ := H
      replace H : (if t310 = true then (laws_FnVerifyInclusion.j0 k a1 a2 l3 l4 l5 (decide ((l5.length : Int) > 2147483647)) a0_0 a0_1 a0_2 a0_3 a0_4 a0_5) else (laws_FnVerifyInclusion.j0 k a1 a2 l3 l4 l5 true a0_0 a0_1 a0_2 a0_3 a0_4 a0_5)) = some r := H
      have A10 := Aside0.mk A100
      clear A100
      by_cases c11 : t310 = true
      · subst c11
        have H1 : (laws_FnVerifyInclusion.j0 k a1 a2 l3 l4 l5 (decide ((l5.length : Int) > 2147483647)) a0_0 a0_1 a0_2 a0_3 a0_4 a0_5) = some r := by rw [if_pos rfl] at H; exact H
        clear H
        have H := H1
        clear H1
        have H' := Aside0.mk H
        clear H
        go_wp2_with (first | (go_at_call 10; (with_reducible refine (laws_zzFits2.calls k _ _ l4 true _ ?side1 ?side2 A10.out).mono ?_); (case side1 => repeat (first | exact (Kd.C_below HR4.out HB.out) | (with_reducible refine Kd.C_alloc ?_ _) | (with_reducible refine Kd.C_drewN ?_ _) | (with_reducible refine Kd.C_drew ?_))); (case side2 => exact HC4.out); rintro e w' ⟨rfl, ⟨nd, rfl⟩⟩))
        go_meet
        case rel => exact ⟨_, (decide ((l5.length : Int) > 2147483647)), (by first | rfl | (simp; done) | (simp [*]; done)), H', ⟨by first | omega | exact Nat.le_refl _⟩, ⟨by (with_reducible repeat (first | refine blk_drewN ?_ _ | refine blk_drew ?_ | refine blk_alloc ?_ _)); exact BK309.out⟩, ⟨by repeat (first | (with_reducible first | exact HB.out | apply below_alloc | apply pw_below_drewN | apply below_drew1 | refine below_set ?_ GE309.out) | exact HB.out)⟩⟩
      · replace c11 := Bool.eq_false_iff.mpr c11
        subst c11
        have H1 : (laws_FnVerifyInclusion.j0 k a1 a2 l3 l4 l5 true a0_0 a0_1 a0_2 a0_3 a0_4 a0_5) = some r := by rw [if_neg (show ¬ (false = true) by decide)] at H; exact H
        clear H
        have H := H1
        clear H1
        have H' := Aside0.mk H
        clear H
        go_wp2_with (first | (go_at_call 10; (with_reducible refine (laws_zzFits2.calls k _ _ l4 false _ ?side1 ?side2 A10.out).mono ?_); (case side1 => repeat (first | exact (Kd.C_below HR4.out HB.out) | (with_reducible refine Kd.C_alloc ?_ _) | (with_reducible refine Kd.C_drewN ?_ _) | (with_reducible refine Kd.C_drew ?_))); (case side2 => exact HC4.out); rintro e w' ⟨rfl, ⟨nd, rfl⟩⟩))
        go_meet
        case rel => exact ⟨_, (true), (by first | rfl | (simp; done) | (simp [*]; done)), H', ⟨by first | omega | exact Nat.le_refl _⟩, ⟨by (with_reducible repeat (first | refine blk_drewN ?_ _ | refine blk_drew ?_ | refine blk_alloc ?_ _)); exact BK309.out⟩, ⟨by repeat (first | (with_reducible first | exact HB.out | apply below_alloc | apply pw_below_drewN | apply below_drew1 | refine below_set ?_ GE309.out) | exact HB.out)⟩⟩
  case rest =>
    clear HC7
    try clear c1
    try clear p2
    try clear c3
    try clear c4
    try clear c5
    try clear c9
    try clear c9b0
    try clear c9b1
    try clear c11
    obtain ⟨kq, x29_6, rfl, HA, HJ6, BK309, HB⟩ := hcut
    cases kq with
    | zero => exact absurd HA.out (by simp [laws_FnVerifyInclusion.j0])
    | succ kj6 =>
      have H := HA.out
      clear HA
      simp only [laws_FnVerifyInclusion.j0] at H
      by_cases c12 : x29_6 = true
      · subst c12
        have H1 : (some true) = some r := by rw [if_pos rfl] at H; exact H
        clear H
        have H := H1
        clear H1
        obtain rfl := Option.some.inj H
        go_wp2
        go_ret
        exact ⟨by first | rfl | (simp [errW_none, errW_some] <;> rfl) | (simp [*, errW_none, errW_some] <;> rfl), by repeat (first | (with_reducible first | exact HB.out | apply below_alloc | apply pw_below_drewN | apply below_drew1 | refine below_set ?_ GE309.out) | exact HB.out)⟩
      · replace c12 := Bool.eq_false_iff.mpr c12
        subst c12
        have H1 : ((laws_logSmall.f kj6 l4).bind fun t311 => (if t311 = true then (laws_FnVerifyInclusion.j1 kj6 a1 a2 l3 l4 l5 (decide ((l3.length : Int) > 5000)) a0_0 a0_1 a0_2 a0_3 a0_4 a0_5) else (laws_FnVerifyInclusion.j1 kj6 a1 a2 l3 l4 l5 true a0_0 a0_1 a0_2 a0_3 a0_4 a0_5))) = some r := by rw [if_neg (show ¬ (false = true) by decide)] at H; exact H
        clear H
        have H := H1
        clear H1
        have HC13 := Aside0.mk H
        clear H
        go_upto_region 3 with (fail)
        go_cut [37] (fun v37 wc => ∃ (kq : Nat) (x37_12 : Bool), v37 = .bool x37_12 ∧ Aside0 (laws_FnVerifyInclusion.j1 kq a1 a2 l3 l4 l5 x37_12 a0_0 a0_1 a0_2 a0_3 a0_4 a0_5 = some r) ∧ Aside0 (kq ≤ kj6) ∧ Aside0 (wc.heap[gb309]? = some (.cells #[.int .i64 a0_0, .int .i64 a0_1, .int .i64 a0_2, .int .u64 a0_3, .int .u64 a0_4, .int .u64 a0_5] 29 (0, 0))) ∧ Aside0 (Below w.heap.size w wc))
        case first =>
          have H := HC13.out
          clear HC13
          replace H := Option.bind_eq_some_iff.mp H
          obtain ⟨t311, A140, H⟩ := H
          replace H : (if t311 = true then (laws_FnVerifyInclusion.j1 kj6 a1 a2 l3 l4 l5 (decide ((l3.length : Int) > 5000)) a0_0 a0_1 a0_2 a0_3 a0_4 a0_5) else (laws_FnVerifyInclusion.j1 kj6 a1 a2 l3 l4 l5 true a0_0 a0_1 a0_2 a0_3 a0_4 a0_5)) = some r := H
          have A14 := Aside0.mk A140
          clear A140
          by_cases c15 : t311 = true
          · subst c15
            have H1 : (laws_FnVerifyInclusion.j1 kj6 a1 a2 l3 l4 l5 (decide ((l3.length : Int) > 5000)) a0_0 a0_1 a0_2 a0_3 a0_4 a0_5) = some r := by rw [if_pos rfl] at H; exact H
            clear H
            have H := H1
            clear H1
            have H' := Aside0.mk H
            clear H
            go_wp2_with (first | ((with_reducible refine gate_callee (f := 11) rfl ?_); refine goesL_ (some 31) rfl rfl Try.func11 (by kernel_rfl) rfl #[.slice A4 l4.length c4] rfl (by (try simp only [List.map_toArray, List.map_cons, List.map_nil]); first | done | rfl | (simp only [List.length_drop, List.length_take]; rfl)) ?_; (with_reducible refine (laws_logSmall.calls kj6 _ _ l4 true _ ?side1 ?side2 A14.out).mono ?_); (case side1 => repeat (first | exact (Kd.C_below HR4.out HB.out) | (with_reducible refine Kd.C_alloc ?_ _) | (with_reducible refine Kd.C_drewN ?_ _) | (with_reducible refine Kd.C_drew ?_))); (case side2 => exact HC4.out); rintro e w' ⟨rfl, ⟨nd, rfl⟩⟩; refine ⟨_, rfl, ?_⟩))
            go_meet
            case rel => exact ⟨_, (decide ((l3.length : Int) > 5000)), (by first | rfl | (simp; done) | (simp [*]; done)), H', ⟨by have := HJ6.out; first | omega | exact Nat.le_refl _⟩, ⟨by (with_reducible repeat (first | refine blk_drewN ?_ _ | refine blk_drew ?_ | refine blk_alloc ?_ _)); exact BK309.out⟩, ⟨by repeat (first | (with_reducible first | exact HB.out | apply below_alloc | apply pw_below_drewN | apply below_drew1 | refine below_set ?_ GE309.out) | exact HB.out)⟩⟩
          · replace c15 := Bool.eq_false_iff.mpr c15
            subst c15
            have H1 : (laws_FnVerifyInclusion.j1 kj6 a1 a2 l3 l4 l5 true a0_0 a0_1 a0_2 a0_3 a0_4 a0_5) = some r := by rw [if_neg (show ¬ (false = true) by decide)] at H; exact H
            clear H
            have H := H1
            clear H1
            have H' := Aside0.mk H
            clear H
            go_wp2_with (first | ((with_reducible refine gate_callee (f := 11) rfl ?_); refine goesL_ (some 31) rfl rfl Try.func11 (by kernel_rfl) rfl #[.slice A4 l4.length c4] rfl (by (try simp only [List.map_toArray, List.map_cons, List.map_nil]); first | done | rfl | (simp only [List.length_drop, List.length_take]; rfl)) ?_; (with_reducible refine (laws_logSmall.calls kj6 _ _ l4 false _ ?side1 ?side2 A14.out).mono ?_); (case side1 => repeat (first | exact (Kd.C_below HR4.out HB.out) | (with_reducible refine Kd.C_alloc ?_ _) | (with_reducible refine Kd.C_drewN ?_ _) | (with_reducible refine Kd.C_drew ?_))); (case side2 => exact HC4.out); rintro e w' ⟨rfl, ⟨nd, rfl⟩⟩; refine ⟨_, rfl, ?_⟩))
            go_meet
            case rel => exact ⟨_, (true), (by first | rfl | (simp; done) | (simp [*]; done)), H', ⟨by have := HJ6.out; first | omega | exact Nat.le_refl _⟩, ⟨by (with_reducible repeat (first | refine blk_drewN ?_ _ | refine blk_drew ?_ | refine blk_alloc ?_ _)); exact BK309.out⟩, ⟨by repeat (first | (with_reducible first | exact HB.out | apply below_alloc | apply pw_below_drewN | apply below_drew1 | refine below_set ?_ GE309.out) | exact HB.out)⟩⟩
        case rest =>
          clear HC13
          try clear c1
          try clear p2
          try clear c3
          try clear c4
          try clear c5
          try clear c9
          try clear c9b0
          try clear c9b1
          try clear c11
          try clear c12
          try clear c15
          try clear p2
          obtain ⟨kq, x37_12, rfl, HA, HJ12, BK309, HB⟩ := hcut
          cases kq with
          | zero => exact absurd HA.out (by simp [laws_FnVerifyInclusion.j1])
          | succ kj12 =>
            have H := HA.out
            clear HA
            simp only [laws_FnVerifyInclusion.j1] at H
            by_cases c16 : x37_12 = true
            · subst c16
              have H1 : (some true) = some r := by rw [if_pos rfl] at H; exact H
              clear H
              have H := H1
              clear H1
              obtain rfl := Option.some.inj H
              go_wp2
              go_ret
              exact ⟨by first | rfl | (simp [errW_none, errW_some] <;> rfl) | (simp [*, errW_none, errW_some] <;> rfl), by repeat (first | (with_reducible first | exact HB.out | apply below_alloc | apply pw_below_drewN | apply below_drew1 | refine below_set ?_ GE309.out) | exact HB.out)⟩
            · replace c16 := Bool.eq_false_iff.mpr c16
              subst c16
              have H1 : ((impl_VerifyInclusion.f kj12 a0_0 a0_1 a0_2 a0_3 a0_4 a0_5 a1 a2 l3 l4 l5).bind fun bt312 => ((spec_VerifiedInclusion.f kj12 a0_0 a0_1 a0_2 a0_3 a0_4 a0_5 a1 a2 l3 l4 l5).bind fun bt316 => (if bt312.1 = bt316.1 then (if bt316.1 = 1 then ((spec_SameText.f bt312.2 bt316.2).bind fun t320 => (some t320)) else (some true)) else (some false)))) = some r := by rw [if_neg (show ¬ (false = true) by decide)] at H; exact H
              clear H
              have H := H1
              clear H1
              replace H := Option.bind_eq_some_iff.mp H
              obtain ⟨⟨t312, t313⟩, A170, H⟩ := H
              replace H : ((spec_VerifiedInclusion.f kj12 a0_0 a0_1 a0_2 a0_3 a0_4 a0_5 a1 a2 l3 l4 l5).bind fun bt316 => (if t312 = bt316.1 then (if bt316.1 = 1 then ((spec_SameText.f t313 bt316.2).bind fun t320 => (some t320)) else (some true)) else (some false))) = some r := H
              have A17 := Aside0.mk A170
              clear A170
              replace H := Option.bind_eq_some_iff.mp H
              obtain ⟨⟨t316, t317⟩, A180, H⟩ := H
              replace H : (if t312 = t316 then (if t316 = 1 then ((spec_SameText.f t313 t317).bind fun t320 => (some t320)) else (some true)) else (some false)) = some r := H
              have A18 := Aside0.mk A180
              clear A180
              by_cases c19 : t312 = t316
              · rw [if_pos c19] at H
                have c19b0 : (t312 == t316) = true := beq_iff_eq.mpr c19
                have c19b1 : (t312 != t316) = false := bne_eq_false_iff_eq.mpr c19
                clear c19
                by_cases c20 : t316 = 1
                · rw [if_pos c20] at H
                  have c20b0 : (t316 == 1) = true := beq_iff_eq.mpr c20
                  have c20b1 : (t316 != 1) = false := bne_eq_false_iff_eq.mpr c20
                  clear c20
                  replace H := Option.bind_eq_some_iff.mp H
                  obtain ⟨t320, A210, H⟩ := H
                  replace H : (some t320) = some r := H
                  have A21 := Aside0.mk A210
                  clear A210
                  obtain rfl := Option.some.inj H
                  have hcz22_0 : wc.cell? ⟨gb309, 0, none⟩ = some (.int .i64 a0_0) := (blk_cell BK309.out 0).trans rfl
                  have hcz22_1 : wc.cell? ⟨gb309, 1, none⟩ = some (.int .i64 a0_1) := (blk_cell BK309.out 1).trans rfl
                  have hcz22_2 : wc.cell? ⟨gb309, 2, none⟩ = some (.int .i64 a0_2) := (blk_cell BK309.out 2).trans rfl
                  have hcz22_3 : wc.cell? ⟨gb309, 3, none⟩ = some (.int .u64 a0_3) := (blk_cell BK309.out 3).trans rfl
                  have hcz22_4 : wc.cell? ⟨gb309, 4, none⟩ = some (.int .u64 a0_4) := (blk_cell BK309.out 4).trans rfl
                  have hcz22_5 : wc.cell? ⟨gb309, 5, none⟩ = some (.int .u64 a0_5) := (blk_cell BK309.out 5).trans rfl
                  have hfz22_0 := blk_frozen BK309.out 0
                  have hfz22_1 := blk_frozen BK309.out 1
                  have hfz22_2 := blk_frozen BK309.out 2
                  have hfz22_3 := blk_frozen BK309.out 3
                  have hfz22_4 := blk_frozen BK309.out 4
                  have hfz22_5 := blk_frozen BK309.out 5
                  go_wp2_with (first | ((with_reducible refine gate_callee (f := 18) rfl ?_); refine goesL_ (some 45) rfl rfl Try.func18 (by kernel_rfl) rfl #[.agg #[.int .i64 a0_0, .int .i64 a0_1, .int .i64 a0_2, .int .u64 a0_3, .int .u64 a0_4, .int .u64 a0_5], .int .u64 a1, .int .u64 a2, .slice A3 l3.length c3, .slice A4 l4.length c4, .slice A5 l5.length c5] rfl (by (try simp only [List.map_toArray, List.map_cons, List.map_nil]); first | done | rfl | (simp only [List.length_drop, List.length_take]; rfl)) ?_; (with_reducible refine (impl_VerifyInclusion.calls kj12 a0_0 a0_1 a0_2 a0_3 a0_4 a0_5 a1 a2 _ _ l3 _ _ l4 _ _ l5 t312 t313 _ ?side1 ?side2 ?side3 ?side4 ?side5 ?side6 A17.out).mono ?_); (case side1 => repeat (first | exact (Kd.C_below HR3.out HB.out) | (with_reducible refine Kd.C_alloc ?_ _) | (with_reducible refine Kd.C_drewN ?_ _) | (with_reducible refine Kd.C_drew ?_))); (case side2 => exact HC3.out); (case side3 => repeat (first | exact (Kd.C_below HR4.out HB.out) | (with_reducible refine Kd.C_alloc ?_ _) | (with_reducible refine Kd.C_drewN ?_ _) | (with_reducible refine Kd.C_drew ?_))); (case side4 => exact HC4.out); (case side5 => repeat (first | exact (Kd.C_below HR5.out HB.out) | (with_reducible refine Kd.C_alloc ?_ _) | (with_reducible refine Kd.C_drewN ?_ _) | (with_reducible refine Kd.C_drew ?_))); (case side6 => exact HC5.out); rintro e w23 ⟨v314, rfl, ho0, hb⟩; refine ⟨_, rfl, ?_⟩; have n0_ := Aside0.mk (Kd.R_lower ho0 (below_size (by repeat (first | (with_reducible first | exact HB.out | apply below_alloc | apply pw_below_drewN | apply below_drew1 | refine below_set ?_ GE309.out) | exact HB.out)))); have n1_ := Aside0.mk (blk_below (g := gb309) (o := .cells #[.int .i64 a0_0, .int .i64 a0_1, .int .i64 a0_2, .int .u64 a0_3, .int .u64 a0_4, .int .u64 a0_5] 29 (0, 0)) (by (with_reducible repeat (first | refine blk_drewN ?_ _ | refine blk_drew ?_ | refine blk_alloc ?_ _)); exact BK309.out) hb); have n2_ := Aside0.mk (below_step (by repeat (first | (with_reducible first | exact HB.out | apply below_alloc | apply pw_below_drewN | apply below_drew1 | refine below_set ?_ GE309.out) | exact HB.out)) hb); clear BK309; clear HB; have HO315 := n0_; have BK309 := n1_; have HB := n2_; clear n0_ n1_ n2_; (try clear hb); (try clear hb2); (try clear hk); (try clear hi); (try clear ho0); have hcz24_0 : w23.cell? ⟨gb309, 0, none⟩ = some (.int .i64 a0_0) := (blk_cell BK309.out 0).trans rfl; have hcz24_1 : w23.cell? ⟨gb309, 1, none⟩ = some (.int .i64 a0_1) := (blk_cell BK309.out 1).trans rfl; have hcz24_2 : w23.cell? ⟨gb309, 2, none⟩ = some (.int .i64 a0_2) := (blk_cell BK309.out 2).trans rfl; have hcz24_3 : w23.cell? ⟨gb309, 3, none⟩ = some (.int .u64 a0_3) := (blk_cell BK309.out 3).trans rfl; have hcz24_4 : w23.cell? ⟨gb309, 4, none⟩ = some (.int .u64 a0_4) := (blk_cell BK309.out 4).trans rfl; have hcz24_5 : w23.cell? ⟨gb309, 5, none⟩ = some (.int .u64 a0_5) := (blk_cell BK309.out 5).trans rfl; have hfz24_0 := blk_frozen BK309.out 0; have hfz24_1 := blk_frozen BK309.out 1; have hfz24_2 := blk_frozen BK309.out 2; have hfz24_3 := blk_frozen BK309.out 3; have hfz24_4 := blk_frozen BK309.out 4; have hfz24_5 := blk_frozen BK309.out 5) | ((with_reducible refine gate_callee (f := 19) rfl ?_); refine goesL_ (some 55) rfl rfl Try.func19 (by kernel_rfl) rfl #[.agg #[.int .i64 a0_0, .int .i64 a0_1, .int .i64 a0_2, .int .u64 a0_3, .int .u64 a0_4, .int .u64 a0_5], .int .u64 a1, .int .u64 a2, .slice A3 l3.length c3, .slice A4 l4.length c4, .slice A5 l5.length c5] rfl (by (try simp only [List.map_toArray, List.map_cons, List.map_nil]); first | done | rfl | (simp only [List.length_drop, List.length_take]; rfl)) ?_; (with_reducible refine (spec_VerifiedInclusion.calls kj12 a0_0 a0_1 a0_2 a0_3 a0_4 a0_5 a1 a2 (fun k_ => k_ < w.heap.size) _ _ l3 _ _ l4 _ _ l5 t316 t317 _ ?side1 ?side2 ?side3 ?side4 ?side5 A18.out).mono ?_); (case side1 => first | exact Kd.V_mk HC3.out (Kd.F_below (Kd.C_F (Kd.heap_int .u8) HR3.out) (by repeat (first | (with_reducible first | exact HB.out | apply below_alloc | apply pw_below_drewN | apply below_drew1 | refine below_set ?_ GE309.out) | exact HB.out))) | exact Kd.V_mono Kd.V_mk HC3.out (Kd.F_below (Kd.C_F (Kd.heap_int .u8) HR3.out) (by repeat (first | (with_reducible first | exact HB.out | apply below_alloc | apply pw_below_drewN | apply below_drew1 | refine below_set ?_ GE309.out) | exact HB.out))) (fun k_ h_ => by simp only [and_assoc] at h_ ⊢; exact h_)); (case side2 => repeat (first | exact (Kd.C_below HR4.out HB.out) | (with_reducible refine Kd.C_alloc ?_ _) | (with_reducible refine Kd.C_drewN ?_ _) | (with_reducible refine Kd.C_drew ?_))); (case side3 => exact HC4.out); (case side4 => repeat (first | exact (Kd.C_below HR5.out HB.out) | (with_reducible refine Kd.C_alloc ?_ _) | (with_reducible refine Kd.C_drewN ?_ _) | (with_reducible refine Kd.C_drew ?_))); (case side5 => exact HC5.out); rintro e w25 ⟨v318, rfl, ho0, hb⟩; refine ⟨_, rfl, ?_⟩; have n0_ := Aside0.mk (Kd.R_below (by (with_reducible repeat (first | apply Kd.R_alloc | apply Kd.R_drewN | apply Kd.R_drew)); exact HO315.out) hb); have n1_ := Aside0.mk (Kd.V_lower (Kd.V_mono (ok' := fun k_ => some k_ ≠ (v314 : Value).ownBlock ∧ k_ ≠ gb309) ho0 (fun k_ hk_ => ⟨Or.elim hk_ (fun hs_ => fun e_ => Nat.not_le.2 hs_ (Kd.R_base HO315.out k_ e_.symm)) (fun hn_ => (Kd.fresh' (Kd.R_lt (by (with_reducible repeat (first | apply Kd.R_alloc | apply Kd.R_drewN | apply Kd.R_drew)); exact HO315.out)) k_ hn_)), Or.elim hk_ (fun hs_ => fun e_ => Nat.not_le.2 hs_ (by rw [e_]; exact GW309.out)) (fun hn_ => (Kd.freshB (g := gb309) (o := .cells #[.int .i64 a0_0, .int .i64 a0_1, .int .i64 a0_2, .int .u64 a0_3, .int .u64 a0_4, .int .u64 a0_5] 29 (0, 0)) (by (with_reducible repeat (first | refine blk_drewN ?_ _ | refine blk_drew ?_ | refine blk_alloc ?_ _)); exact BK309.out) k_ hn_))⟩)) (below_size (by repeat (first | (with_reducible first | exact HB.out | apply below_alloc | apply pw_below_drewN | apply below_drew1 | refine below_set ?_ GE309.out) | exact HB.out)))); have n2_ := Aside0.mk (blk_below (g := gb309) (o := .cells #[.int .i64 a0_0, .int .i64 a0_1, .int .i64 a0_2, .int .u64 a0_3, .int .u64 a0_4, .int .u64 a0_5] 29 (0, 0)) (by (with_reducible repeat (first | refine blk_drewN ?_ _ | refine blk_drew ?_ | refine blk_alloc ?_ _)); exact BK309.out) hb); have n3_ := Aside0.mk (below_step (by repeat (first | (with_reducible first | exact HB.out | apply below_alloc | apply pw_below_drewN | apply below_drew1 | refine below_set ?_ GE309.out) | exact HB.out)) hb); clear HO315; clear BK309; clear HB; have HO315 := n0_; have HO319 := n1_; have BK309 := n2_; have HB := n3_; clear n0_ n1_ n2_ n3_; (try clear hb); (try clear hb2); (try clear hk); (try clear hi); (try clear ho0); obtain ⟨Ao26, co26, eo26⟩ := Kd.R_slice HO315.out; subst eo26; obtain ⟨Ao27, co27, eo27⟩ := Kd.V_slice HO319.out; subst eo27) | (go_at_call 15; (with_reducible refine (spec_SameText.calls _ _ t313 _ _ t317 t320 _ ?side1 ?side2 ?side3 ?side4 A21.out).mono ?_); (case side1 => repeat (first | exact (Kd.R_reads' HO315.out).2.2 | (with_reducible refine Kd.C_alloc ?_ _) | (with_reducible refine Kd.C_drewN ?_ _) | (with_reducible refine Kd.C_drew ?_))); (case side2 => exact (Kd.R_reads' HO315.out).2.1); (case side3 => repeat (first | exact (Kd.V_reads' HO319.out).2.2 | (with_reducible refine Kd.C_alloc ?_ _) | (with_reducible refine Kd.C_drewN ?_ _) | (with_reducible refine Kd.C_drew ?_))); (case side4 => exact (Kd.V_reads' HO319.out).2.1); rintro e w' ⟨rfl, ⟨nd, rfl⟩⟩))
                  go_ret
                  exact ⟨by first | rfl | (simp [errW_none, errW_some] <;> rfl) | (simp [*, errW_none, errW_some] <;> rfl), by repeat (first | (with_reducible first | exact HB.out | apply below_alloc | apply pw_below_drewN | apply below_drew1 | refine below_set ?_ GE309.out) | exact HB.out)⟩
                · rw [if_neg c20] at H
                  have c20b0 : (t316 == 1) = false := beq_eq_false_iff_ne.mpr c20
                  have c20b1 : (t316 != 1) = true := bne_iff_ne.mpr c20
                  obtain rfl := Option.some.inj H
                  have hcz28_0 : wc.cell? ⟨gb309, 0, none⟩ = some (.int .i64 a0_0) := (blk_cell BK309.out 0).trans rfl
                  have hcz28_1 : wc.cell? ⟨gb309, 1, none⟩ = some (.int .i64 a0_1) := (blk_cell BK309.out 1).trans rfl
                  have hcz28_2 : wc.cell? ⟨gb309, 2, none⟩ = some (.int .i64 a0_2) := (blk_cell BK309.out 2).trans rfl
                  have hcz28_3 : wc.cell? ⟨gb309, 3, none⟩ = some (.int .u64 a0_3) := (blk_cell BK309.out 3).trans rfl
                  have hcz28_4 : wc.cell? ⟨gb309, 4, none⟩ = some (.int .u64 a0_4) := (blk_cell BK309.out 4).trans rfl
                  have hcz28_5 : wc.cell? ⟨gb309, 5, none⟩ = some (.int .u64 a0_5) := (blk_cell BK309.out 5).trans rfl
                  have hfz28_0 := blk_frozen BK309.out 0
                  have hfz28_1 := blk_frozen BK309.out 1
                  have hfz28_2 := blk_frozen BK309.out 2
                  have hfz28_3 := blk_frozen BK309.out 3
                  have hfz28_4 := blk_frozen BK309.out 4
                  have hfz28_5 := blk_frozen BK309.out 5
                  go_wp2_with (first | ((with_reducible refine gate_callee (f := 18) rfl ?_); refine goesL_ (some 45) rfl rfl Try.func18 (by kernel_rfl) rfl #[.agg #[.int .i64 a0_0, .int .i64 a0_1, .int .i64 a0_2, .int .u64 a0_3, .int .u64 a0_4, .int .u64 a0_5], .int .u64 a1, .int .u64 a2, .slice A3 l3.length c3, .slice A4 l4.length c4, .slice A5 l5.length c5] rfl (by (try simp only [List.map_toArray, List.map_cons, List.map_nil]); first | done | rfl | (simp only [List.length_drop, List.length_take]; rfl)) ?_; (with_reducible refine (impl_VerifyInclusion.calls kj12 a0_0 a0_1 a0_2 a0_3 a0_4 a0_5 a1 a2 _ _ l3 _ _ l4 _ _ l5 t312 t313 _ ?side1 ?side2 ?side3 ?side4 ?side5 ?side6 A17.out).mono ?_); (case side1 => repeat (first | exact (Kd.C_below HR3.out HB.out) | (with_reducible refine Kd.C_alloc ?_ _) | (with_reducible refine Kd.C_drewN ?_ _) | (with_reducible refine Kd.C_drew ?_))); (case side2 => exact HC3.out); (case side3 => repeat (first | exact (Kd.C_below HR4.out HB.out) | (with_reducible refine Kd.C_alloc ?_ _) | (with_reducible refine Kd.C_drewN ?_ _) | (with_reducible refine Kd.C_drew ?_))); (case side4 => exact HC4.out); (case side5 => repeat (first | exact (Kd.C_below HR5.out HB.out) | (with_reducible refine Kd.C_alloc ?_ _) | (with_reducible refine Kd.C_drewN ?_ _) | (with_reducible refine Kd.C_drew ?_))); (case side6 => exact HC5.out); rintro e w29 ⟨v314, rfl, ho0, hb⟩; refine ⟨_, rfl, ?_⟩; have n0_ := Aside0.mk (Kd.R_lower ho0 (below_size (by repeat (first | (with_reducible first | exact HB.out | apply below_alloc | apply pw_below_drewN | apply below_drew1 | refine below_set ?_ GE309.out) | exact HB.out)))); have n1_ := Aside0.mk (blk_below (g := gb309) (o := .cells #[.int .i64 a0_0, .int .i64 a0_1, .int .i64 a0_2, .int .u64 a0_3, .int .u64 a0_4, .int .u64 a0_5] 29 (0, 0)) (by (with_reducible repeat (first | refine blk_drewN ?_ _ | refine blk_drew ?_ | refine blk_alloc ?_ _)); exact BK309.out) hb); have n2_ := Aside0.mk (below_step (by repeat (first | (with_reducible first | exact HB.out | apply below_alloc | apply pw_below_drewN | apply below_drew1 | refine below_set ?_ GE309.out) | exact HB.out)) hb); clear BK309; clear HB; have HO315 := n0_; have BK309 := n1_; have HB := n2_; clear n0_ n1_ n2_; (try clear hb); (try clear hb2); (try clear hk); (try clear hi); (try clear ho0); have hcz30_0 : w29.cell? ⟨gb309, 0, none⟩ = some (.int .i64 a0_0) := (blk_cell BK309.out 0).trans rfl; have hcz30_1 : w29.cell? ⟨gb309, 1, none⟩ = some (.int .i64 a0_1) := (blk_cell BK309.out 1).trans rfl; have hcz30_2 : w29.cell? ⟨gb309, 2, none⟩ = some (.int .i64 a0_2) := (blk_cell BK309.out 2).trans rfl; have hcz30_3 : w29.cell? ⟨gb309, 3, none⟩ = some (.int .u64 a0_3) := (blk_cell BK309.out 3).trans rfl; have hcz30_4 : w29.cell? ⟨gb309, 4, none⟩ = some (.int .u64 a0_4) := (blk_cell BK309.out 4).trans rfl; have hcz30_5 : w29.cell? ⟨gb309, 5, none⟩ = some (.int .u64 a0_5) := (blk_cell BK309.out 5).trans rfl; have hfz30_0 := blk_frozen BK309.out 0; have hfz30_1 := blk_frozen BK309.out 1; have hfz30_2 := blk_frozen BK309.out 2; have hfz30_3 := blk_frozen BK309.out 3; have hfz30_4 := blk_frozen BK309.out 4; have hfz30_5 := blk_frozen BK309.out 5) | ((with_reducible refine gate_callee (f := 19) rfl ?_); refine goesL_ (some 55) rfl rfl Try.func19 (by kernel_rfl) rfl #[.agg #[.int .i64 a0_0, .int .i64 a0_1, .int .i64 a0_2, .int .u64 a0_3, .int .u64 a0_4, .int .u64 a0_5], .int .u64 a1, .int .u64 a2, .slice A3 l3.length c3, .slice A4 l4.length c4, .slice A5 l5.length c5] rfl (by (try simp only [List.map_toArray, List.map_cons, List.map_nil]); first | done | rfl | (simp only [List.length_drop, List.length_take]; rfl)) ?_; (with_reducible refine (spec_VerifiedInclusion.calls kj12 a0_0 a0_1 a0_2 a0_3 a0_4 a0_5 a1 a2 (fun k_ => k_ < w.heap.size) _ _ l3 _ _ l4 _ _ l5 t316 t317 _ ?side1 ?side2 ?side3 ?side4 ?side5 A18.out).mono ?_); (case side1 => first | exact Kd.V_mk HC3.out (Kd.F_below (Kd.C_F (Kd.heap_int .u8) HR3.out) (by repeat (first | (with_reducible first | exact HB.out | apply below_alloc | apply pw_below_drewN | apply below_drew1 | refine below_set ?_ GE309.out) | exact HB.out))) | exact Kd.V_mono Kd.V_mk HC3.out (Kd.F_below (Kd.C_F (Kd.heap_int .u8) HR3.out) (by repeat (first | (with_reducible first | exact HB.out | apply below_alloc | apply pw_below_drewN | apply below_drew1 | refine below_set ?_ GE309.out) | exact HB.out))) (fun k_ h_ => by simp only [and_assoc] at h_ ⊢; exact h_)); (case side2 => repeat (first | exact (Kd.C_below HR4.out HB.out) | (with_reducible refine Kd.C_alloc ?_ _) | (with_reducible refine Kd.C_drewN ?_ _) | (with_reducible refine Kd.C_drew ?_))); (case side3 => exact HC4.out); (case side4 => repeat (first | exact (Kd.C_below HR5.out HB.out) | (with_reducible refine Kd.C_alloc ?_ _) | (with_reducible refine Kd.C_drewN ?_ _) | (with_reducible refine Kd.C_drew ?_))); (case side5 => exact HC5.out); rintro e w31 ⟨v318, rfl, ho0, hb⟩; refine ⟨_, rfl, ?_⟩; have n0_ := Aside0.mk (Kd.R_below (by (with_reducible repeat (first | apply Kd.R_alloc | apply Kd.R_drewN | apply Kd.R_drew)); exact HO315.out) hb); have n1_ := Aside0.mk (Kd.V_lower (Kd.V_mono (ok' := fun k_ => some k_ ≠ (v314 : Value).ownBlock ∧ k_ ≠ gb309) ho0 (fun k_ hk_ => ⟨Or.elim hk_ (fun hs_ => fun e_ => Nat.not_le.2 hs_ (Kd.R_base HO315.out k_ e_.symm)) (fun hn_ => (Kd.fresh' (Kd.R_lt (by (with_reducible repeat (first | apply Kd.R_alloc | apply Kd.R_drewN | apply Kd.R_drew)); exact HO315.out)) k_ hn_)), Or.elim hk_ (fun hs_ => fun e_ => Nat.not_le.2 hs_ (by rw [e_]; exact GW309.out)) (fun hn_ => (Kd.freshB (g := gb309) (o := .cells #[.int .i64 a0_0, .int .i64 a0_1, .int .i64 a0_2, .int .u64 a0_3, .int .u64 a0_4, .int .u64 a0_5] 29 (0, 0)) (by (with_reducible repeat (first | refine blk_drewN ?_ _ | refine blk_drew ?_ | refine blk_alloc ?_ _)); exact BK309.out) k_ hn_))⟩)) (below_size (by repeat (first | (with_reducible first | exact HB.out | apply below_alloc | apply pw_below_drewN | apply below_drew1 | refine below_set ?_ GE309.out) | exact HB.out)))); have n2_ := Aside0.mk (blk_below (g := gb309) (o := .cells #[.int .i64 a0_0, .int .i64 a0_1, .int .i64 a0_2, .int .u64 a0_3, .int .u64 a0_4, .int .u64 a0_5] 29 (0, 0)) (by (with_reducible repeat (first | refine blk_drewN ?_ _ | refine blk_drew ?_ | refine blk_alloc ?_ _)); exact BK309.out) hb); have n3_ := Aside0.mk (below_step (by repeat (first | (with_reducible first | exact HB.out | apply below_alloc | apply pw_below_drewN | apply below_drew1 | refine below_set ?_ GE309.out) | exact HB.out)) hb); clear HO315; clear BK309; clear HB; have HO315 := n0_; have HO319 := n1_; have BK309 := n2_; have HB := n3_; clear n0_ n1_ n2_ n3_; (try clear hb); (try clear hb2); (try clear hk); (try clear hi); (try clear ho0)))
                  go_ret
                  exact ⟨by first | rfl | (simp [errW_none, errW_some] <;> rfl) | (simp [*, errW_none, errW_some] <;> rfl), by repeat (first | (with_reducible first | exact HB.out | apply below_alloc | apply pw_below_drewN | apply below_drew1 | refine below_set ?_ GE309.out) | exact HB.out)⟩
              · rw [if_neg c19] at H
                have c19b0 : (t312 == t316) = false := beq_eq_false_iff_ne.mpr c19
                have c19b1 : (t312 != t316) = true := bne_iff_ne.mpr c19
                obtain rfl := Option.some.inj H
                have hcz32_0 : wc.cell? ⟨gb309, 0, none⟩ = some (.int .i64 a0_0) := (blk_cell BK309.out 0).trans rfl
                have hcz32_1 : wc.cell? ⟨gb309, 1, none⟩ = some (.int .i64 a0_1) := (blk_cell BK309.out 1).trans rfl
                have hcz32_2 : wc.cell? ⟨gb309, 2, none⟩ = some (.int .i64 a0_2) := (blk_cell BK309.out 2).trans rfl
                have hcz32_3 : wc.cell? ⟨gb309, 3, none⟩ = some (.int .u64 a0_3) := (blk_cell BK309.out 3).trans rfl
                have hcz32_4 : wc.cell? ⟨gb309, 4, none⟩ = some (.int .u64 a0_4) := (blk_cell BK309.out 4).trans rfl
                have hcz32_5 : wc.cell? ⟨gb309, 5, none⟩ = some (.int .u64 a0_5) := (blk_cell BK309.out 5).trans rfl
                have hfz32_0 := blk_frozen BK309.out 0
                have hfz32_1 := blk_frozen BK309.out 1
                have hfz32_2 := blk_frozen BK309.out 2
                have hfz32_3 := blk_frozen BK309.out 3
                have hfz32_4 := blk_frozen BK309.out 4
                have hfz32_5 := blk_frozen BK309.out 5
                go_wp2_with (first | ((with_reducible refine gate_callee (f := 18) rfl ?_); refine goesL_ (some 45) rfl rfl Try.func18 (by kernel_rfl) rfl #[.agg #[.int .i64 a0_0, .int .i64 a0_1, .int .i64 a0_2, .int .u64 a0_3, .int .u64 a0_4, .int .u64 a0_5], .int .u64 a1, .int .u64 a2, .slice A3 l3.length c3, .slice A4 l4.length c4, .slice A5 l5.length c5] rfl (by (try simp only [List.map_toArray, List.map_cons, List.map_nil]); first | done | rfl | (simp only [List.length_drop, List.length_take]; rfl)) ?_; (with_reducible refine (impl_VerifyInclusion.calls kj12 a0_0 a0_1 a0_2 a0_3 a0_4 a0_5 a1 a2 _ _ l3 _ _ l4 _ _ l5 t312 t313 _ ?side1 ?side2 ?side3 ?side4 ?side5 ?side6 A17.out).mono ?_); (case side1 => repeat (first | exact (Kd.C_below HR3.out HB.out) | (with_reducible refine Kd.C_alloc ?_ _) | (with_reducible refine Kd.C_drewN ?_ _) | (with_reducible refine Kd.C_drew ?_))); (case side2 => exact HC3.out); (case side3 => repeat (first | exact (Kd.C_below HR4.out HB.out) | (with_reducible refine Kd.C_alloc ?_ _) | (with_reducible refine Kd.C_drewN ?_ _) | (with_reducible refine Kd.C_drew ?_))); (case side4 => exact HC4.out); (case side5 => repeat (first | exact (Kd.C_below HR5.out HB.out) | (with_reducible refine Kd.C_alloc ?_ _) | (with_reducible refine Kd.C_drewN ?_ _) | (with_reducible refine Kd.C_drew ?_))); (case side6 => exact HC5.out); rintro e w33 ⟨v314, rfl, ho0, hb⟩; refine ⟨_, rfl, ?_⟩; have n0_ := Aside0.mk (Kd.R_lower ho0 (below_size (by repeat (first | (with_reducible first | exact HB.out | apply below_alloc | apply pw_below_drewN | apply below_drew1 | refine below_set ?_ GE309.out) | exact HB.out)))); have n1_ := Aside0.mk (blk_below (g := gb309) (o := .cells #[.int .i64 a0_0, .int .i64 a0_1, .int .i64 a0_2, .int .u64 a0_3, .int .u64 a0_4, .int .u64 a0_5] 29 (0, 0)) (by (with_reducible repeat (first | refine blk_drewN ?_ _ | refine blk_drew ?_ | refine blk_alloc ?_ _)); exact BK309.out) hb); have n2_ := Aside0.mk (below_step (by repeat (first | (with_reducible first | exact HB.out | apply below_alloc | apply pw_below_drewN | apply below_drew1 | refine below_set ?_ GE309.out) | exact HB.out)) hb); clear BK309; clear HB; have HO315 := n0_; have BK309 := n1_; have HB := n2_; clear n0_ n1_ n2_; (try clear hb); (try clear hb2); (try clear hk); (try clear hi); (try clear ho0); have hcz34_0 : w33.cell? ⟨gb309, 0, none⟩ = some (.int .i64 a0_0) := (blk_cell BK309.out 0).trans rfl; have hcz34_1 : w33.cell? ⟨gb309, 1, none⟩ = some (.int .i64 a0_1) := (blk_cell BK309.out 1).trans rfl; have hcz34_2 : w33.cell? ⟨gb309, 2, none⟩ = some (.int .i64 a0_2) := (blk_cell BK309.out 2).trans rfl; have hcz34_3 : w33.cell? ⟨gb309, 3, none⟩ = some (.int .u64 a0_3) := (blk_cell BK309.out 3).trans rfl; have hcz34_4 : w33.cell? ⟨gb309, 4, none⟩ = some (.int .u64 a0_4) := (blk_cell BK309.out 4).trans rfl; have hcz34_5 : w33.cell? ⟨gb309, 5, none⟩ = some (.int .u64 a0_5) := (blk_cell BK309.out 5).trans rfl; have hfz34_0 := blk_frozen BK309.out 0; have hfz34_1 := blk_frozen BK309.out 1; have hfz34_2 := blk_frozen BK309.out 2; have hfz34_3 := blk_frozen BK309.out 3; have hfz34_4 := blk_frozen BK309.out 4; have hfz34_5 := blk_frozen BK309.out 5) | ((with_reducible refine gate_callee (f := 19) rfl ?_); refine goesL_ (some 55) rfl rfl Try.func19 (by kernel_rfl) rfl #[.agg #[.int .i64 a0_0, .int .i64 a0_1, .int .i64 a0_2, .int .u64 a0_3, .int .u64 a0_4, .int .u64 a0_5], .int .u64 a1, .int .u64 a2, .slice A3 l3.length c3, .slice A4 l4.length c4, .slice A5 l5.length c5] rfl (by (try simp only [List.map_toArray, List.map_cons, List.map_nil]); first | done | rfl | (simp only [List.length_drop, List.length_take]; rfl)) ?_; (with_reducible refine (spec_VerifiedInclusion.calls kj12 a0_0 a0_1 a0_2 a0_3 a0_4 a0_5 a1 a2 (fun k_ => k_ < w.heap.size) _ _ l3 _ _ l4 _ _ l5 t316 t317 _ ?side1 ?side2 ?side3 ?side4 ?side5 A18.out).mono ?_); (case side1 => first | exact Kd.V_mk HC3.out (Kd.F_below (Kd.C_F (Kd.heap_int .u8) HR3.out) (by repeat (first | (with_reducible first | exact HB.out | apply below_alloc | apply pw_below_drewN | apply below_drew1 | refine below_set ?_ GE309.out) | exact HB.out))) | exact Kd.V_mono Kd.V_mk HC3.out (Kd.F_below (Kd.C_F (Kd.heap_int .u8) HR3.out) (by repeat (first | (with_reducible first | exact HB.out | apply below_alloc | apply pw_below_drewN | apply below_drew1 | refine below_set ?_ GE309.out) | exact HB.out))) (fun k_ h_ => by simp only [and_assoc] at h_ ⊢; exact h_)); (case side2 => repeat (first | exact (Kd.C_below HR4.out HB.out) | (with_reducible refine Kd.C_alloc ?_ _) | (with_reducible refine Kd.C_drewN ?_ _) | (with_reducible refine Kd.C_drew ?_))); (case side3 => exact HC4.out); (case side4 => repeat (first | exact (Kd.C_below HR5.out HB.out) | (with_reducible refine Kd.C_alloc ?_ _) | (with_reducible refine Kd.C_drewN ?_ _) | (with_reducible refine Kd.C_drew ?_))); (case side5 => exact HC5.out); rintro e w35 ⟨v318, rfl, ho0, hb⟩; refine ⟨_, rfl, ?_⟩; have n0_ := Aside0.mk (Kd.R_below (by (with_reducible repeat (first | apply Kd.R_alloc | apply Kd.R_drewN | apply Kd.R_drew)); exact HO315.out) hb); have n1_ := Aside0.mk (Kd.V_lower (Kd.V_mono (ok' := fun k_ => some k_ ≠ (v314 : Value).ownBlock ∧ k_ ≠ gb309) ho0 (fun k_ hk_ => ⟨Or.elim hk_ (fun hs_ => fun e_ => Nat.not_le.2 hs_ (Kd.R_base HO315.out k_ e_.symm)) (fun hn_ => (Kd.fresh' (Kd.R_lt (by (with_reducible repeat (first | apply Kd.R_alloc | apply Kd.R_drewN | apply Kd.R_drew)); exact HO315.out)) k_ hn_)), Or.elim hk_ (fun hs_ => fun e_ => Nat.not_le.2 hs_ (by rw [e_]; exact GW309.out)) (fun hn_ => (Kd.freshB (g := gb309) (o := .cells #[.int .i64 a0_0, .int .i64 a0_1, .int .i64 a0_2, .int .u64 a0_3, .int .u64 a0_4, .int .u64 a0_5] 29 (0, 0)) (by (with_reducible repeat (first | refine blk_drewN ?_ _ | refine blk_drew ?_ | refine blk_alloc ?_ _)); exact BK309.out) k_ hn_))⟩)) (below_size (by repeat (first | (with_reducible first | exact HB.out | apply below_alloc | apply pw_below_drewN | apply below_drew1 | refine below_set ?_ GE309.out) | exact HB.out)))); have n2_ := Aside0.mk (blk_below (g := gb309) (o := .cells #[.int .i64 a0_0, .int .i64 a0_1, .int .i64 a0_2, .int .u64 a0_3, .int .u64 a0_4, .int .u64 a0_5] 29 (0, 0)) (by (with_reducible repeat (first | refine blk_drewN ?_ _ | refine blk_drew ?_ | refine blk_alloc ?_ _)); exact BK309.out) hb); have n3_ := Aside0.mk (below_step (by repeat (first | (with_reducible first | exact HB.out | apply below_alloc | apply pw_below_drewN | apply below_drew1 | refine below_set ?_ GE309.out) | exact HB.out)) hb); clear HO315; clear BK309; clear HB; have HO315 := n0_; have HO319 := n1_; have BK309 := n2_; have HB := n3_; clear n0_ n1_ n2_ n3_; (try clear hb); (try clear hb2); (try clear hk); (try clear hi); (try clear ho0)))
                go_ret
                exact ⟨by first | rfl | (simp [errW_none, errW_some] <;> rfl) | (simp [*, errW_none, errW_some] <;> rfl), by repeat (first | (with_reducible first | exact HB.out | apply below_alloc | apply pw_below_drewN | apply below_drew1 | refine below_set ?_ GE309.out) | exact HB.out)⟩

end Go.Proofs.Ytkmdkmlgahfcpaa.M

