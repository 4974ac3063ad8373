-- Written by a program of ours (wip/xp) out of the translation; Lean checks it.
import Derived.Test.YtkmdkmlgahfcpaaM0
import Derived.Test.YtkmdkmlgahfcpaaMF6
import Derived.Test.YtkmdkmlgahfcpaaMF7
import Derived.Test.YtkmdkmlgahfcpaaMF8
import Derived.Test.YtkmdkmlgahfcpaaMF9
namespace Go.Proofs.Ytkmdkmlgahfcpaa.M
open Go.RowKit Go.Proofs.YtkmdkmlgahfcpaaW.PrintWords Go.Proofs.YtkmdkmlgahfcpaaW.PrintLast Go.Proofs.YtkmdkmlgahfcpaaW.PrintMore
attribute [local go_sem] max2_int min2_int max_two min_two max_three min_three max_four min_four   -- for this text's walks alone
set_option linter.unusedVariables false
set_option linter.unusedSimpArgs false

/-! ### laws_FnRangeEqual: function 3 -/
mutual
def laws_FnRangeEqual.j0 : Nat → Bool → Int → Int → List (List Int) → Int → Int → List (List Int) → Option (Bool)
  | 0, _, _, _, _, _, _, _ => none
  | k + 1, x12, x139000, x139001, x139002, x140000, x140001, x140002 => if x12 = true then (some true) else ((spec_ProperRange.f k x139000 x139001 x139002).bind fun t142 => (if t142 = true then ((spec_ProperRange.f k x140000 x140001 x140002).bind fun t143 => (laws_FnRangeEqual.j1 k (!t143) x139000 x139001 x139002 x140000 x140001 x140002)) else (laws_FnRangeEqual.j1 k true x139000 x139001 x139002 x140000 x140001 x140002)))
def laws_FnRangeEqual.j1 : Nat → Bool → Int → Int → List (List Int) → Int → Int → List (List Int) → Option (Bool)
  | 0, _, _, _, _, _, _, _ => none
  | k + 1, x20, x139000, x139001, x139002, x140000, x140001, x140002 => if x20 = true then (some true) else ((impl_EqualRanges.f k x139000 x139001 x139002 x140000 x140001 x140002).bind fun t144 => ((spec_SameRange.f k x139000 x139001 x139002 x140000 x140001 x140002).bind fun t145 => (if (t144 == t145) = true then ((impl_EqualRanges.f k x139000 x139001 x139002 x139000 x139001 x139002).bind fun t146 => (some t146)) else (some false))))
end
def laws_FnRangeEqual.f (k : Nat) (a0_0 : Int) (a0_1 : Int) (l0_2 : List (List Int)) (a1_0 : Int) (a1_1 : Int) (l1_2 : List (List Int)) : Option (Bool) := (laws_zzFits7.f k a0_0 a0_1 l0_2).bind fun t140 => (if t140 = true then ((laws_zzFits7.f k a1_0 a1_1 l1_2).bind fun t141 => (laws_FnRangeEqual.j0 k (!t141) a0_0 a0_1 l0_2 a1_0 a1_1 l1_2)) else (laws_FnRangeEqual.j0 k true a0_0 a0_1 l0_2 a1_0 a1_1 l1_2))
theorem laws_FnRangeEqual.mono_l : ∀ k, (∀ y0 y1 y2 y3 y4 y5 y6, LeO (laws_FnRangeEqual.j0 k y0 y1 y2 y3 y4 y5 y6) (laws_FnRangeEqual.j0 (k + 1) y0 y1 y2 y3 y4 y5 y6)) ∧ (∀ y0 y1 y2 y3 y4 y5 y6, LeO (laws_FnRangeEqual.j1 k y0 y1 y2 y3 y4 y5 y6) (laws_FnRangeEqual.j1 (k + 1) y0 y1 y2 y3 y4 y5 y6))
  | 0 => ⟨fun _ _ _ _ _ _ _ r h => by simp [laws_FnRangeEqual.j0] at h, fun _ _ _ _ _ _ _ r h => by simp [laws_FnRangeEqual.j1] at h⟩
  | k + 1 => by
    obtain ⟨ih0, ih1⟩ := laws_FnRangeEqual.mono_l k
    refine ⟨?_, ?_⟩
    · intro y0 y1 y2 y3 y4 y5 y6
      unfold laws_FnRangeEqual.j0
      repeat' first
      | (with_reducible exact ih0 _ _ _ _ _ _ _)
      | (with_reducible exact ih1 _ _ _ _ _ _ _)
      | (with_reducible exact impl_EqualRanges.mono _ _ _ _ _ _ _)
      | (with_reducible exact laws_zzFits7.mono _ _ _ _)
      | (with_reducible exact spec_ProperRange.mono _ _ _ _)
      | (with_reducible exact spec_SameRange.mono _ _ _ _ _ _ _)
      | (with_reducible exact LeO.refl _)
      | (with_reducible exact LeO.none _)
      | (with_reducible refine LeO.ite ?_ ?_)
      | (with_reducible refine LeO.bind ?_ (fun _ => ?_))
      | exact ih0 _ _ _ _ _ _ _
      | exact ih1 _ _ _ _ _ _ _
      | exact impl_EqualRanges.mono _ _ _ _ _ _ _
      | exact laws_zzFits7.mono _ _ _ _
      | exact spec_ProperRange.mono _ _ _ _
      | exact spec_SameRange.mono _ _ _ _ _ _ _
      | exact LeO.none _
      | refine LeO.ite ?_ ?_
      | refine LeO.bind ?_ (fun _ => ?_)
    · intro y0 y1 y2 y3 y4 y5 y6
      unfold laws_FnRangeEqual.j1
      repeat' first
      | (with_reducible exact ih0 _ _ _ _ _ _ _)
      | (with_reducible exact ih1 _ _ _ _ _ _ _)
      | (with_reducible exact impl_EqualRanges.mono _ _ _ _ _ _ _)
      | (with_reducible exact laws_zzFits7.mono _ _ _ _)
      | (with_reducible exact spec_ProperRange.mono _ _ _ _)
      | (with_reducible exact spec_SameRange.mono _ _ _ _ _ _ _)
      | (with_reducible exact LeO.refl _)
      | (with_reducible exact LeO.none _)
      | (with_reducible refine LeO.ite ?_ ?_)
      | (with_reducible refine LeO.bind ?_ (fun _ => ?_))
      | exact ih0 _ _ _ _ _ _ _
      | exact ih1 _ _ _ _ _ _ _
      | exact impl_EqualRanges.mono _ _ _ _ _ _ _
      | exact laws_zzFits7.mono _ _ _ _
      | exact spec_ProperRange.mono _ _ _ _
      | exact spec_SameRange.mono _ _ _ _ _ _ _
      | exact LeO.none _
      | refine LeO.ite ?_ ?_
      | refine LeO.bind ?_ (fun _ => ?_)
theorem laws_FnRangeEqual.mono : ∀ a0 a1 a2 a3 a4 a5 k, LeO (laws_FnRangeEqual.f k a0 a1 a2 a3 a4 a5) (laws_FnRangeEqual.f (k + 1) a0 a1 a2 a3 a4 a5) := by
  intro a0 a1 a2 a3 a4 a5 k
  obtain ⟨ih0, ih1⟩ := laws_FnRangeEqual.mono_l k
  unfold laws_FnRangeEqual.f
  repeat' first
      | (with_reducible exact ih0 _ _ _ _ _ _ _)
      | (with_reducible exact ih1 _ _ _ _ _ _ _)
      | (with_reducible exact impl_EqualRanges.mono _ _ _ _ _ _ _)
      | (with_reducible exact laws_zzFits7.mono _ _ _ _)
      | (with_reducible exact spec_ProperRange.mono _ _ _ _)
      | (with_reducible exact spec_SameRange.mono _ _ _ _ _ _ _)
      | (with_reducible exact LeO.refl _)
      | (with_reducible exact LeO.none _)
      | (with_reducible refine LeO.ite ?_ ?_)
      | (with_reducible refine LeO.bind ?_ (fun _ => ?_))
      | exact ih0 _ _ _ _ _ _ _
      | exact ih1 _ _ _ _ _ _ _
      | exact impl_EqualRanges.mono _ _ _ _ _ _ _
      | exact laws_zzFits7.mono _ _ _ _
      | exact spec_ProperRange.mono _ _ _ _
      | exact spec_SameRange.mono _ _ _ _ _ _ _
      | exact LeO.none _
      | refine LeO.ite ?_ ?_
      | refine LeO.bind ?_ (fun _ => ?_)
def laws_FnRangeEqual.T5 : Bool × List (List Nat × List Nat) := (true, [([], []), ([], []), ([0, 1], [0, 1]), ([], []), ([], []), ([3, 4, 2], [3, 4]), ([2, 5], [2, 5]), ([6, 5], [6]), ([7], [7]), ([7], [7]), ([8, 9, 7, 7], [7, 8, 9]), ([7, 10], [7, 10]), ([11, 10, 0, 1, 2, 3, 4, 5, 6, 7, 8, 9, 10, 11], [11])])
def laws_FnRangeEqual.B5 : List Nat := [0, 0, 3, 0, 0, 31, 63, 127, 255, 255, 1023, 2047, 4095]
theorem laws_FnRangeEqual.tab5 : rtab .any (opsOf Try.f3 5) = laws_FnRangeEqual.T5 := by kernel_rfl
theorem laws_FnRangeEqual.bits5 : waitsOk laws_FnRangeEqual.T5.2 laws_FnRangeEqual.B5 = true := by kernel_rfl
set_option maxHeartbeats 8000000 in
set_option maxRecDepth 100000 in
theorem laws_FnRangeEqual.calls (k : Nat) (a0_0 : Int) (a0_1 : Int) (A0_2 : Option Addr) (c0_2 : Nat) (l0_2 : List (List Int)) (a1_0 : Int) (a1_1 : Int) (A1_2 : Option Addr) (c1_2 : Nat) (l1_2 : List (List Int)) (r : Bool) (w : World) (hr0_2 : Kd.C (Kd.slice 5 (Kd.int .u8)) w A0_2 l0_2.length l0_2) (hc0_2 : l0_2.length ≤ c0_2) (hr1_2 : Kd.C (Kd.slice 5 (Kd.int .u8)) w A1_2 l1_2.length l1_2) (hc1_2 : l1_2.length ≤ c1_2) (h : laws_FnRangeEqual.f k a0_0 a0_1 l0_2 a1_0 a1_1 l1_2 = some r) :
    Calls Try.prog 3 #[.agg #[.int .u64 a0_0, .int .u64 a0_1, .slice A0_2 l0_2.length c0_2], .agg #[.int .u64 a1_0, .int .u64 a1_1, .slice A1_2 l1_2.length c1_2]] w fun e w' => e = .returned (.bool r) ∧ Below w.heap.size w w' := by
  have hu25 := Try.underlying25
  have HR0_2 := Aside0.mk hr0_2
  have HC0_2 := Aside0.mk hc0_2
  clear hr0_2 hc0_2
  have HR1_2 := Aside0.mk hr1_2
  have HC1_2 := Aside0.mk hc1_2
  clear hr1_2 hc1_2
  have HB := Aside0.mk (Below.refl w.heap.size w)
  have H : ((laws_zzFits7.f k a0_0 a0_1 l0_2).bind fun t140 => (if t140 = true then ((laws_zzFits7.f k a1_0 a1_1 l1_2).bind fun t141 => (laws_FnRangeEqual.j0 k (!t141) a0_0 a0_1 l0_2 a1_0 a1_1 l1_2)) else (laws_FnRangeEqual.j0 k true a0_0 a0_1 l0_2 a1_0 a1_1 l1_2))) = some r := h
  clear h
  have HC3 := Aside0.mk H
  clear H
  go_enter Try.func3, Try.ntmps3
  go_upto_region 1 with (first | ((with_reducible refine gate_dst (N := 2) rfl ?_); refine box_event ?hg (N := 2) ?hd (cs := #[.int .u64 a0_0, .int .u64 a0_1, .slice A0_2 l0_2.length c0_2]) (t := 25) ?hr ?_; (case hd => rfl); (case hg => rfl); (case hr => first | (go_simp; done) | (go_simp; rfl)); intro gb138 hg w4 hbox hb; have n0_ := Aside0.mk (below_step (by repeat (first | (with_reducible first | exact HB.out | apply below_alloc | apply pw_below_drewN | apply below_drew1) | exact HB.out)) hb); have n1_ := Aside0.mk (hbox); have n2_ := Aside0.mk ((by rw [hg]; exact (below_size (by repeat (first | (with_reducible first | exact HB.out | apply below_alloc | apply pw_below_drewN | apply below_drew1) | exact HB.out))) : w.heap.size ≤ gb138)); have n3_ := Aside0.mk ((by rw [hg]; exact (below_size (by repeat (first | (with_reducible first | exact HB.out | apply below_alloc | apply pw_below_drewN | apply below_drew1) | exact HB.out))) : w.heap.size ≤ gb138)); clear HB; have HB := n0_; have BK138 := n1_; have GW138 := n2_; have GE138 := n3_; clear n0_ n1_ n2_ n3_; clear hb hbox hg) | ((with_reducible refine gate_dst (N := 3) rfl ?_); refine box_event ?hg (N := 3) ?hd (cs := #[.int .u64 a1_0, .int .u64 a1_1, .slice A1_2 l1_2.length c1_2]) (t := 25) ?hr ?_; (case hd => rfl); (case hg => rfl); (case hr => first | (go_simp; done) | (go_simp; rfl)); intro gb139 hg w5 hbox hb; have n0_ := Aside0.mk (blk_below (g := gb138) (o := .cells #[.int .u64 a0_0, .int .u64 a0_1, .slice A0_2 l0_2.length c0_2] 25 (0, 0)) (by (with_reducible repeat (first | refine blk_drewN ?_ _ | refine blk_drew ?_ | refine blk_alloc ?_ _)); exact BK138.out) hb); have n1_ := Aside0.mk (below_step (by repeat (first | (with_reducible first | exact HB.out | apply below_alloc | apply pw_below_drewN | apply below_drew1 | refine below_set ?_ GE138.out) | exact HB.out)) hb); have n2_ := Aside0.mk (hbox); have n3_ := Aside0.mk ((by rw [hg]; exact (below_size (by repeat (first | (with_reducible first | exact HB.out | apply below_alloc | apply pw_below_drewN | apply below_drew1 | refine below_set ?_ GE138.out) | exact HB.out))) : w.heap.size ≤ gb139)); have n4_ := Aside0.mk ((by rw [hg]; exact (below_size (by repeat (first | (with_reducible first | exact HB.out | apply below_alloc | apply pw_below_drewN | apply below_drew1 | refine below_set ?_ GE138.out) | exact HB.out))) : w.heap.size ≤ gb139)); have n5_ := Aside0.mk ((by rw [hg]; exact Nat.ne_of_lt (blk_lt (g := gb138) (o := .cells #[.int .u64 a0_0, .int .u64 a0_1, .slice A0_2 l0_2.length c0_2] 25 (0, 0)) (by (with_reducible repeat (first | refine blk_drewN ?_ _ | refine blk_drew ?_ | refine blk_alloc ?_ _)); exact BK138.out)) : gb138 ≠ gb139)); have n6_ := Aside0.mk ((by rw [hg]; exact Nat.ne_of_gt (blk_lt (g := gb138) (o := .cells #[.int .u64 a0_0, .int .u64 a0_1, .slice A0_2 l0_2.length c0_2] 25 (0, 0)) (by (with_reducible repeat (first | refine blk_drewN ?_ _ | refine blk_drew ?_ | refine blk_alloc ?_ _)); exact BK138.out)) : gb139 ≠ gb138)); clear BK138; clear HB; have BK138 := n0_; have HB := n1_; have BK139 := n2_; have GW139 := n3_; have GE139 := n4_; have NB138_139 := n5_; have NB139_138 := n6_; clear n0_ n1_ n2_ n3_ n4_ n5_ n6_; clear hb hbox hg))
  (try simp only [Act.put, List.setIfInBounds_toArray, List.set_cons_zero, List.set_cons_succ])
  go_cut [12] (fun v12 wc => ∃ (kq : Nat) (x12_2 : Bool), v12 = .bool x12_2 ∧ Aside0 (laws_FnRangeEqual.j0 kq x12_2 a0_0 a0_1 l0_2 a1_0 a1_1 l1_2 = some r) ∧ Aside0 (kq ≤ k) ∧ Aside0 (wc.heap[gb138]? = some (.cells #[.int .u64 a0_0, .int .u64 a0_1, (.slice A0_2 l0_2.length c0_2)] 25 (0, 0))) ∧ Aside0 (wc.heap[gb139]? = some (.cells #[.int .u64 a1_0, .int .u64 a1_1, (.slice A1_2 l1_2.length c1_2)] 25 (0, 0))) ∧ Aside0 (Below w.heap.size w wc))
  case first =>
    have H := HC3.out
    clear HC3
    replace H := Option.bind_eq_some_iff.mp H
    obtain ⟨t140, A60, H⟩ := H
    replace H : (if t140 = true then ((laws_zzFits7.f k a1_0 a1_1 l1_2).bind fun t141 => (laws_FnRangeEqual.j0 k (!t141) a0_0 a0_1 l0_2 a1_0 a1_1 l1_2)) else (laws_FnRangeEqual.j0 k true a0_0 a0_1 l0_2 a1_0 a1_1 l1_2)) = some r := H
    have A6 := Aside0.mk A60
    clear A60
    by_cases c7 : t140 = true
    · subst c7
      have H1 : ((laws_zzFits7.f k a1_0 a1_1 l1_2).bind fun t141 => (laws_FnRangeEqual.j0 k (!t141) a0_0 a0_1 l0_2 a1_0 a1_1 l1_2)) = some r := by rw [if_pos rfl] at H; exact H
      clear H
      have H := H1
      clear H1
      replace H := Option.bind_eq_some_iff.mp H
      obtain ⟨t141, A80, H⟩ := H
      replace H : (laws_FnRangeEqual.j0 k (!t141) a0_0 a0_1 l0_2 a1_0 a1_1 l1_2) = some r := H
      have A8 := Aside0.mk A80
      clear A80
      have H' := Aside0.mk H
      clear H
      have hnb9 := NB138_139.out
      have hnc9 := NB139_138.out
      have hcz10_0 : w5.cell? ⟨gb138, 0, none⟩ = some (.int .u64 a0_0) := (blk_cell BK138.out 0).trans rfl
      have hcz10_1 : w5.cell? ⟨gb138, 1, none⟩ = some (.int .u64 a0_1) := (blk_cell BK138.out 1).trans rfl
      have hcz10_2 : w5.cell? ⟨gb138, 2, none⟩ = some (.slice A0_2 l0_2.length c0_2) := (blk_cell BK138.out 2).trans rfl
      have hfz10_0 := blk_frozen BK138.out 0
      have hfz10_1 := blk_frozen BK138.out 1
      have hfz10_2 := blk_frozen BK138.out 2
      go_wp2_with (first | ((with_reducible refine gate_callee (f := 6) rfl ?_); refine goesL_ (some 6) rfl rfl Try.func6 (by kernel_rfl) rfl #[.agg #[.int .u64 a0_0, .int .u64 a0_1, .slice A0_2 l0_2.length c0_2]] rfl (by (try simp only [List.map_toArray, List.map_cons, List.map_nil]); first | done | rfl | (simp only [List.length_drop, List.length_take]; rfl)) ?_; (with_reducible refine (laws_zzFits7.calls k a0_0 a0_1 _ _ l0_2 true _ ?side1 ?side2 A6.out).mono ?_); (case side1 => repeat (first | exact (Kd.C_below HR0_2.out HB.out) | (with_reducible refine Kd.C_alloc ?_ _) | (with_reducible refine Kd.C_drewN ?_ _) | (with_reducible refine Kd.C_drew ?_))); (case side2 => exact HC0_2.out); rintro e w11 ⟨rfl, hb⟩; refine ⟨_, rfl, ?_⟩; have n0_ := Aside0.mk (blk_below (g := gb138) (o := .cells #[.int .u64 a0_0, .int .u64 a0_1, .slice A0_2 l0_2.length c0_2] 25 (0, 0)) (by (with_reducible repeat (first | refine blk_drewN ?_ _ | refine blk_drew ?_ | refine blk_alloc ?_ _)); exact BK138.out) hb); have n1_ := Aside0.mk (blk_below (g := gb139) (o := .cells #[.int .u64 a1_0, .int .u64 a1_1, .slice A1_2 l1_2.length c1_2] 25 (0, 0)) (by (with_reducible repeat (first | refine blk_drewN ?_ _ | refine blk_drew ?_ | refine blk_alloc ?_ _)); exact BK139.out) hb); have n2_ := Aside0.mk (below_step (by repeat (first | (with_reducible first | exact HB.out | apply below_alloc | apply pw_below_drewN | apply below_drew1 | refine below_set ?_ GE138.out | refine below_set ?_ GE139.out) | exact HB.out)) hb); clear BK138; clear BK139; clear HB; have BK138 := n0_; have BK139 := n1_; have HB := n2_; clear n0_ n1_ n2_; (try clear hb); (try clear hb2); (try clear hk); (try clear hi); have hcz12_0 : w11.cell? ⟨gb139, 0, none⟩ = some (.int .u64 a1_0) := (blk_cell BK139.out 0).trans rfl; have hcz12_1 : w11.cell? ⟨gb139, 1, none⟩ = some (.int .u64 a1_1) := (blk_cell BK139.out 1).trans rfl; have hcz12_2 : w11.cell? ⟨gb139, 2, none⟩ = some (.slice A1_2 l1_2.length c1_2) := (blk_cell BK139.out 2).trans rfl; have hfz12_0 := blk_frozen BK139.out 0; have hfz12_1 := blk_frozen BK139.out 1; have hfz12_2 := blk_frozen BK139.out 2) | (go_at_call 6; (with_reducible refine (laws_zzFits7.calls k a1_0 a1_1 _ _ l1_2 t141 _ ?side1 ?side2 A8.out).mono ?_); (case side1 => repeat (first | exact (Kd.C_below HR1_2.out HB.out) | (with_reducible refine Kd.C_alloc ?_ _) | (with_reducible refine Kd.C_drewN ?_ _) | (with_reducible refine Kd.C_drew ?_))); (case side2 => exact HC1_2.out); rintro e w13 ⟨rfl, hb⟩; have n0_ := Aside0.mk (blk_below (g := gb138) (o := .cells #[.int .u64 a0_0, .int .u64 a0_1, .slice A0_2 l0_2.length c0_2] 25 (0, 0)) (by (with_reducible repeat (first | refine blk_drewN ?_ _ | refine blk_drew ?_ | refine blk_alloc ?_ _)); exact BK138.out) hb); have n1_ := Aside0.mk (blk_below (g := gb139) (o := .cells #[.int .u64 a1_0, .int .u64 a1_1, .slice A1_2 l1_2.length c1_2] 25 (0, 0)) (by (with_reducible repeat (first | refine blk_drewN ?_ _ | refine blk_drew ?_ | refine blk_alloc ?_ _)); exact BK139.out) hb); have n2_ := Aside0.mk (below_step (by repeat (first | (with_reducible first | exact HB.out | apply below_alloc | apply pw_below_drewN | apply below_drew1 | refine below_set ?_ GE138.out | refine below_set ?_ GE139.out) | exact HB.out)) hb); clear BK138; clear BK139; clear HB; have BK138 := n0_; have BK139 := n1_; have HB := n2_; clear n0_ n1_ n2_; (try clear hb); (try clear hb2); (try clear hk); (try clear hi)))
      go_meet
      case rel => exact ⟨_, (!t141), (by first | rfl | (simp; done) | (simp [*]; done)), H', ⟨by first | omega | exact Nat.le_refl _⟩, ⟨by (with_reducible repeat (first | refine blk_drewN ?_ _ | refine blk_drew ?_ | refine blk_alloc ?_ _)); exact BK138.out⟩, ⟨by (with_reducible repeat (first | refine blk_drewN ?_ _ | refine blk_drew ?_ | refine blk_alloc ?_ _)); exact BK139.out⟩, ⟨by repeat (first | (with_reducible first | exact HB.out | apply below_alloc | apply pw_below_drewN | apply below_drew1 | refine below_set ?_ GE138.out | refine below_set ?_ GE139.out) | exact HB.out)⟩⟩
    · replace c7 := Bool.eq_false_iff.mpr c7
      subst c7
      have H1 : (laws_FnRangeEqual.j0 k true a0_0 a0_1 l0_2 a1_0 a1_1 l1_2) = some r := by rw [if_neg (show ¬ (false = true) by decide)] at H; exact H
      clear H
      have H := H1
      clear H1
      have H' := Aside0.mk H
      clear H
      have hnb14 := NB138_139.out
      have hnc14 := NB139_138.out
      have hcz15_0 : w5.cell? ⟨gb138, 0, none⟩ = some (.int .u64 a0_0) := (blk_cell BK138.out 0).trans rfl
      have hcz15_1 : w5.cell? ⟨gb138, 1, none⟩ = some (.int .u64 a0_1) := (blk_cell BK138.out 1).trans rfl
      have hcz15_2 : w5.cell? ⟨gb138, 2, none⟩ = some (.slice A0_2 l0_2.length c0_2) := (blk_cell BK138.out 2).trans rfl
      have hfz15_0 := blk_frozen BK138.out 0
      have hfz15_1 := blk_frozen BK138.out 1
      have hfz15_2 := blk_frozen BK138.out 2
      go_wp2_with (first | ((with_reducible refine gate_callee (f := 6) rfl ?_); refine goesL_ (some 6) rfl rfl Try.func6 (by kernel_rfl) rfl #[.agg #[.int .u64 a0_0, .int .u64 a0_1, .slice A0_2 l0_2.length c0_2]] rfl (by (try simp only [List.map_toArray, List.map_cons, List.map_nil]); first | done | rfl | (simp only [List.length_drop, List.length_take]; rfl)) ?_; (with_reducible refine (laws_zzFits7.calls k a0_0 a0_1 _ _ l0_2 false _ ?side1 ?side2 A6.out).mono ?_); (case side1 => repeat (first | exact (Kd.C_below HR0_2.out HB.out) | (with_reducible refine Kd.C_alloc ?_ _) | (with_reducible refine Kd.C_drewN ?_ _) | (with_reducible refine Kd.C_drew ?_))); (case side2 => exact HC0_2.out); rintro e w16 ⟨rfl, hb⟩; refine ⟨_, rfl, ?_⟩; have n0_ := Aside0.mk (blk_below (g := gb138) (o := .cells #[.int .u64 a0_0, .int .u64 a0_1, .slice A0_2 l0_2.length c0_2] 25 (0, 0)) (by (with_reducible repeat (first | refine blk_drewN ?_ _ | refine blk_drew ?_ | refine blk_alloc ?_ _)); exact BK138.out) hb); have n1_ := Aside0.mk (blk_below (g := gb139) (o := .cells #[.int .u64 a1_0, .int .u64 a1_1, .slice A1_2 l1_2.length c1_2] 25 (0, 0)) (by (with_reducible repeat (first | refine blk_drewN ?_ _ | refine blk_drew ?_ | refine blk_alloc ?_ _)); exact BK139.out) hb); have n2_ := Aside0.mk (below_step (by repeat (first | (with_reducible first | exact HB.out | apply below_alloc | apply pw_below_drewN | apply below_drew1 | refine below_set ?_ GE138.out | refine below_set ?_ GE139.out) | exact HB.out)) hb); clear BK138; clear BK139; clear HB; have BK138 := n0_; have BK139 := n1_; have HB := n2_; clear n0_ n1_ n2_; (try clear hb); (try clear hb2); (try clear hk); (try clear hi)))
      go_meet
      case rel => exact ⟨_, (true), (by first | rfl | (simp; done) | (simp [*]; done)), H', ⟨by first | omega | exact Nat.le_refl _⟩, ⟨by (with_reducible repeat (first | refine blk_drewN ?_ _ | refine blk_drew ?_ | refine blk_alloc ?_ _)); exact BK138.out⟩, ⟨by (with_reducible repeat (first | refine blk_drewN ?_ _ | refine blk_drew ?_ | refine blk_alloc ?_ _)); exact BK139.out⟩, ⟨by repeat (first | (with_reducible first | exact HB.out | apply below_alloc | apply pw_below_drewN | apply below_drew1 | refine below_set ?_ GE138.out | refine below_set ?_ GE139.out) | exact HB.out)⟩⟩
  case rest =>
    clear HC3
    try clear c1
    try clear p2
    try clear c3
    try clear c6
    try clear c7
    try clear c9
    try clear c14
    try clear hcz10_0
    try clear hcz10_1
    try clear hcz10_2
    try clear hcz12_0
    try clear hcz12_1
    try clear hcz12_2
    try clear hcz15_0
    try clear hcz15_1
    try clear hcz15_2
    try clear hfz10_0
    try clear hfz10_1
    try clear hfz10_2
    try clear hfz12_0
    try clear hfz12_1
    try clear hfz12_2
    try clear hfz15_0
    try clear hfz15_1
    try clear hfz15_2
    obtain ⟨kq, x12_2, rfl, HA, HJ2, BK138, BK139, HB⟩ := hcut
    cases kq with
    | zero => exact absurd HA.out (by simp [laws_FnRangeEqual.j0])
    | succ kj2 =>
      have H := HA.out
      clear HA
      simp only [laws_FnRangeEqual.j0] at H
      by_cases c17 : x12_2 = true
      · subst c17
        have H1 : (some true) = some r := by rw [if_pos rfl] at H; exact H
        clear H
        have H := H1
        clear H1
        obtain rfl := Option.some.inj H
        go_wp2
        go_ret
        exact ⟨by first | rfl | (simp [errW_none, errW_some] <;> rfl) | (simp [*, errW_none, errW_some] <;> rfl), by repeat (first | (with_reducible first | exact HB.out | apply below_alloc | apply pw_below_drewN | apply below_drew1 | refine below_set ?_ GE138.out | refine below_set ?_ GE139.out) | exact HB.out)⟩
      · replace c17 := Bool.eq_false_iff.mpr c17
        subst c17
        have H1 : ((spec_ProperRange.f kj2 a0_0 a0_1 l0_2).bind fun t142 => (if t142 = true then ((spec_ProperRange.f kj2 a1_0 a1_1 l1_2).bind fun t143 => (laws_FnRangeEqual.j1 kj2 (!t143) a0_0 a0_1 l0_2 a1_0 a1_1 l1_2)) else (laws_FnRangeEqual.j1 kj2 true a0_0 a0_1 l0_2 a1_0 a1_1 l1_2))) = some r := by rw [if_neg (show ¬ (false = true) by decide)] at H; exact H
        clear H
        have H := H1
        clear H1
        have HC18 := Aside0.mk H
        clear H
        go_upto_region 3 with (fail)
        go_cut [20] (fun v20 wc => ∃ (kq : Nat) (x20_17 : Bool), v20 = .bool x20_17 ∧ Aside0 (laws_FnRangeEqual.j1 kq x20_17 a0_0 a0_1 l0_2 a1_0 a1_1 l1_2 = some r) ∧ Aside0 (kq ≤ kj2) ∧ Aside0 (wc.heap[gb138]? = some (.cells #[.int .u64 a0_0, .int .u64 a0_1, (.slice A0_2 l0_2.length c0_2)] 25 (0, 0))) ∧ Aside0 (wc.heap[gb139]? = some (.cells #[.int .u64 a1_0, .int .u64 a1_1, (.slice A1_2 l1_2.length c1_2)] 25 (0, 0))) ∧ Aside0 (Below w.heap.size w wc))
        case first =>
          have H := HC18.out
          clear HC18
          replace H := Option.bind_eq_some_iff.mp H
          obtain ⟨t142, A190, H⟩ := H
          replace H : (if t142 = true then ((spec_ProperRange.f kj2 a1_0 a1_1 l1_2).bind fun t143 => (laws_FnRangeEqual.j1 kj2 (!t143) a0_0 a0_1 l0_2 a1_0 a1_1 l1_2)) else (laws_FnRangeEqual.j1 kj2 true a0_0 a0_1 l0_2 a1_0 a1_1 l1_2)) = some r := H
          have A19 := Aside0.mk A190
          clear A190
          by_cases c20 : t142 = true
          · subst c20
            have H1 : ((spec_ProperRange.f kj2 a1_0 a1_1 l1_2).bind fun t143 => (laws_FnRangeEqual.j1 kj2 (!t143) a0_0 a0_1 l0_2 a1_0 a1_1 l1_2)) = some r := by rw [if_pos rfl] at H; exact H
            clear H
            have H := H1
            clear H1
            replace H := Option.bind_eq_some_iff.mp H
            obtain ⟨t143, A210, H⟩ := H
            replace H : (laws_FnRangeEqual.j1 kj2 (!t143) a0_0 a0_1 l0_2 a1_0 a1_1 l1_2) = some r := H
            have A21 := Aside0.mk A210
            clear A210
            have H' := Aside0.mk H
            clear H
            have hnb22 := NB138_139.out
            have hnc22 := NB139_138.out
            have hcz23_0 : wc.cell? ⟨gb138, 0, none⟩ = some (.int .u64 a0_0) := (blk_cell BK138.out 0).trans rfl
            have hcz23_1 : wc.cell? ⟨gb138, 1, none⟩ = some (.int .u64 a0_1) := (blk_cell BK138.out 1).trans rfl
            have hcz23_2 : wc.cell? ⟨gb138, 2, none⟩ = some (.slice A0_2 l0_2.length c0_2) := (blk_cell BK138.out 2).trans rfl
            have hfz23_0 := blk_frozen BK138.out 0
            have hfz23_1 := blk_frozen BK138.out 1
            have hfz23_2 := blk_frozen BK138.out 2
            go_wp2_with (first | ((with_reducible refine gate_callee (f := 7) rfl ?_); refine goesL_ (some 14) rfl rfl Try.func7 (by kernel_rfl) rfl #[.agg #[.int .u64 a0_0, .int .u64 a0_1, .slice A0_2 l0_2.length c0_2]] rfl (by (try simp only [List.map_toArray, List.map_cons, List.map_nil]); first | done | rfl | (simp only [List.length_drop, List.length_take]; rfl)) ?_; (with_reducible refine (spec_ProperRange.calls kj2 a0_0 a0_1 _ _ l0_2 true _ ?side1 ?side2 A19.out).mono ?_); (case side1 => repeat (first | exact (Kd.C_below HR0_2.out HB.out) | (with_reducible refine Kd.C_alloc ?_ _) | (with_reducible refine Kd.C_drewN ?_ _) | (with_reducible refine Kd.C_drew ?_))); (case side2 => exact HC0_2.out); rintro e w24 ⟨rfl, hb⟩; refine ⟨_, rfl, ?_⟩; have n0_ := Aside0.mk (blk_below (g := gb138) (o := .cells #[.int .u64 a0_0, .int .u64 a0_1, .slice A0_2 l0_2.length c0_2] 25 (0, 0)) (by (with_reducible repeat (first | refine blk_drewN ?_ _ | refine blk_drew ?_ | refine blk_alloc ?_ _)); exact BK138.out) hb); have n1_ := Aside0.mk (blk_below (g := gb139) (o := .cells #[.int .u64 a1_0, .int .u64 a1_1, .slice A1_2 l1_2.length c1_2] 25 (0, 0)) (by (with_reducible repeat (first | refine blk_drewN ?_ _ | refine blk_drew ?_ | refine blk_alloc ?_ _)); exact BK139.out) hb); have n2_ := Aside0.mk (below_step (by repeat (first | (with_reducible first | exact HB.out | apply below_alloc | apply pw_below_drewN | apply below_drew1 | refine below_set ?_ GE138.out | refine below_set ?_ GE139.out) | exact HB.out)) hb); clear BK138; clear BK139; clear HB; have BK138 := n0_; have BK139 := n1_; have HB := n2_; clear n0_ n1_ n2_; (try clear hb); (try clear hb2); (try clear hk); (try clear hi); have hcz25_0 : w24.cell? ⟨gb139, 0, none⟩ = some (.int .u64 a1_0) := (blk_cell BK139.out 0).trans rfl; have hcz25_1 : w24.cell? ⟨gb139, 1, none⟩ = some (.int .u64 a1_1) := (blk_cell BK139.out 1).trans rfl; have hcz25_2 : w24.cell? ⟨gb139, 2, none⟩ = some (.slice A1_2 l1_2.length c1_2) := (blk_cell BK139.out 2).trans rfl; have hfz25_0 := blk_frozen BK139.out 0; have hfz25_1 := blk_frozen BK139.out 1; have hfz25_2 := blk_frozen BK139.out 2) | (go_at_call 7; (with_reducible refine (spec_ProperRange.calls kj2 a1_0 a1_1 _ _ l1_2 t143 _ ?side1 ?side2 A21.out).mono ?_); (case side1 => repeat (first | exact (Kd.C_below HR1_2.out HB.out) | (with_reducible refine Kd.C_alloc ?_ _) | (with_reducible refine Kd.C_drewN ?_ _) | (with_reducible refine Kd.C_drew ?_))); (case side2 => exact HC1_2.out); rintro e w26 ⟨rfl, hb⟩; have n0_ := Aside0.mk (blk_below (g := gb138) (o := .cells #[.int .u64 a0_0, .int .u64 a0_1, .slice A0_2 l0_2.length c0_2] 25 (0, 0)) (by (with_reducible repeat (first | refine blk_drewN ?_ _ | refine blk_drew ?_ | refine blk_alloc ?_ _)); exact BK138.out) hb); have n1_ := Aside0.mk (blk_below (g := gb139) (o := .cells #[.int .u64 a1_0, .int .u64 a1_1, .slice A1_2 l1_2.length c1_2] 25 (0, 0)) (by (with_reducible repeat (first | refine blk_drewN ?_ _ | refine blk_drew ?_ | refine blk_alloc ?_ _)); exact BK139.out) hb); have n2_ := Aside0.mk (below_step (by repeat (first | (with_reducible first | exact HB.out | apply below_alloc | apply pw_below_drewN | apply below_drew1 | refine below_set ?_ GE138.out | refine below_set ?_ GE139.out) | exact HB.out)) hb); clear BK138; clear BK139; clear HB; have BK138 := n0_; have BK139 := n1_; have HB := n2_; clear n0_ n1_ n2_; (try clear hb); (try clear hb2); (try clear hk); (try clear hi)))
            go_meet
            case rel => exact ⟨_, (!t143), (by first | rfl | (simp; done) | (simp [*]; done)), H', ⟨by have := HJ2.out; first | omega | exact Nat.le_refl _⟩, ⟨by (with_reducible repeat (first | refine blk_drewN ?_ _ | refine blk_drew ?_ | refine blk_alloc ?_ _)); exact BK138.out⟩, ⟨by (with_reducible repeat (first | refine blk_drewN ?_ _ | refine blk_drew ?_ | refine blk_alloc ?_ _)); exact BK139.out⟩, ⟨by repeat (first | (with_reducible first | exact HB.out | apply below_alloc | apply pw_below_drewN | apply below_drew1 | refine below_set ?_ GE138.out | refine below_set ?_ GE139.out) | exact HB.out)⟩⟩
          · replace c20 := Bool.eq_false_iff.mpr c20
            subst c20
            have H1 : (laws_FnRangeEqual.j1 kj2 true a0_0 a0_1 l0_2 a1_0 a1_1 l1_2) = some r := by rw [if_neg (show ¬ (false = true) by decide)] at H; exact H
            clear H
            have H := H1
            clear H1
            have H' := Aside0.mk H
            clear H
            have hnb27 := NB138_139.out
            have hnc27 := NB139_138.out
            have hcz28_0 : wc.cell? ⟨gb138, 0, none⟩ = some (.int .u64 a0_0) := (blk_cell BK138.out 0).trans rfl
            have hcz28_1 : wc.cell? ⟨gb138, 1, none⟩ = some (.int .u64 a0_1) := (blk_cell BK138.out 1).trans rfl
            have hcz28_2 : wc.cell? ⟨gb138, 2, none⟩ = some (.slice A0_2 l0_2.length c0_2) := (blk_cell BK138.out 2).trans rfl
            have hfz28_0 := blk_frozen BK138.out 0
            have hfz28_1 := blk_frozen BK138.out 1
            have hfz28_2 := blk_frozen BK138.out 2
            go_wp2_with (first | ((with_reducible refine gate_callee (f := 7) rfl ?_); refine goesL_ (some 14) rfl rfl Try.func7 (by kernel_rfl) rfl #[.agg #[.int .u64 a0_0, .int .u64 a0_1, .slice A0_2 l0_2.length c0_2]] rfl (by (try simp only [List.map_toArray, List.map_cons, List.map_nil]); first | done | rfl | (simp only [List.length_drop, List.length_take]; rfl)) ?_; (with_reducible refine (spec_ProperRange.calls kj2 a0_0 a0_1 _ _ l0_2 false _ ?side1 ?side2 A19.out).mono ?_); (case side1 => repeat (first | exact (Kd.C_below HR0_2.out HB.out) | (with_reducible refine Kd.C_alloc ?_ _) | (with_reducible refine Kd.C_drewN ?_ _) | (with_reducible refine Kd.C_drew ?_))); (case side2 => exact HC0_2.out); rintro e w29 ⟨rfl, hb⟩; refine ⟨_, rfl, ?_⟩; have n0_ := Aside0.mk (blk_below (g := gb138) (o := .cells #[.int .u64 a0_0, .int .u64 a0_1, .slice A0_2 l0_2.length c0_2] 25 (0, 0)) (by (with_reducible repeat (first | refine blk_drewN ?_ _ | refine blk_drew ?_ | refine blk_alloc ?_ _)); exact BK138.out) hb); have n1_ := Aside0.mk (blk_below (g := gb139) (o := .cells #[.int .u64 a1_0, .int .u64 a1_1, .slice A1_2 l1_2.length c1_2] 25 (0, 0)) (by (with_reducible repeat (first | refine blk_drewN ?_ _ | refine blk_drew ?_ | refine blk_alloc ?_ _)); exact BK139.out) hb); have n2_ := Aside0.mk (below_step (by repeat (first | (with_reducible first | exact HB.out | apply below_alloc | apply pw_below_drewN | apply below_drew1 | refine below_set ?_ GE138.out | refine below_set ?_ GE139.out) | exact HB.out)) hb); clear BK138; clear BK139; clear HB; have BK138 := n0_; have BK139 := n1_; have HB := n2_; clear n0_ n1_ n2_; (try clear hb); (try clear hb2); (try clear hk); (try clear hi)))
            go_meet
            case rel => exact ⟨_, (true), (by first | rfl | (simp; done) | (simp [*]; done)), H', ⟨by have := HJ2.out; first | omega | exact Nat.le_refl _⟩, ⟨by (with_reducible repeat (first | refine blk_drewN ?_ _ | refine blk_drew ?_ | refine blk_alloc ?_ _)); exact BK138.out⟩, ⟨by (with_reducible repeat (first | refine blk_drewN ?_ _ | refine blk_drew ?_ | refine blk_alloc ?_ _)); exact BK139.out⟩, ⟨by repeat (first | (with_reducible first | exact HB.out | apply below_alloc | apply pw_below_drewN | apply below_drew1 | refine below_set ?_ GE138.out | refine below_set ?_ GE139.out) | exact HB.out)⟩⟩
        case rest =>
          clear HC18
          try clear c1
          try clear c2
          try clear p2
          try clear c3
          try clear c6
          try clear c7
          try clear c9
          try clear c14
          try clear c17
          try clear c20
          try clear c22
          try clear c27
          try clear hcz10_0
          try clear hcz10_1
          try clear hcz10_2
          try clear hcz12_0
          try clear hcz12_1
          try clear hcz12_2
          try clear hcz15_0
          try clear hcz15_1
          try clear hcz15_2
          try clear hcz23_0
          try clear hcz23_1
          try clear hcz23_2
          try clear hcz25_0
          try clear hcz25_1
          try clear hcz25_2
          try clear hcz28_0
          try clear hcz28_1
          try clear hcz28_2
          try clear hfz10_0
          try clear hfz10_1
          try clear hfz10_2
          try clear hfz12_0
          try clear hfz12_1
          try clear hfz12_2
          try clear hfz15_0
          try clear hfz15_1
          try clear hfz15_2
          try clear hfz23_0
          try clear hfz23_1
          try clear hfz23_2
          try clear hfz25_0
          try clear hfz25_1
          try clear hfz25_2
          try clear hfz28_0
          try clear hfz28_1
          try clear hfz28_2
          try clear p2
          obtain ⟨kq, x20_17, rfl, HA, HJ17, BK138, BK139, HB⟩ := hcut
          cases kq with
          | zero => exact absurd HA.out (by simp [laws_FnRangeEqual.j1])
          | succ kj17 =>
            have H := HA.out
            clear HA
            simp only [laws_FnRangeEqual.j1] at H
            by_cases c30 : x20_17 = true
            · subst c30
              have H1 : (some true) = some r := by rw [if_pos rfl] at H; exact H
              clear H
              have H := H1
              clear H1
              obtain rfl := Option.some.inj H
              go_wp2
              go_ret
              exact ⟨by first | rfl | (simp [errW_none, errW_some] <;> rfl) | (simp [*, errW_none, errW_some] <;> rfl), by repeat (first | (with_reducible first | exact HB.out | apply below_alloc | apply pw_below_drewN | apply below_drew1 | refine below_set ?_ GE138.out | refine below_set ?_ GE139.out) | exact HB.out)⟩
            · replace c30 := Bool.eq_false_iff.mpr c30
              subst c30
              have H1 : ((impl_EqualRanges.f kj17 a0_0 a0_1 l0_2 a1_0 a1_1 l1_2).bind fun t144 => ((spec_SameRange.f kj17 a0_0 a0_1 l0_2 a1_0 a1_1 l1_2).bind fun t145 => (if (t144 == t145) = true then ((impl_EqualRanges.f kj17 a0_0 a0_1 l0_2 a0_0 a0_1 l0_2).bind fun t146 => (some t146)) else (some false)))) = some r := by rw [if_neg (show ¬ (false = true) by decide)] at H; exact H
              clear H
              have H := H1
              clear H1
              replace H := Option.bind_eq_some_iff.mp H
              obtain ⟨t144, A310, H⟩ := H
              replace H : ((spec_SameRange.f kj17 a0_0 a0_1 l0_2 a1_0 a1_1 l1_2).bind fun t145 => (if (t144 == t145) = true then ((impl_EqualRanges.f kj17 a0_0 a0_1 l0_2 a0_0 a0_1 l0_2).bind fun t146 => (some t146)) else (some false))) = some r := H
              have A31 := Aside0.mk A310
              clear A310
              replace H := Option.bind_eq_some_iff.mp H
              obtain ⟨t145, A320, H⟩ := H
              replace H : (if (t144 == t145) = true then ((impl_EqualRanges.f kj17 a0_0 a0_1 l0_2 a0_0 a0_1 l0_2).bind fun t146 => (some t146)) else (some false)) = some r := H
              have A32 := Aside0.mk A320
              clear A320
              by_cases c33 : (t144 == t145) = true
              · rw [if_pos c33] at H
                have c33b0 : (t144 == t145) = true := c33
                (try (have c33b1 : decide (t144 = t145) = true := by simpa using c33))
                (try (have c33b2 : (t144 == t145) = true := by simpa using c33))
                clear c33
                replace H := Option.bind_eq_some_iff.mp H
                obtain ⟨t146, A340, H⟩ := H
                replace H : (some t146) = some r := H
                have A34 := Aside0.mk A340
                clear A340
                obtain rfl := Option.some.inj H
                try go_wp2
                have n0_ := Aside0.mk (blk_drew BK138.out)
                have n1_ := Aside0.mk (blk_drew BK139.out)
                have n2_ := Aside0.mk (below_drew1 HB.out)
                clear BK138
                clear BK139
                clear HB
                have BK138 := n0_
                have BK139 := n1_
                have HB := n2_
                clear n0_ n1_ n2_
                refine start_ (n := 13) (S := fun w' => w'.cell? ⟨gb138, 0, none⟩ = some (.int .u64 a0_0) ∧ w'.cell? ⟨gb138, 1, none⟩ = some (.int .u64 a0_1) ∧ w'.cell? ⟨gb138, 2, none⟩ = some (.slice A0_2 l0_2.length c0_2) ∧ w'.cell? ⟨gb139, 0, none⟩ = some (.int .u64 a1_0) ∧ w'.cell? ⟨gb139, 1, none⟩ = some (.int .u64 a1_1) ∧ w'.cell? ⟨gb139, 2, none⟩ = some (.slice A1_2 l1_2.length c1_2)) (ds := []) #[false, false, false, false, false, false, false, false, false, false, false, false, false] (by kernel_rfl) rfl rfl ⟨(blk_cell BK138.out 0).trans rfl, (blk_cell BK138.out 1).trans rfl, (blk_cell BK138.out 2).trans rfl, (blk_cell BK139.out 0).trans rfl, (blk_cell BK139.out 1).trans rfl, (blk_cell BK139.out 2).trans rfl⟩ (fun hHeld => ?_); refine with_tabW laws_FnRangeEqual.tab5 laws_FnRangeEqual.bits5 (fun HT_ HW_ => ?_)
                generalize wc.drew = w35 at BK138 BK139 HB hHeld ⊢
                refine take_ (i := 0) (N := some 21) (v := ?_) (a' := ?_) #[true, false, false, false, false, false, false, false, false, false, false, false, false] rfl rfl (take_ofW HT_.out HW_.out (by kernel_rfl)) (fun _ _ _ h => h) (Or.inl ⟨by rfl, ?_⟩) hHeld ?_ ?_
                rotate_left
                · rintro w' ⟨s0, s1, s2, s3, s4, s5⟩
                  go_simp
                  with_reducible rfl
                rotate_left
                · simp only [Act.put, List.setIfInBounds_toArray, List.set_cons_zero, List.set_cons_succ, i64_w, i32_w]
                  rfl
                refine take_ (i := 1) (N := some 22) (v := ?_) (a' := ?_) #[true, true, false, false, false, false, false, false, false, false, false, false, false] rfl rfl (take_ofW HT_.out HW_.out (by kernel_rfl)) (fun _ _ _ h => h) (Or.inl ⟨by rfl, ?_⟩) hHeld ?_ ?_
                rotate_left
                · rintro w' ⟨s0, s1, s2, s3, s4, s5⟩
                  go_simp
                  with_reducible rfl
                rotate_left
                · simp only [Act.put, List.setIfInBounds_toArray, List.set_cons_zero, List.set_cons_succ, i64_w, i32_w]
                  rfl
                refine take_ (i := 3) (N := some 24) (v := ?_) (a' := ?_) #[true, true, false, true, false, false, false, false, false, false, false, false, false] rfl rfl (take_ofW HT_.out HW_.out (by kernel_rfl)) (fun _ _ _ h => h) (Or.inl ⟨by rfl, ?_⟩) hHeld ?_ ?_
                rotate_left
                · rintro w' ⟨s0, s1, s2, s3, s4, s5⟩
                  go_simp
                  with_reducible rfl
                rotate_left
                · simp only [Act.put, List.setIfInBounds_toArray, List.set_cons_zero, List.set_cons_succ, i64_w, i32_w]
                  rfl
                refine take_ (i := 4) (N := some 25) (v := ?_) (a' := ?_) #[true, true, false, true, true, false, false, false, false, false, false, false, false] rfl rfl (take_ofW HT_.out HW_.out (by kernel_rfl)) (fun _ _ _ h => h) (Or.inl ⟨by rfl, ?_⟩) hHeld ?_ ?_
                rotate_left
                · rintro w' ⟨s0, s1, s2, s3, s4, s5⟩
                  go_simp
                  with_reducible rfl
                rotate_left
                · simp only [Act.put, List.setIfInBounds_toArray, List.set_cons_zero, List.set_cons_succ, i64_w, i32_w]
                  rfl
                refine one_ (i := 2) (N := some 23) #[true, true, true, true, true, false, false, false, false, false, false, false, false] rfl rfl (one_of HT_.out (by kernel_rfl)) (by decide) (fun K hK => ?_)
                refine goes_ Try.func8 (by kernel_rfl) rfl #[.agg #[.int .u64 a0_0, .int .u64 a0_1, .slice A0_2 l0_2.length c0_2], .agg #[.int .u64 a1_0, .int .u64 a1_1, .slice A1_2 l1_2.length c1_2]] (by rfl) rfl rfl (by (try simp only [List.map_toArray, List.map_cons, List.map_nil]); first | done | rfl | (simp only [List.length_drop, List.length_take]; rfl)) ?_
                with_reducible refine (impl_EqualRanges.calls kj17 a0_0 a0_1 _ _ l0_2 a1_0 a1_1 _ _ l1_2 t144 _ ?side1 ?side2 ?side3 ?side4 A31.out).mono ?_
                (case side1 => repeat (first | exact (Kd.C_below HR0_2.out HB.out) | (with_reducible refine Kd.C_alloc ?_ _) | (with_reducible refine Kd.C_drewN ?_ _) | (with_reducible refine Kd.C_drew ?_)))
                (case side2 => exact HC0_2.out)
                (case side3 => repeat (first | exact (Kd.C_below HR1_2.out HB.out) | (with_reducible refine Kd.C_alloc ?_ _) | (with_reducible refine Kd.C_drewN ?_ _) | (with_reducible refine Kd.C_drew ?_)))
                (case side4 => exact HC1_2.out)
                rintro e w36 ⟨rfl, hb⟩
                refine ⟨_, rfl, ?_⟩
                have n0_ := Aside0.mk (blk_below (g := gb138) (o := .cells #[.int .u64 a0_0, .int .u64 a0_1, .slice A0_2 l0_2.length c0_2] 25 (0, 0)) (by (with_reducible repeat (first | refine blk_drewN ?_ _ | refine blk_drew ?_ | refine blk_alloc ?_ _)); exact BK138.out) hb)
                have n1_ := Aside0.mk (blk_below (g := gb139) (o := .cells #[.int .u64 a1_0, .int .u64 a1_1, .slice A1_2 l1_2.length c1_2] 25 (0, 0)) (by (with_reducible repeat (first | refine blk_drewN ?_ _ | refine blk_drew ?_ | refine blk_alloc ?_ _)); exact BK139.out) hb)
                have n2_ := Aside0.mk (below_step (by repeat (first | (with_reducible first | exact HB.out | apply below_alloc | apply pw_below_drewN | apply below_drew1 | refine below_set ?_ GE138.out | refine below_set ?_ GE139.out) | exact HB.out)) hb)
                clear BK138
                clear BK139
                clear HB
                have BK138 := n0_
                have BK139 := n1_
                have HB := n2_
                clear n0_ n1_ n2_
                (try clear hb)
                (try clear hb2)
                (try clear hk)
                (try clear hi)
                refine hK.out _ _ ⟨(blk_cell BK138.out 0).trans rfl, (blk_cell BK138.out 1).trans rfl, (blk_cell BK138.out 2).trans rfl, (blk_cell BK139.out 0).trans rfl, (blk_cell BK139.out 1).trans rfl, (blk_cell BK139.out 2).trans rfl⟩ (fun hHeld => ?_)
                clear hK K
                refine norm_ (a' := ?_) ?_ ?_
                rotate_left
                · show Act.put _ (some 23) _ = _
                  simp only [Act.put, List.setIfInBounds_toArray, List.set_cons_zero, List.set_cons_succ, i64_w, i32_w]
                  rfl
                refine one_ (i := 5) (N := some 26) #[true, true, true, true, true, true, false, false, false, false, false, false, false] rfl rfl (one_of HT_.out (by kernel_rfl)) (by decide) (fun K hK => ?_)
                refine goes_ Try.func9 (by kernel_rfl) rfl #[.agg #[.int .u64 a0_0, .int .u64 a0_1, .slice A0_2 l0_2.length c0_2], .agg #[.int .u64 a1_0, .int .u64 a1_1, .slice A1_2 l1_2.length c1_2]] (by rfl) rfl rfl (by (try simp only [List.map_toArray, List.map_cons, List.map_nil]); first | done | rfl | (simp only [List.length_drop, List.length_take]; rfl)) ?_
                with_reducible refine (spec_SameRange.calls kj17 a0_0 a0_1 _ _ l0_2 a1_0 a1_1 _ _ l1_2 t145 _ ?side1 ?side2 ?side3 ?side4 A32.out).mono ?_
                (case side1 => repeat (first | exact (Kd.C_below HR0_2.out HB.out) | (with_reducible refine Kd.C_alloc ?_ _) | (with_reducible refine Kd.C_drewN ?_ _) | (with_reducible refine Kd.C_drew ?_)))
                (case side2 => exact HC0_2.out)
                (case side3 => repeat (first | exact (Kd.C_below HR1_2.out HB.out) | (with_reducible refine Kd.C_alloc ?_ _) | (with_reducible refine Kd.C_drewN ?_ _) | (with_reducible refine Kd.C_drew ?_)))
                (case side4 => exact HC1_2.out)
                rintro e w37 ⟨rfl, hb⟩
                refine ⟨_, rfl, ?_⟩
                have n0_ := Aside0.mk (blk_below (g := gb138) (o := .cells #[.int .u64 a0_0, .int .u64 a0_1, .slice A0_2 l0_2.length c0_2] 25 (0, 0)) (by (with_reducible repeat (first | refine blk_drewN ?_ _ | refine blk_drew ?_ | refine blk_alloc ?_ _)); exact BK138.out) hb)
                have n1_ := Aside0.mk (blk_below (g := gb139) (o := .cells #[.int .u64 a1_0, .int .u64 a1_1, .slice A1_2 l1_2.length c1_2] 25 (0, 0)) (by (with_reducible repeat (first | refine blk_drewN ?_ _ | refine blk_drew ?_ | refine blk_alloc ?_ _)); exact BK139.out) hb)
                have n2_ := Aside0.mk (below_step (by repeat (first | (with_reducible first | exact HB.out | apply below_alloc | apply pw_below_drewN | apply below_drew1 | refine below_set ?_ GE138.out | refine below_set ?_ GE139.out) | exact HB.out)) hb)
                clear BK138
                clear BK139
                clear HB
                have BK138 := n0_
                have BK139 := n1_
                have HB := n2_
                clear n0_ n1_ n2_
                (try clear hb)
                (try clear hb2)
                (try clear hk)
                (try clear hi)
                refine hK.out _ _ ⟨(blk_cell BK138.out 0).trans rfl, (blk_cell BK138.out 1).trans rfl, (blk_cell BK138.out 2).trans rfl, (blk_cell BK139.out 0).trans rfl, (blk_cell BK139.out 1).trans rfl, (blk_cell BK139.out 2).trans rfl⟩ (fun hHeld => ?_)
                clear hK K
                refine norm_ (a' := ?_) ?_ ?_
                rotate_left
                · show Act.put _ (some 26) _ = _
                  simp only [Act.put, List.setIfInBounds_toArray, List.set_cons_zero, List.set_cons_succ, i64_w, i32_w]
                  rfl
                refine pure_ (i := 6) (N := some 27) (v := ?_) (a' := ?_) #[true, true, true, true, true, true, true, false, false, false, false, false, false] rfl rfl (any_of HT_.out (by kernel_rfl)) (fun _ _ _ h => h) (Or.inl ⟨by rfl, ?_⟩) ?_ ?_
                rotate_left
                · intro w'
                  go_simp
                  with_reducible rfl
                rotate_left
                · simp only [Act.put, List.setIfInBounds_toArray, List.set_cons_zero, List.set_cons_succ, i64_w, i32_w]
                  rfl
                refine pure_ (i := 7) (N := some 28) (v := ?_) (a' := ?_) #[true, true, true, true, true, true, true, true, false, false, false, false, false] rfl rfl (any_of HT_.out (by kernel_rfl)) (fun _ _ _ h => h) (Or.inl ⟨by rfl, ?_⟩) ?_ ?_
                rotate_left
                · intro w'
                  go_simp
                  with_reducible rfl
                rotate_left
                · simp only [Act.put, List.setIfInBounds_toArray, List.set_cons_zero, List.set_cons_succ, i64_w, i32_w]
                  rfl
                refine take_ (i := 8) (N := some 29) (v := ?_) (a' := ?_) #[true, true, true, true, true, true, true, true, true, false, false, false, false] rfl rfl (take_ofW HT_.out HW_.out (by kernel_rfl)) (fun _ _ _ h => h) (Or.inl ⟨by rfl, ?_⟩) hHeld ?_ ?_
                rotate_left
                · rintro w' ⟨s0, s1, s2, s3, s4, s5⟩
                  go_simp
                  with_reducible rfl
                rotate_left
                · simp only [Act.put, List.setIfInBounds_toArray, List.set_cons_zero, List.set_cons_succ, i64_w, i32_w]
                  rfl
                refine take_ (i := 9) (N := some 30) (v := ?_) (a' := ?_) #[true, true, true, true, true, true, true, true, true, true, false, false, false] rfl rfl (take_ofW HT_.out HW_.out (by kernel_rfl)) (fun _ _ _ h => h) (Or.inl ⟨by rfl, ?_⟩) hHeld ?_ ?_
                rotate_left
                · rintro w' ⟨s0, s1, s2, s3, s4, s5⟩
                  go_simp
                  with_reducible rfl
                rotate_left
                · simp only [Act.put, List.setIfInBounds_toArray, List.set_cons_zero, List.set_cons_succ, i64_w, i32_w]
                  rfl
                refine one_ (i := 10) (N := some 31) #[true, true, true, true, true, true, true, true, true, true, true, false, false] rfl rfl (one_of HT_.out (by kernel_rfl)) (by decide) (fun K hK => ?_)
                refine goes_ Try.func8 (by kernel_rfl) rfl #[.agg #[.int .u64 a0_0, .int .u64 a0_1, .slice A0_2 l0_2.length c0_2], .agg #[.int .u64 a0_0, .int .u64 a0_1, .slice A0_2 l0_2.length c0_2]] (by rfl) rfl rfl (by (try simp only [List.map_toArray, List.map_cons, List.map_nil]); first | done | rfl | (simp only [List.length_drop, List.length_take]; rfl)) ?_
                with_reducible refine (impl_EqualRanges.calls kj17 a0_0 a0_1 _ _ l0_2 a0_0 a0_1 _ _ l0_2 t146 _ ?side1 ?side2 ?side3 ?side4 A34.out).mono ?_
                (case side1 => repeat (first | exact (Kd.C_below HR0_2.out HB.out) | (with_reducible refine Kd.C_alloc ?_ _) | (with_reducible refine Kd.C_drewN ?_ _) | (with_reducible refine Kd.C_drew ?_)))
                (case side2 => exact HC0_2.out)
                (case side3 => repeat (first | exact (Kd.C_below HR0_2.out HB.out) | (with_reducible refine Kd.C_alloc ?_ _) | (with_reducible refine Kd.C_drewN ?_ _) | (with_reducible refine Kd.C_drew ?_)))
                (case side4 => exact HC0_2.out)
                rintro e w38 ⟨rfl, hb⟩
                refine ⟨_, rfl, ?_⟩
                have n0_ := Aside0.mk (blk_below (g := gb138) (o := .cells #[.int .u64 a0_0, .int .u64 a0_1, .slice A0_2 l0_2.length c0_2] 25 (0, 0)) (by (with_reducible repeat (first | refine blk_drewN ?_ _ | refine blk_drew ?_ | refine blk_alloc ?_ _)); exact BK138.out) hb)
                have n1_ := Aside0.mk (blk_below (g := gb139) (o := .cells #[.int .u64 a1_0, .int .u64 a1_1, .slice A1_2 l1_2.length c1_2] 25 (0, 0)) (by (with_reducible repeat (first | refine blk_drewN ?_ _ | refine blk_drew ?_ | refine blk_alloc ?_ _)); exact BK139.out) hb)
                have n2_ := Aside0.mk (below_step (by repeat (first | (with_reducible first | exact HB.out | apply below_alloc | apply pw_below_drewN | apply below_drew1 | refine below_set ?_ GE138.out | refine below_set ?_ GE139.out) | exact HB.out)) hb)
                clear BK138
                clear BK139
                clear HB
                have BK138 := n0_
                have BK139 := n1_
                have HB := n2_
                clear n0_ n1_ n2_
                (try clear hb)
                (try clear hb2)
                (try clear hk)
                (try clear hi)
                refine hK.out _ _ ⟨(blk_cell BK138.out 0).trans rfl, (blk_cell BK138.out 1).trans rfl, (blk_cell BK138.out 2).trans rfl, (blk_cell BK139.out 0).trans rfl, (blk_cell BK139.out 1).trans rfl, (blk_cell BK139.out 2).trans rfl⟩ (fun hHeld => ?_)
                clear hK K
                refine norm_ (a' := ?_) ?_ ?_
                rotate_left
                · show Act.put _ (some 31) _ = _
                  simp only [Act.put, List.setIfInBounds_toArray, List.set_cons_zero, List.set_cons_succ, i64_w, i32_w]
                  rfl
                refine pure_ (i := 11) (N := some 32) (v := ?_) (a' := ?_) #[true, true, true, true, true, true, true, true, true, true, true, true, false] rfl rfl (any_of HT_.out (by kernel_rfl)) (fun _ _ _ h => h) (Or.inl ⟨by rfl, ?_⟩) ?_ ?_
                rotate_left
                · intro w'
                  go_simp
                  with_reducible rfl
                rotate_left
                · simp only [Act.put, List.setIfInBounds_toArray, List.set_cons_zero, List.set_cons_succ, i64_w, i32_w]
                  rfl
                refine pure_ (i := 12) (N := some 4) (v := ?_) (a' := ?_) #[true, true, true, true, true, true, true, true, true, true, true, true, true] rfl rfl (any_of HT_.out (by kernel_rfl)) (fun _ _ _ h => h) (Or.inl ⟨by rfl, ?_⟩) ?_ ?_
                rotate_left
                · intro w'
                  go_simp
                  with_reducible rfl
                rotate_left
                · simp only [Act.put, List.setIfInBounds_toArray, List.set_cons_zero, List.set_cons_succ, i64_w, i32_w]
                  rfl
                refine done_ (done_of HT_.out (by kernel_rfl)) ?_
                try go_wp2
                go_ret
                exact ⟨by first | rfl | (simp [errW_none, errW_some] <;> rfl) | (simp [*, errW_none, errW_some] <;> rfl), by repeat (first | (with_reducible first | exact HB.out | apply below_alloc | apply pw_below_drewN | apply below_drew1 | refine below_set ?_ GE138.out | refine below_set ?_ GE139.out) | exact HB.out)⟩
              · rw [if_neg c33] at H
                have c33b0 : (t144 == t145) = false := by simpa using c33
                (try (have c33b1 : decide (t144 = t145) = false := by simpa using c33))
                (try (have c33b2 : (t144 == t145) = false := by simpa using c33))
                (try (have c33b3 : ¬ (t144 = t145) := by simpa using c33))
                clear c33
                obtain rfl := Option.some.inj H
                try go_wp2
                have n0_ := Aside0.mk (blk_drew BK138.out)
                have n1_ := Aside0.mk (blk_drew BK139.out)
                have n2_ := Aside0.mk (below_drew1 HB.out)
                clear BK138
                clear BK139
                clear HB
                have BK138 := n0_
                have BK139 := n1_
                have HB := n2_
                clear n0_ n1_ n2_
                refine start_ (n := 13) (S := fun w' => w'.cell? ⟨gb138, 0, none⟩ = some (.int .u64 a0_0) ∧ w'.cell? ⟨gb138, 1, none⟩ = some (.int .u64 a0_1) ∧ w'.cell? ⟨gb138, 2, none⟩ = some (.slice A0_2 l0_2.length c0_2) ∧ w'.cell? ⟨gb139, 0, none⟩ = some (.int .u64 a1_0) ∧ w'.cell? ⟨gb139, 1, none⟩ = some (.int .u64 a1_1) ∧ w'.cell? ⟨gb139, 2, none⟩ = some (.slice A1_2 l1_2.length c1_2)) (ds := []) #[false, false, false, false, false, false, false, false, false, false, false, false, false] (by kernel_rfl) rfl rfl ⟨(blk_cell BK138.out 0).trans rfl, (blk_cell BK138.out 1).trans rfl, (blk_cell BK138.out 2).trans rfl, (blk_cell BK139.out 0).trans rfl, (blk_cell BK139.out 1).trans rfl, (blk_cell BK139.out 2).trans rfl⟩ (fun hHeld => ?_); refine with_tabW laws_FnRangeEqual.tab5 laws_FnRangeEqual.bits5 (fun HT_ HW_ => ?_)
                generalize wc.drew = w39 at BK138 BK139 HB hHeld ⊢
                refine take_ (i := 0) (N := some 21) (v := ?_) (a' := ?_) #[true, false, false, false, false, false, false, false, false, false, false, false, false] rfl rfl (take_ofW HT_.out HW_.out (by kernel_rfl)) (fun _ _ _ h => h) (Or.inl ⟨by rfl, ?_⟩) hHeld ?_ ?_
                rotate_left
                · rintro w' ⟨s0, s1, s2, s3, s4, s5⟩
                  go_simp
                  with_reducible rfl
                rotate_left
                · simp only [Act.put, List.setIfInBounds_toArray, List.set_cons_zero, List.set_cons_succ, i64_w, i32_w]
                  rfl
                refine take_ (i := 1) (N := some 22) (v := ?_) (a' := ?_) #[true, true, false, false, false, false, false, false, false, false, false, false, false] rfl rfl (take_ofW HT_.out HW_.out (by kernel_rfl)) (fun _ _ _ h => h) (Or.inl ⟨by rfl, ?_⟩) hHeld ?_ ?_
                rotate_left
                · rintro w' ⟨s0, s1, s2, s3, s4, s5⟩
                  go_simp
                  with_reducible rfl
                rotate_left
                · simp only [Act.put, List.setIfInBounds_toArray, List.set_cons_zero, List.set_cons_succ, i64_w, i32_w]
                  rfl
                refine take_ (i := 3) (N := some 24) (v := ?_) (a' := ?_) #[true, true, false, true, false, false, false, false, false, false, false, false, false] rfl rfl (take_ofW HT_.out HW_.out (by kernel_rfl)) (fun _ _ _ h => h) (Or.inl ⟨by rfl, ?_⟩) hHeld ?_ ?_
                rotate_left
                · rintro w' ⟨s0, s1, s2, s3, s4, s5⟩
                  go_simp
                  with_reducible rfl
                rotate_left
                · simp only [Act.put, List.setIfInBounds_toArray, List.set_cons_zero, List.set_cons_succ, i64_w, i32_w]
                  rfl
                refine take_ (i := 4) (N := some 25) (v := ?_) (a' := ?_) #[true, true, false, true, true, false, false, false, false, false, false, false, false] rfl rfl (take_ofW HT_.out HW_.out (by kernel_rfl)) (fun _ _ _ h => h) (Or.inl ⟨by rfl, ?_⟩) hHeld ?_ ?_
                rotate_left
                · rintro w' ⟨s0, s1, s2, s3, s4, s5⟩
                  go_simp
                  with_reducible rfl
                rotate_left
                · simp only [Act.put, List.setIfInBounds_toArray, List.set_cons_zero, List.set_cons_succ, i64_w, i32_w]
                  rfl
                refine one_ (i := 2) (N := some 23) #[true, true, true, true, true, false, false, false, false, false, false, false, false] rfl rfl (one_of HT_.out (by kernel_rfl)) (by decide) (fun K hK => ?_)
                refine goes_ Try.func8 (by kernel_rfl) rfl #[.agg #[.int .u64 a0_0, .int .u64 a0_1, .slice A0_2 l0_2.length c0_2], .agg #[.int .u64 a1_0, .int .u64 a1_1, .slice A1_2 l1_2.length c1_2]] (by rfl) rfl rfl (by (try simp only [List.map_toArray, List.map_cons, List.map_nil]); first | done | rfl | (simp only [List.length_drop, List.length_take]; rfl)) ?_
                with_reducible refine (impl_EqualRanges.calls kj17 a0_0 a0_1 _ _ l0_2 a1_0 a1_1 _ _ l1_2 t144 _ ?side1 ?side2 ?side3 ?side4 A31.out).mono ?_
                (case side1 => repeat (first | exact (Kd.C_below HR0_2.out HB.out) | (with_reducible refine Kd.C_alloc ?_ _) | (with_reducible refine Kd.C_drewN ?_ _) | (with_reducible refine Kd.C_drew ?_)))
                (case side2 => exact HC0_2.out)
                (case side3 => repeat (first | exact (Kd.C_below HR1_2.out HB.out) | (with_reducible refine Kd.C_alloc ?_ _) | (with_reducible refine Kd.C_drewN ?_ _) | (with_reducible refine Kd.C_drew ?_)))
                (case side4 => exact HC1_2.out)
                rintro e w40 ⟨rfl, hb⟩
                refine ⟨_, rfl, ?_⟩
                have n0_ := Aside0.mk (blk_below (g := gb138) (o := .cells #[.int .u64 a0_0, .int .u64 a0_1, .slice A0_2 l0_2.length c0_2] 25 (0, 0)) (by (with_reducible repeat (first | refine blk_drewN ?_ _ | refine blk_drew ?_ | refine blk_alloc ?_ _)); exact BK138.out) hb)
                have n1_ := Aside0.mk (blk_below (g := gb139) (o := .cells #[.int .u64 a1_0, .int .u64 a1_1, .slice A1_2 l1_2.length c1_2] 25 (0, 0)) (by (with_reducible repeat (first | refine blk_drewN ?_ _ | refine blk_drew ?_ | refine blk_alloc ?_ _)); exact BK139.out) hb)
                have n2_ := Aside0.mk (below_step (by repeat (first | (with_reducible first | exact HB.out | apply below_alloc | apply pw_below_drewN | apply below_drew1 | refine below_set ?_ GE138.out | refine below_set ?_ GE139.out) | exact HB.out)) hb)
                clear BK138
                clear BK139
                clear HB
                have BK138 := n0_
                have BK139 := n1_
                have HB := n2_
                clear n0_ n1_ n2_
                (try clear hb)
                (try clear hb2)
                (try clear hk)
                (try clear hi)
                refine hK.out _ _ ⟨(blk_cell BK138.out 0).trans rfl, (blk_cell BK138.out 1).trans rfl, (blk_cell BK138.out 2).trans rfl, (blk_cell BK139.out 0).trans rfl, (blk_cell BK139.out 1).trans rfl, (blk_cell BK139.out 2).trans rfl⟩ (fun hHeld => ?_)
                clear hK K
                refine norm_ (a' := ?_) ?_ ?_
                rotate_left
                · show Act.put _ (some 23) _ = _
                  simp only [Act.put, List.setIfInBounds_toArray, List.set_cons_zero, List.set_cons_succ, i64_w, i32_w]
                  rfl
                refine one_ (i := 5) (N := some 26) #[true, true, true, true, true, true, false, false, false, false, false, false, false] rfl rfl (one_of HT_.out (by kernel_rfl)) (by decide) (fun K hK => ?_)
                refine goes_ Try.func9 (by kernel_rfl) rfl #[.agg #[.int .u64 a0_0, .int .u64 a0_1, .slice A0_2 l0_2.length c0_2], .agg #[.int .u64 a1_0, .int .u64 a1_1, .slice A1_2 l1_2.length c1_2]] (by rfl) rfl rfl (by (try simp only [List.map_toArray, List.map_cons, List.map_nil]); first | done | rfl | (simp only [List.length_drop, List.length_take]; rfl)) ?_
                with_reducible refine (spec_SameRange.calls kj17 a0_0 a0_1 _ _ l0_2 a1_0 a1_1 _ _ l1_2 t145 _ ?side1 ?side2 ?side3 ?side4 A32.out).mono ?_
                (case side1 => repeat (first | exact (Kd.C_below HR0_2.out HB.out) | (with_reducible refine Kd.C_alloc ?_ _) | (with_reducible refine Kd.C_drewN ?_ _) | (with_reducible refine Kd.C_drew ?_)))
                (case side2 => exact HC0_2.out)
                (case side3 => repeat (first | exact (Kd.C_below HR1_2.out HB.out) | (with_reducible refine Kd.C_alloc ?_ _) | (with_reducible refine Kd.C_drewN ?_ _) | (with_reducible refine Kd.C_drew ?_)))
                (case side4 => exact HC1_2.out)
                rintro e w41 ⟨rfl, hb⟩
                refine ⟨_, rfl, ?_⟩
                have n0_ := Aside0.mk (blk_below (g := gb138) (o := .cells #[.int .u64 a0_0, .int .u64 a0_1, .slice A0_2 l0_2.length c0_2] 25 (0, 0)) (by (with_reducible repeat (first | refine blk_drewN ?_ _ | refine blk_drew ?_ | refine blk_alloc ?_ _)); exact BK138.out) hb)
                have n1_ := Aside0.mk (blk_below (g := gb139) (o := .cells #[.int .u64 a1_0, .int .u64 a1_1, .slice A1_2 l1_2.length c1_2] 25 (0, 0)) (by (with_reducible repeat (first | refine blk_drewN ?_ _ | refine blk_drew ?_ | refine blk_alloc ?_ _)); exact BK139.out) hb)
                have n2_ := Aside0.mk (below_step (by repeat (first | (with_reducible first | exact HB.out | apply below_alloc | apply pw_below_drewN | apply below_drew1 | refine below_set ?_ GE138.out | refine below_set ?_ GE139.out) | exact HB.out)) hb)
                clear BK138
                clear BK139
                clear HB
                have BK138 := n0_
                have BK139 := n1_
                have HB := n2_
                clear n0_ n1_ n2_
                (try clear hb)
                (try clear hb2)
                (try clear hk)
                (try clear hi)
                refine hK.out _ _ ⟨(blk_cell BK138.out 0).trans rfl, (blk_cell BK138.out 1).trans rfl, (blk_cell BK138.out 2).trans rfl, (blk_cell BK139.out 0).trans rfl, (blk_cell BK139.out 1).trans rfl, (blk_cell BK139.out 2).trans rfl⟩ (fun hHeld => ?_)
                clear hK K
                refine norm_ (a' := ?_) ?_ ?_
                rotate_left
                · show Act.put _ (some 26) _ = _
                  simp only [Act.put, List.setIfInBounds_toArray, List.set_cons_zero, List.set_cons_succ, i64_w, i32_w]
                  rfl
                refine pure_ (i := 6) (N := some 27) (v := ?_) (a' := ?_) #[true, true, true, true, true, true, true, false, false, false, false, false, false] rfl rfl (any_of HT_.out (by kernel_rfl)) (fun _ _ _ h => h) (Or.inl ⟨by rfl, ?_⟩) ?_ ?_
                rotate_left
                · intro w'
                  go_simp
                  with_reducible rfl
                rotate_left
                · simp only [Act.put, List.setIfInBounds_toArray, List.set_cons_zero, List.set_cons_succ, i64_w, i32_w]
                  rfl
                refine pure_ (i := 7) (N := some 28) (v := ?_) (a' := ?_) #[true, true, true, true, true, true, true, true, false, false, false, false, false] rfl rfl (any_of HT_.out (by kernel_rfl)) (fun _ _ _ h => h) (Or.inl ⟨by rfl, ?_⟩) ?_ ?_
                rotate_left
                · intro w'
                  go_simp
                  with_reducible rfl
                rotate_left
                · simp only [Act.put, List.setIfInBounds_toArray, List.set_cons_zero, List.set_cons_succ, i64_w, i32_w]
                  rfl
                refine pure_ (i := 8) (N := some 29) (v := undef) (a' := ?_) #[true, true, true, true, true, true, true, true, true, false, false, false, false] rfl rfl (any_of HT_.out (by kernel_rfl)) (fun _ _ _ h => h) (Or.inr ⟨by rfl, rfl⟩) ?_ ?_
                rotate_left
                · simp only [Act.put, List.setIfInBounds_toArray, List.set_cons_zero, List.set_cons_succ, i64_w, i32_w]
                  rfl
                refine pure_ (i := 9) (N := some 30) (v := undef) (a' := ?_) #[true, true, true, true, true, true, true, true, true, true, false, false, false] rfl rfl (any_of HT_.out (by kernel_rfl)) (fun _ _ _ h => h) (Or.inr ⟨by rfl, rfl⟩) ?_ ?_
                rotate_left
                · simp only [Act.put, List.setIfInBounds_toArray, List.set_cons_zero, List.set_cons_succ, i64_w, i32_w]
                  rfl
                refine pure_ (i := 10) (N := some 31) (v := undef) (a' := ?_) #[true, true, true, true, true, true, true, true, true, true, true, false, false] rfl rfl (any_of HT_.out (by kernel_rfl)) (fun _ _ _ h => h) (Or.inr ⟨by rfl, rfl⟩) ?_ ?_
                rotate_left
                · simp only [Act.put, List.setIfInBounds_toArray, List.set_cons_zero, List.set_cons_succ, i64_w, i32_w]
                  rfl
                refine pure_ (i := 11) (N := some 32) (v := ?_) (a' := ?_) #[true, true, true, true, true, true, true, true, true, true, true, true, false] rfl rfl (any_of HT_.out (by kernel_rfl)) (fun _ _ _ h => h) (Or.inl ⟨by rfl, ?_⟩) ?_ ?_
                rotate_left
                · intro w'
                  go_simp
                  with_reducible rfl
                rotate_left
                · simp only [Act.put, List.setIfInBounds_toArray, List.set_cons_zero, List.set_cons_succ, i64_w, i32_w]
                  rfl
                refine pure_ (i := 12) (N := some 4) (v := ?_) (a' := ?_) #[true, true, true, true, true, true, true, true, true, true, true, true, true] rfl rfl (any_of HT_.out (by kernel_rfl)) (fun _ _ _ h => h) (Or.inl ⟨by rfl, ?_⟩) ?_ ?_
                rotate_left
                · intro w'
                  go_simp
                  with_reducible rfl
                rotate_left
                · simp only [Act.put, List.setIfInBounds_toArray, List.set_cons_zero, List.set_cons_succ, i64_w, i32_w]
                  rfl
                refine done_ (done_of HT_.out (by kernel_rfl)) ?_
                try go_wp2
                go_ret
                exact ⟨by first | rfl | (simp [errW_none, errW_some] <;> rfl) | (simp [*, errW_none, errW_some] <;> rfl), by repeat (first | (with_reducible first | exact HB.out | apply below_alloc | apply pw_below_drewN | apply below_drew1 | refine below_set ?_ GE138.out | refine below_set ?_ GE139.out) | exact HB.out)⟩

end Go.Proofs.Ytkmdkmlgahfcpaa.M
