-- Written by a program of ours (wip/xp) out of the translation; Lean checks it.
import Derived.Test.YtkmdkmlgahfcpaaDoorSq
import Derived.Test.YtkmdkmlgahfcpaaDoorMm1
import Derived.Test.YtkmdkmlgahfcpaaDoorMm5
import Derived.Test.YtkmdkmlgahfcpaaDoorMm9
namespace Go.Proofs.YtkmdkmlgahfcpaaDoor.M
open Go.RowKit Go.Proofs.YtkmdkmlgahfcpaaDoorW.PrintWords Go.Proofs.YtkmdkmlgahfcpaaDoorW.PrintLast Go.Proofs.YtkmdkmlgahfcpaaDoorW.PrintMore
attribute [local go_sem] max2_int min2_int max_two min_two max_three min_three max_four min_four   -- for this text's walks alone
set_option linter.unusedVariables false
set_option linter.unusedSimpArgs false

/-! ### laws_FnTreeInclusion: function 10 -/
def laws_FnTreeInclusion.j0 : Nat → List (List Int) → Int → Int → List (List Int) → Bool → Bool → Int → Int → Int → Int → Int → Int → Option (Bool)
 | 0, _, _, _, _, _, _, _, _, _, _, _, _ => none
 | k + 1, x1, x2, x3, x9, x10, x34, x336000, x336001, x336002, x336003, x336004, x336005 => if x34 = true then (some (!x10)) else (if x10 = true then (if 0 ≤ x3 then (if x3 ≤ (x1.length : Int) then ((spec_Path.f k x336000 x336001 x336002 x336003 x336004 x336005 (x1.take (x3 : Int).toNat) x2).bind fun t346 => ((spec_Same.f k x9 t346).bind fun t349 => (some t349))) else (none)) else (none)) else (some false))
def laws_FnTreeInclusion.f (k : Nat) (a0_0 : Int) (a0_1 : Int) (a0_2 : Int) (a0_3 : Int) (a0_4 : Int) (a0_5 : Int) (l1 : List (List Int)) (a2 : Int) (a3 : Int) : Option (Bool) := (laws_zzFits2.f k l1).bind fun t336 => (if t336 = true then ((laws_logSmall.f k l1).bind fun t337 => (if t337 = true then ((impl_TreeInclusion.f k a0_0 a0_1 a0_2 a0_3 a0_4 a0_5 l1 a2 a3).bind fun bt338 => (if a3 > (IntKind.u64.wrap ((l1.length : Int))) then (laws_FnTreeInclusion.j0 k l1 a2 a3 bt338.1 bt338.2 true a0_0 a0_1 a0_2 a0_3 a0_4 a0_5) else (laws_FnTreeInclusion.j0 k l1 a2 a3 bt338.1 bt338.2 (decide (a2 ≥ a3)) a0_0 a0_1 a0_2 a0_3 a0_4 a0_5))) else (some true))) else (some true))
theorem laws_FnTreeInclusion.mono_l : ∀ k, (∀ y0 y1 y2 y3 y4 y5 y6 y7 y8 y9 y10 y11, LeO (laws_FnTreeInclusion.j0 k y0 y1 y2 y3 y4 y5 y6 y7 y8 y9 y10 y11) (laws_FnTreeInclusion.j0 (k + 1) y0 y1 y2 y3 y4 y5 y6 y7 y8 y9 y10 y11))
 | 0 => fun _ _ _ _ _ _ _ _ _ _ _ _ r h => by simp [laws_FnTreeInclusion.j0] at h
 | k + 1 => by
  have ih0 := laws_FnTreeInclusion.mono_l k
  ·intro y0 y1 y2 y3 y4 y5 y6 y7 y8 y9 y10 y11
   unfold laws_FnTreeInclusion.j0
   repeat' first
   | (with_reducible exact ih0 _ _ _ _ _ _ _ _ _ _ _ _)
   | (with_reducible exact impl_TreeInclusion.mono _ _ _ _ _ _ _ _ _ _)
   | (with_reducible exact laws_logSmall.mono _ _)
   | (with_reducible exact laws_zzFits2.mono _ _)
   | (with_reducible exact spec_Path.mono _ _ _ _ _ _ _ _ _)
   | (with_reducible exact spec_Same.mono _ _ _)
   | (with_reducible exact LeO.refl _)
   | (with_reducible exact LeO.none _)
   | (with_reducible refine LeO.ite ?_ ?_)
   | (with_reducible refine LeO.bind ?_ (fun _ => ?_))
   | exact ih0 _ _ _ _ _ _ _ _ _ _ _ _
   | exact impl_TreeInclusion.mono _ _ _ _ _ _ _ _ _ _
   | exact laws_logSmall.mono _ _
   | exact laws_zzFits2.mono _ _
   | exact spec_Path.mono _ _ _ _ _ _ _ _ _
   | exact spec_Same.mono _ _ _
   | exact LeO.none _
   | refine LeO.ite ?_ ?_
   | refine LeO.bind ?_ (fun _ => ?_)
theorem laws_FnTreeInclusion.mono : ∀ a0 a1 a2 a3 a4 a5 a6 a7 a8 k, LeO (laws_FnTreeInclusion.f k a0 a1 a2 a3 a4 a5 a6 a7 a8) (laws_FnTreeInclusion.f (k + 1) a0 a1 a2 a3 a4 a5 a6 a7 a8) := by
 intro a0 a1 a2 a3 a4 a5 a6 a7 a8 k
 have ih0 := laws_FnTreeInclusion.mono_l k
 unfold laws_FnTreeInclusion.f
 repeat' first
   | (with_reducible exact ih0 _ _ _ _ _ _ _ _ _ _ _ _)
   | (with_reducible exact impl_TreeInclusion.mono _ _ _ _ _ _ _ _ _ _)
   | (with_reducible exact laws_logSmall.mono _ _)
   | (with_reducible exact laws_zzFits2.mono _ _)
   | (with_reducible exact spec_Path.mono _ _ _ _ _ _ _ _ _)
   | (with_reducible exact spec_Same.mono _ _ _)
   | (with_reducible exact LeO.refl _)
   | (with_reducible exact LeO.none _)
   | (with_reducible refine LeO.ite ?_ ?_)
   | (with_reducible refine LeO.bind ?_ (fun _ => ?_))
   | exact ih0 _ _ _ _ _ _ _ _ _ _ _ _
   | exact impl_TreeInclusion.mono _ _ _ _ _ _ _ _ _ _
   | exact laws_logSmall.mono _ _
   | exact laws_zzFits2.mono _ _
   | exact spec_Path.mono _ _ _ _ _ _ _ _ _
   | exact spec_Same.mono _ _ _
   | exact LeO.none _
   | refine LeO.ite ?_ ?_
   | refine LeO.bind ?_ (fun _ => ?_)
def laws_FnTreeInclusion.T8 : Bool × List (List Nat × List Nat) := (true, [([], []), ([0], [0]), ([1], [1]), ([1], [1]), ([1], [1]), ([1], [1]), ([4, 5, 1], [1, 4, 5]), ([1], [1]), ([3, 6, 7, 1, 1], [1, 3, 6, 7]), ([2, 8, 8, 1], [1, 2, 8]), ([1, 9], [1, 9]), ([10, 9, 0, 1, 2, 3, 4, 5, 6, 7, 8, 9, 10], [10])])
def laws_FnTreeInclusion.B8 : List Nat := [0, 1, 3, 3, 3, 3, 51, 3, 251, 511, 1023, 2047]
theorem laws_FnTreeInclusion.tab8 : rtab .any (opsOf Tryd.f10 8) = laws_FnTreeInclusion.T8 := by kernel_rfl
theorem laws_FnTreeInclusion.bits8 : waitsOk laws_FnTreeInclusion.T8.2 laws_FnTreeInclusion.B8 = true := by kernel_rfl
set_option maxHeartbeats 8000000 in
set_option maxRecDepth 100000 in
theorem laws_FnTreeInclusion.calls (k : Nat) (a0_0 : Int) (a0_1 : Int) (a0_2 : Int) (a0_3 : Int) (a0_4 : Int) (a0_5 : Int) (A1 : Option Addr) (c1 : Nat) (l1 : List (List Int)) (a2 : Int) (a3 : Int) (r : Bool) (w : World) (hT : TabOK w) (hr1 : Kd.C (Kd.slice 5 (Kd.int .u8)) w A1 l1.length l1) (hc1 : l1.length ≤ c1) (h : laws_FnTreeInclusion.f k a0_0 a0_1 a0_2 a0_3 a0_4 a0_5 l1 a2 a3 = some r) :
  Calls Tryd.prog 10 #[.agg #[.int .i64 a0_0, .int .i64 a0_1, .int .i64 a0_2, .int .u64 a0_3, .int .u64 a0_4, .int .u64 a0_5], .slice A1 l1.length c1, .int .u64 a2, .int .u64 a3] w fun e w' => e = .returned (.bool r) ∧ Below w.heap.size w w' := by
 have hu24 := Tryd.underlying24
 have HT := Aside0.mk hT
 clear hT
 have HR1 := Aside0.mk hr1
 have HC1 := Aside0.mk hc1
 clear hr1 hc1
 have HB := Aside0.mk (Below.refl w.heap.size w)
 have H : ((laws_zzFits2.f k l1).bind fun t336 => (if t336 = true then ((laws_logSmall.f k l1).bind fun t337 => (if t337 = true then ((impl_TreeInclusion.f k a0_0 a0_1 a0_2 a0_3 a0_4 a0_5 l1 a2 a3).bind fun bt338 => (if a3 > (IntKind.u64.wrap ((l1.length : Int))) then (laws_FnTreeInclusion.j0 k l1 a2 a3 bt338.1 bt338.2 true a0_0 a0_1 a0_2 a0_3 a0_4 a0_5) else (laws_FnTreeInclusion.j0 k l1 a2 a3 bt338.1 bt338.2 (decide (a2 ≥ a3)) a0_0 a0_1 a0_2 a0_3 a0_4 a0_5))) else (some true))) else (some true))) = some r := h
 clear h
 replace H := Option.bind_eq_some_iff.mp H
 obtain ⟨t336, A50, H⟩ := H
 replace H : (if t336 = true then ((laws_logSmall.f k l1).bind fun t337 => (if t337 = true then ((impl_TreeInclusion.f k a0_0 a0_1 a0_2 a0_3 a0_4 a0_5 l1 a2 a3).bind fun bt338 => (if a3 > (IntKind.u64.wrap ((l1.length : Int))) then (laws_FnTreeInclusion.j0 k l1 a2 a3 bt338.1 bt338.2 true a0_0 a0_1 a0_2 a0_3 a0_4 a0_5) else (laws_FnTreeInclusion.j0 k l1 a2 a3 bt338.1 bt338.2 (decide (a2 ≥ a3)) a0_0 a0_1 a0_2 a0_3 a0_4 a0_5))) else (some true))) else (some true)) = some r := H
 have A5 := Aside0.mk A50
 clear A50
 by_cases c6 : t336 = true
 ·subst c6
  have H1 : ((laws_logSmall.f k l1).bind fun t337 => (if t337 = true then ((impl_TreeInclusion.f k a0_0 a0_1 a0_2 a0_3 a0_4 a0_5 l1 a2 a3).bind fun bt338 => (if a3 > (IntKind.u64.wrap ((l1.length : Int))) then (laws_FnTreeInclusion.j0 k l1 a2 a3 bt338.1 bt338.2 true a0_0 a0_1 a0_2 a0_3 a0_4 a0_5) else (laws_FnTreeInclusion.j0 k l1 a2 a3 bt338.1 bt338.2 (decide (a2 ≥ a3)) a0_0 a0_1 a0_2 a0_3 a0_4 a0_5))) else (some true))) = some r := by rw [if_pos rfl] at H; exact H
  clear H
  have H := H1
  clear H1
  replace H := Option.bind_eq_some_iff.mp H
  obtain ⟨t337, A70, H⟩ := H
  replace H : (if t337 = true then ((impl_TreeInclusion.f k a0_0 a0_1 a0_2 a0_3 a0_4 a0_5 l1 a2 a3).bind fun bt338 => (if a3 > (IntKind.u64.wrap ((l1.length : Int))) then (laws_FnTreeInclusion.j0 k l1 a2 a3 bt338.1 bt338.2 true a0_0 a0_1 a0_2 a0_3 a0_4 a0_5) else (laws_FnTreeInclusion.j0 k l1 a2 a3 bt338.1 bt338.2 (decide (a2 ≥ a3)) a0_0 a0_1 a0_2 a0_3 a0_4 a0_5))) else (some true)) = some r := H
  have A7 := Aside0.mk A70
  clear A70
  by_cases c8 : t337 = true
  ·subst c8
   have H1 : ((impl_TreeInclusion.f k a0_0 a0_1 a0_2 a0_3 a0_4 a0_5 l1 a2 a3).bind fun bt338 => (if a3 > (IntKind.u64.wrap ((l1.length : Int))) then (laws_FnTreeInclusion.j0 k l1 a2 a3 bt338.1 bt338.2 true a0_0 a0_1 a0_2 a0_3 a0_4 a0_5) else (laws_FnTreeInclusion.j0 k l1 a2 a3 bt338.1 bt338.2 (decide (a2 ≥ a3)) a0_0 a0_1 a0_2 a0_3 a0_4 a0_5))) = some r := by rw [if_pos rfl] at H; exact H
   clear H
   have H := H1
   clear H1
   replace H := Option.bind_eq_some_iff.mp H
   obtain ⟨⟨t338, t341⟩, A90, H⟩ := H
   replace H : (if a3 > (IntKind.u64.wrap ((l1.length : Int))) then (laws_FnTreeInclusion.j0 k l1 a2 a3 t338 t341 true a0_0 a0_1 a0_2 a0_3 a0_4 a0_5) else (laws_FnTreeInclusion.j0 k l1 a2 a3 t338 t341 (decide (a2 ≥ a3)) a0_0 a0_1 a0_2 a0_3 a0_4 a0_5)) = some r := H
   have A9 := Aside0.mk A90
   clear A90
   have HC10 := Aside0.mk H
   clear H
   go_enter Tryd.func10, Tryd.ntmps10
   go_upto_region 6 with (first | ((with_reducible refine gate_dst (N := 4) rfl ?_); refine box_event ?hg (N := 4) ?hd (cs := #[.int .i64 a0_0, .int .i64 a0_1, .int .i64 a0_2, .int .u64 a0_3, .int .u64 a0_4, .int .u64 a0_5]) (t := 24) ?hr ?_; (case hd => rfl); (case hg => rfl); (case hr => first | (go_simp; done) | (go_simp; rfl)); intro gb335 hg w11 hbox hb; have n0_ := Aside0.mk (below_step bB hb); have n1_ := Aside0.mk (hbox); have n2_ := Aside0.mk ((by rw [hg]; exact (below_size bB) : w.heap.size ≤ gb335)); have n3_ := Aside0.mk ((by rw [hg]; exact (below_size bB) : w.heap.size ≤ gb335)); clear HB; have HB := n0_; have BK335 := n1_; have GW335 := n2_; have GE335 := n3_; clear n0_ n1_ n2_ n3_; clear hb hbox hg) | ((with_reducible refine gate_callee (f := 12) rfl ?_); refine goesL_ (some 12) rfl rfl Tryd.func12 (by kernel_rfl) rfl #[.slice A1 l1.length c1] rfl aV ?_; (with_reducible refine (laws_zzFits2.calls k _ _ l1 true _ ?side1 ?side2 A5.out).mono ?_); (case side1 => repeat (first | exact (Kd.C_below HR1.out HB.out) | (with_reducible refine Kd.C_alloc ?_ _) | (with_reducible refine Kd.C_drewN ?_ _) | (with_reducible refine Kd.C_drew ?_))); (case side2 => exact HC1.out); rintro e w' ⟨rfl, ⟨nd, rfl⟩⟩; refine ⟨_, rfl, ?_⟩) | ((with_reducible refine gate_callee (f := 13) rfl ?_); refine goesL_ (some 15) rfl rfl Tryd.func13 (by kernel_rfl) rfl #[.slice A1 l1.length c1] rfl aV ?_; (with_reducible refine (laws_logSmall.calls k _ _ l1 true _ ?side1 ?side2 A7.out).mono ?_); (case side1 => repeat (first | exact (Kd.C_below HR1.out bB) | (with_reducible refine Kd.C_alloc ?_ _) | (with_reducible refine Kd.C_drewN ?_ _) | (with_reducible refine Kd.C_drew ?_))); (case side2 => exact HC1.out); rintro e w' ⟨rfl, ⟨nd, rfl⟩⟩; refine ⟨_, rfl, ?_⟩; have hcz12_0 : w11.cell? ⟨gb335, 0, none⟩ = some (.int .i64 a0_0) := (blk_cell BK335.out 0).trans rfl; have hcz12_1 : w11.cell? ⟨gb335, 1, none⟩ = some (.int .i64 a0_1) := (blk_cell BK335.out 1).trans rfl; have hcz12_2 : w11.cell? ⟨gb335, 2, none⟩ = some (.int .i64 a0_2) := (blk_cell BK335.out 2).trans rfl; have hcz12_3 : w11.cell? ⟨gb335, 3, none⟩ = some (.int .u64 a0_3) := (blk_cell BK335.out 3).trans rfl; have hcz12_4 : w11.cell? ⟨gb335, 4, none⟩ = some (.int .u64 a0_4) := (blk_cell BK335.out 4).trans rfl; have hcz12_5 : w11.cell? ⟨gb335, 5, none⟩ = some (.int .u64 a0_5) := (blk_cell BK335.out 5).trans rfl; have hfz12_0 := blk_frozen BK335.out 0; have hfz12_1 := blk_frozen BK335.out 1; have hfz12_2 := blk_frozen BK335.out 2; have hfz12_3 := blk_frozen BK335.out 3; have hfz12_4 := blk_frozen BK335.out 4; have hfz12_5 := blk_frozen BK335.out 5) | ((with_reducible refine gate_callee (f := 38) rfl ?_); refine goesL_ (some 22) rfl rfl Tryd.func38 (by kernel_rfl) rfl #[.agg #[.int .i64 a0_0, .int .i64 a0_1, .int .i64 a0_2, .int .u64 a0_3, .int .u64 a0_4, .int .u64 a0_5], .slice A1 l1.length c1, .int .u64 a2, .int .u64 a3] rfl aV ?_; (with_reducible refine (impl_TreeInclusion.calls k a0_0 a0_1 a0_2 a0_3 a0_4 a0_5 _ _ l1 a2 a3 t338 t341 _ ?side1 ?side2 ?side3 A9.out).mono ?_); (case side1 => exact TabOK.below HT.out bB); (case side2 => repeat (first | exact (Kd.C_below HR1.out bB) | (with_reducible refine Kd.C_alloc ?_ _) | (with_reducible refine Kd.C_drewN ?_ _) | (with_reducible refine Kd.C_drew ?_))); (case side3 => exact HC1.out); rintro e w13 ⟨v339, rfl, ho0, hb⟩; refine ⟨_, rfl, ?_⟩; have n0_ := Aside0.mk (Kd.N_lower (Kd.N_mono (ok' := fun k_ => k_ ≠ gb335) (Kd.S_N (Kd.S_bound ho0)) (fun k_ hk_ => (Kd.freshB (g := gb335) (o := .cells #[.int .i64 a0_0, .int .i64 a0_1, .int .i64 a0_2, .int .u64 a0_3, .int .u64 a0_4, .int .u64 a0_5] 24 (0, 0)) (kB BK335.out) k_ hk_.2.1))) (below_size bB)); have n1_ := Aside0.mk (blk_below (g := gb335) (o := .cells #[.int .i64 a0_0, .int .i64 a0_1, .int .i64 a0_2, .int .u64 a0_3, .int .u64 a0_4, .int .u64 a0_5] 24 (0, 0)) (kB BK335.out) hb); have n2_ := Aside0.mk (below_step bB hb); clear BK335; clear HB; have HO340 := n0_; have BK335 := n1_; have HB := n2_; clear n0_ n1_ n2_; (try clear hb); (try clear hb2); (try clear hk); (try clear hi); (try clear ho0)))
   (try simp only [Act.put, List.setIfInBounds_toArray, List.set_cons_zero, List.set_cons_succ])
   go_cut [34] (fun v34 wc => ∃ (kq : Nat) (x34_9 : Bool), v34 = .bool x34_9 ∧ Aside0 (laws_FnTreeInclusion.j0 kq l1 a2 a3 t338 t341 x34_9 a0_0 a0_1 a0_2 a0_3 a0_4 a0_5 = some r) ∧ Aside0 (kq ≤ k) ∧ Aside0 (Kd.N (Kd.slice 5 (Kd.int .u8)) 27 wc w.heap.size (fun k_ => k_ ≠ gb335) v339 t338) ∧ Aside0 (wc.heap[gb335]? = some (.cells #[.int .i64 a0_0, .int .i64 a0_1, .int .i64 a0_2, .int .u64 a0_3, .int .u64 a0_4, .int .u64 a0_5] 24 (0, 0))) ∧ Aside0 (Below w.heap.size w wc))
   case first =>
    have H := HC10.out
    clear HC10
    by_cases c14 : a3 > (IntKind.u64.wrap ((l1.length : Int)))
    ·rw [if_pos c14] at H
     have c14b0 : decide ((IntKind.u64.wrap ((l1.length : Int))) < a3) = true := decide_eq_true c14
     clear c14
     (first | rw [c14b0] | (simp only [i64_w, i32_w]; rw [c14b0]) | skip)
     have H' := Aside0.mk H
     clear H
     go_wp2
     go_meet
     case rel => exact ⟨_, (true), (by first | rfl | (simp; done) | (simp [*]; done)), H', ⟨by first | omega | exact Nat.le_refl _⟩, ⟨by (with_reducible repeat (first | apply Kd.N_alloc | apply Kd.N_drewN | apply Kd.N_drew)); exact HO340.out⟩, ⟨by (with_reducible repeat (first | refine blk_drewN ?_ _ | refine blk_drew ?_ | refine blk_alloc ?_ _)); exact BK335.out⟩, ⟨bB⟩⟩
    ·rw [if_neg c14] at H
     have c14b0 : decide ((IntKind.u64.wrap ((l1.length : Int))) < a3) = false := decide_eq_false c14
     clear c14
     (first | rw [c14b0] | (simp only [i64_w, i32_w]; rw [c14b0]) | skip)
     have H' := Aside0.mk H
     clear H
     go_wp2
     go_meet
     case rel => exact ⟨_, (decide (a2 ≥ a3)), (by first | rfl | (simp; done) | (simp [*]; done)), H', ⟨by first | omega | exact Nat.le_refl _⟩, ⟨by (with_reducible repeat (first | apply Kd.N_alloc | apply Kd.N_drewN | apply Kd.N_drew)); exact HO340.out⟩, ⟨by (with_reducible repeat (first | refine blk_drewN ?_ _ | refine blk_drew ?_ | refine blk_alloc ?_ _)); exact BK335.out⟩, ⟨bB⟩⟩
   case rest =>
    clear HC10
    try clear c1
    try clear p2
    try clear c3
    try clear c6
    try clear c8
    try clear c10
    try clear c12
    try clear c13
    try clear c14
    try clear c14b0
    try clear hcz12_0
    try clear hcz12_1
    try clear hcz12_2
    try clear hcz12_3
    try clear hcz12_4
    try clear hcz12_5
    try clear hfz12_0
    try clear hfz12_1
    try clear hfz12_2
    try clear hfz12_3
    try clear hfz12_4
    try clear hfz12_5
    obtain ⟨kq, x34_9, rfl, HA, HJ9, HO_9, BK335, HB⟩ := hcut
    cases kq with
    | zero => exact absurd HA.out (by simp [laws_FnTreeInclusion.j0])
    | succ kj9 =>
     have H := HA.out
     clear HA
     simp only [laws_FnTreeInclusion.j0] at H
     by_cases c15 : x34_9 = true
     ·subst c15
      have H1 : (some (!t341)) = some r := by rw [if_pos rfl] at H; exact H
      clear H
      have H := H1
      clear H1
      obtain rfl := Option.some.inj H
      go_wp2
      go_ret
      exact ⟨by first | rfl | (simp [errW_none, errW_some] <;> rfl) | (simp [*, errW_none, errW_some] <;> rfl), bB⟩
     ·replace c15 := Bool.eq_false_iff.mpr c15
      subst c15
      have H1 : (if t341 = true then (if 0 ≤ a3 then (if a3 ≤ (l1.length : Int) then ((spec_Path.f kj9 a0_0 a0_1 a0_2 a0_3 a0_4 a0_5 (l1.take (a3 : Int).toNat) a2).bind fun t346 => ((spec_Same.f kj9 t338 t346).bind fun t349 => (some t349))) else (none)) else (none)) else (some false)) = some r := by rw [if_neg (show ¬ (false = true) by decide)] at H; exact H
      clear H
      have H := H1
      clear H1
      by_cases c16 : t341 = true
      ·subst c16
       have H1 : (if 0 ≤ a3 then (if a3 ≤ (l1.length : Int) then ((spec_Path.f kj9 a0_0 a0_1 a0_2 a0_3 a0_4 a0_5 (l1.take (a3 : Int).toNat) a2).bind fun t346 => ((spec_Same.f kj9 t338 t346).bind fun t349 => (some t349))) else (none)) else (none)) = some r := by rw [if_pos rfl] at H; exact H
       clear H
       have H := H1
       clear H1
       by_cases c17 : 0 ≤ a3
       ·rw [if_pos c17] at H
        have c17b0 := eq_true c17
        have c17b1 : decide (0 ≤ a3) = true := decide_eq_true c17
        clear c17
        by_cases c18 : a3 ≤ (l1.length : Int)
        ·rw [if_pos c18] at H
         have c18b0 := eq_true c18
         have c18b1 : decide (a3 ≤ (l1.length : Int)) = true := decide_eq_true c18
         clear c18
         obtain ⟨y342, hy342⟩ : ∃ y_ : List (List Int), y_ = (l1.take (a3 : Int).toNat) := ⟨_, rfl⟩
         replace H : ((spec_Path.f kj9 a0_0 a0_1 a0_2 a0_3 a0_4 a0_5 y342 a2).bind fun t346 => ((spec_Same.f kj9 t338 t346).bind fun t349 => (some t349))) = some r := by first | (rw [hy342]; with_reducible exact H) | (have H2_ := (Option.bind_some _ _).symm.trans H; rw [hy342]; with_reducible exact H2_) | (have H2_ := (Option.bind_some _ _).symm.trans H; with_reducible exact H2_) | with_reducible exact H | (rw [hy342]; exact H) | exact H
         have Ny342 := Aside0.mk hy342
         clear hy342
         replace H := Option.bind_eq_some_iff.mp H
         obtain ⟨t346, A190, H⟩ := H
         replace H : ((spec_Same.f kj9 t338 t346).bind fun t349 => (some t349)) = some r := H
         have A19 := Aside0.mk A190
         clear A190
         replace H := Option.bind_eq_some_iff.mp H
         obtain ⟨t349, A200, H⟩ := H
         replace H : (some t349) = some r := H
         have A20 := Aside0.mk A200
         clear A200
         obtain rfl := Option.some.inj H
         try go_wp2
         have n0_ := Aside0.mk (Kd.N_drew HO_9.out)
         have n1_ := Aside0.mk (blk_drew BK335.out)
         have n2_ := Aside0.mk (below_drew1 HB.out)
         clear HO_9
         clear BK335
         clear HB
         have HO_9 := n0_
         have BK335 := n1_
         have HB := n2_
         clear n0_ n1_ n2_
         have q22 : (a3 : Int) ≤ ((l1.length : Int) : Int) := dA
         obtain ⟨i022, hi022, _, hsz22, _⟩ := info_parts info27
         have hroom22 : l1.length ≤ c1 := HC1.out
         have hC22 : Kd.C (Kd.slice 5 (Kd.int .u8)) _ A1 l1.length l1 := HR1.out
         have hcut22 := cut_to (P := Tryd.prog) 25 27 .u64 Tryd.underlying25 hi022 A1 l1.length c1 a3 dA q22 hroom22
         have hr22 := Kd.C_take (m := (a3 : Int).toNat) hC22 (by omega)
         have hy22 : y342.length = (a3 : Int).toNat := (by rw [Ny342.out, List.length_take]; omega)
         rw [← Ny342.out] at hr22
         rw [← hy22] at hcut22
         have HR345 := Aside0.mk hr22
         have HC345 := Aside0.mk (show y342.length ≤ c1 from by omega)
         clear hr22 hC22 hroom22 hi022 hsz22
         have KY22 := Aside0.mk hy22
         clear hy22
         replace q22 := eq_true q22
         refine start_ (n := 12) (S := fun w' => w'.cell? ⟨gb335, 0, none⟩ = some (.int .i64 a0_0) ∧ w'.cell? ⟨gb335, 1, none⟩ = some (.int .i64 a0_1) ∧ w'.cell? ⟨gb335, 2, none⟩ = some (.int .i64 a0_2) ∧ w'.cell? ⟨gb335, 3, none⟩ = some (.int .u64 a0_3) ∧ w'.cell? ⟨gb335, 4, none⟩ = some (.int .u64 a0_4) ∧ w'.cell? ⟨gb335, 5, none⟩ = some (.int .u64 a0_5)) (ds := []) #[false, false, false, false, false, false, false, false, false, false, false, false] (by kernel_rfl) rfl rfl ⟨(blk_cell BK335.out 0).trans rfl, (blk_cell BK335.out 1).trans rfl, (blk_cell BK335.out 2).trans rfl, (blk_cell BK335.out 3).trans rfl, (blk_cell BK335.out 4).trans rfl, (blk_cell BK335.out 5).trans rfl⟩ (fun hHeld => ?_); refine with_tabW laws_FnTreeInclusion.tab8 laws_FnTreeInclusion.bits8 (fun HT_ HW_ => ?_)
         generalize wc.drew = w21 at HO_9 BK335 HB HR345 hHeld ⊢
         refine pure_ (i := 0) (N := some 37) (v := ?_) (a' := ?_) #[true, false, false, false, false, false, false, false, false, false, false, false] rfl rfl (any_of HT_.out (by kernel_rfl)) (fun _ _ _ h => h) (Or.inl ⟨by rfl, ?_⟩) ?_ ?_
         rotate_left
         ·intro w'
          go_simp
          with_reducible rfl
         rotate_left
         ·simp only [Act.put, List.setIfInBounds_toArray, List.set_cons_zero, List.set_cons_succ, i64_w, i32_w]
          rfl
         refine pure_ (i := 1) (N := some 38) (v := ?_) (a' := ?_) #[true, true, false, false, false, false, false, false, false, false, false, false] rfl rfl (any_of HT_.out (by kernel_rfl)) (fun _ _ _ h => h) (Or.inl ⟨by rfl, ?_⟩) ?_ ?_
         rotate_left
         ·intro w'
          go_simp
          with_reducible rfl
         rotate_left
         ·simp only [Act.put, List.setIfInBounds_toArray, List.set_cons_zero, List.set_cons_succ, i64_w, i32_w]
          rfl
         refine pure_ (i := 2) (N := some 39) (v := ?_) (a' := ?_) #[true, true, true, false, false, false, false, false, false, false, false, false] rfl rfl (any_of HT_.out (by kernel_rfl)) (fun _ _ _ h => h) (Or.inl ⟨by rfl, ?_⟩) ?_ ?_
         rotate_left
         ·intro w'
          go_simp
          with_reducible rfl
         rotate_left
         ·simp only [Act.put, List.setIfInBounds_toArray, List.set_cons_zero, List.set_cons_succ, i64_w, i32_w]
          rfl
         refine pure_ (i := 4) (N := some 41) (v := ?_) (a' := ?_) #[true, true, true, false, true, false, false, false, false, false, false, false] rfl rfl (any_of HT_.out (by kernel_rfl)) (fun _ _ _ h => h) (Or.inl ⟨by rfl, ?_⟩) ?_ ?_
         rotate_left
         ·intro w'
          go_simp
          with_reducible rfl
         rotate_left
         ·simp only [Act.put, List.setIfInBounds_toArray, List.set_cons_zero, List.set_cons_succ, i64_w, i32_w]
          rfl
         refine pure_ (i := 5) (N := some 42) (v := ?_) (a' := ?_) #[true, true, true, false, true, true, false, false, false, false, false, false] rfl rfl (any_of HT_.out (by kernel_rfl)) (fun _ _ _ h => h) (Or.inl ⟨by rfl, ?_⟩) ?_ ?_
         rotate_left
         ·intro w'
          go_simp
          with_reducible rfl
         rotate_left
         ·simp only [Act.put, List.setIfInBounds_toArray, List.set_cons_zero, List.set_cons_succ, i64_w, i32_w]
          rfl
         refine pure_ (i := 6) (N := some 43) (v := ?_) (a' := ?_) #[true, true, true, false, true, true, true, false, false, false, false, false] rfl rfl (any_of HT_.out (by kernel_rfl)) (fun _ _ _ h => h) (Or.inl ⟨by rfl, ?_⟩) ?_ ?_
         rotate_left
         ·intro w'
          go_simp
          with_reducible rfl
         rotate_left
         ·simp only [Act.put, List.setIfInBounds_toArray, List.set_cons_zero, List.set_cons_succ, i64_w, i32_w]
          rfl
         refine pure_ (i := 7) (N := some 44) (v := ?_) (a' := ?_) #[true, true, true, false, true, true, true, true, false, false, false, false] rfl rfl (any_of HT_.out (by kernel_rfl)) (fun _ _ _ h => h) (Or.inl ⟨by rfl, ?_⟩) ?_ ?_
         rotate_left
         ·intro w'
          go_simp
          with_reducible rfl
         rotate_left
         ·simp only [Act.put, List.setIfInBounds_toArray, List.set_cons_zero, List.set_cons_succ, i64_w, i32_w]
          rfl
         refine take_ (i := 3) (N := some 40) (v := ?_) (a' := ?_) #[true, true, true, true, true, true, true, true, false, false, false, false] rfl rfl (take_ofW HT_.out HW_.out (by kernel_rfl)) (fun _ _ _ h => h) (Or.inl ⟨by rfl, ?_⟩) hHeld ?_ ?_
         rotate_left
         ·rintro w' ⟨s0, s1, s2, s3, s4, s5⟩
          go_simp
          with_reducible rfl
         rotate_left
         ·simp only [Act.put, List.setIfInBounds_toArray, List.set_cons_zero, List.set_cons_succ, i64_w, i32_w]
          rfl
         refine one_ (i := 8) (N := some 45) #[true, true, true, true, true, true, true, true, true, false, false, false] rfl rfl (one_of HT_.out (by kernel_rfl)) (by decide) (fun K hK => ?_)
         refine goes_ Tryd.func33 (by kernel_rfl) rfl #[.agg #[.int .i64 a0_0, .int .i64 a0_1, .int .i64 a0_2, .int .u64 a0_3, .int .u64 a0_4, .int .u64 a0_5], .slice A1 y342.length c1, .int .u64 a2] (by rfl) rfl rfl aV ?_
         with_reducible refine (spec_Path.calls kj9 a0_0 a0_1 a0_2 a0_3 a0_4 a0_5 (fun k_ => k_ < w.heap.size) _ _ y342 a2 t346 _ ?side1 A19.out).mono ?_
         (case side1 => first | exact Kd.V_mk HC345.out (Kd.F_below (Kd.C_F (Kd.heap_slice 5 (Kd.heap_int .u8)) HR345.out) bB) | exact Kd.V_mono Kd.V_mk HC345.out (Kd.F_below (Kd.C_F (Kd.heap_slice 5 (Kd.heap_int .u8)) HR345.out) bB) (fun k_ h_ => by simp only [and_assoc] at h_ ⊢; exact h_))
         rintro e w23 ⟨v347, rfl, ho0, hb⟩
         refine ⟨_, rfl, ?_⟩
         have n0_ := Aside0.mk (Kd.N_elder' (by (with_reducible repeat (first | apply Kd.N_alloc | apply Kd.N_drewN | apply Kd.N_drew)); exact HO_9.out) (Kd.N_base ho0) hb)
         have n1_ := Aside0.mk (Kd.N_lower (Kd.N_mono (ok' := fun k_ => some k_ ≠ (v339 : Value).ownBlock ∧ k_ ≠ gb335) ho0 (fun k_ hk_ => ⟨Or.elim hk_ (fun hs_ => fun e_ => Nat.not_le.2 hs_ (Kd.N_base HO_9.out k_ e_.symm)) (fun hn_ => (Kd.fresh' (Kd.N_lt (by (with_reducible repeat (first | apply Kd.N_alloc | apply Kd.N_drewN | apply Kd.N_drew)); exact HO_9.out)) k_ hn_)), Or.elim hk_ (fun hs_ => fun e_ => Nat.not_le.2 hs_ (by rw [e_]; exact GW335.out)) (fun hn_ => (Kd.freshB (g := gb335) (o := .cells #[.int .i64 a0_0, .int .i64 a0_1, .int .i64 a0_2, .int .u64 a0_3, .int .u64 a0_4, .int .u64 a0_5] 24 (0, 0)) (kB BK335.out) k_ hn_))⟩)) (below_size bB))
         have n2_ := Aside0.mk (blk_below (g := gb335) (o := .cells #[.int .i64 a0_0, .int .i64 a0_1, .int .i64 a0_2, .int .u64 a0_3, .int .u64 a0_4, .int .u64 a0_5] 24 (0, 0)) (kB BK335.out) hb)
         have n3_ := Aside0.mk (below_step bB hb)
         clear HO_9
         clear BK335
         clear HB
         have HO_9 := n0_
         have HO348 := n1_
         have BK335 := n2_
         have HB := n3_
         clear n0_ n1_ n2_ n3_
         (try clear hb)
         (try clear hb2)
         (try clear hk)
         (try clear hi)
         (try clear ho0)
         obtain ⟨Ao24, co24, eo24⟩ := Kd.N_slice HO_9.out
         (first | subst eo24 | (injection eo24 with f1_ f2_ f3_; have f4_ := f1_.symm; have f5_ := f3_.symm; clear f1_ f2_ f3_; subst f4_; subst f5_))
         obtain ⟨Ao25, co25, eo25⟩ := Kd.N_slice HO348.out
         (first | subst eo25 | (injection eo25 with f1_ f2_ f3_; have f4_ := f1_.symm; have f5_ := f3_.symm; clear f1_ f2_ f3_; subst f4_; subst f5_))
         refine hK.out _ _ ⟨(blk_cell BK335.out 0).trans rfl, (blk_cell BK335.out 1).trans rfl, (blk_cell BK335.out 2).trans rfl, (blk_cell BK335.out 3).trans rfl, (blk_cell BK335.out 4).trans rfl, (blk_cell BK335.out 5).trans rfl⟩ (fun hHeld => ?_)
         clear hK K
         refine norm_ (a' := ?_) ?_ ?_
         rotate_left
         ·show Act.put _ (some 45) _ = _
          simp only [Act.put, List.setIfInBounds_toArray, List.set_cons_zero, List.set_cons_succ, i64_w, i32_w]
          rfl
         refine one_ (i := 9) (N := some 46) #[true, true, true, true, true, true, true, true, true, true, false, false] rfl rfl (one_of HT_.out (by kernel_rfl)) (by decide) (fun K hK => ?_)
         refine goes_ Tryd.func17 (by kernel_rfl) rfl #[.slice Ao24 t338.length co24, .slice Ao25 t346.length co25] (by rfl) rfl rfl aV ?_
         with_reducible refine (spec_Same.calls kj9 _ _ t338 _ _ t346 t349 _ ?side1 ?side2 ?side3 ?side4 A20.out).mono ?_
         (case side1 => repeat (first | exact (Kd.N_reads' HO_9.out).2.2 | (with_reducible refine Kd.C_alloc ?_ _) | (with_reducible refine Kd.C_drewN ?_ _) | (with_reducible refine Kd.C_drew ?_)))
         (case side2 => exact (Kd.N_reads' HO_9.out).2.1)
         (case side3 => repeat (first | exact (Kd.N_reads' HO348.out).2.2 | (with_reducible refine Kd.C_alloc ?_ _) | (with_reducible refine Kd.C_drewN ?_ _) | (with_reducible refine Kd.C_drew ?_)))
         (case side4 => exact (Kd.N_reads' HO348.out).2.1)
         rintro e w' ⟨rfl, ⟨nd, rfl⟩⟩
         refine ⟨_, rfl, ?_⟩
         refine hK.out _ _ ⟨(blk_cell BK335.out 0).trans rfl, (blk_cell BK335.out 1).trans rfl, (blk_cell BK335.out 2).trans rfl, (blk_cell BK335.out 3).trans rfl, (blk_cell BK335.out 4).trans rfl, (blk_cell BK335.out 5).trans rfl⟩ (fun hHeld => ?_)
         clear hK K
         refine norm_ (a' := ?_) ?_ ?_
         rotate_left
         ·show Act.put _ (some 46) _ = _
          simp only [Act.put, List.setIfInBounds_toArray, List.set_cons_zero, List.set_cons_succ, i64_w, i32_w]
          rfl
         refine pure_ (i := 10) (N := some 47) (v := ?_) (a' := ?_) #[true, true, true, true, true, true, true, true, true, true, true, false] rfl rfl (any_of HT_.out (by kernel_rfl)) (fun _ _ _ h => h) (Or.inl ⟨by rfl, ?_⟩) ?_ ?_
         rotate_left
         ·intro w'
          go_simp
          with_reducible rfl
         rotate_left
         ·simp only [Act.put, List.setIfInBounds_toArray, List.set_cons_zero, List.set_cons_succ, i64_w, i32_w]
          rfl
         refine pure_ (i := 11) (N := some 8) (v := ?_) (a' := ?_) #[true, true, true, true, true, true, true, true, true, true, true, true] rfl rfl (any_of HT_.out (by kernel_rfl)) (fun _ _ _ h => h) (Or.inl ⟨by rfl, ?_⟩) ?_ ?_
         rotate_left
         ·intro w'
          go_simp
          with_reducible rfl
         rotate_left
         ·simp only [Act.put, List.setIfInBounds_toArray, List.set_cons_zero, List.set_cons_succ, i64_w, i32_w]
          rfl
         refine done_ (done_of HT_.out (by kernel_rfl)) ?_
         try go_wp2
         go_ret
         exact ⟨by first | rfl | (simp [errW_none, errW_some] <;> rfl) | (simp [*, errW_none, errW_some] <;> rfl), bB⟩
        ·rw [if_neg c18] at H
         exact absurd H (by simp)
       ·rw [if_neg c17] at H
        exact absurd H (by simp)
      ·replace c16 := Bool.eq_false_iff.mpr c16
       subst c16
       have H1 : (some false) = some r := by rw [if_neg (show ¬ (false = true) by decide)] at H; exact H
       clear H
       have H := H1
       clear H1
       obtain rfl := Option.some.inj H
       try go_wp2
       have n0_ := Aside0.mk (Kd.N_drew HO_9.out)
       have n1_ := Aside0.mk (blk_drew BK335.out)
       have n2_ := Aside0.mk (below_drew1 HB.out)
       clear HO_9
       clear BK335
       clear HB
       have HO_9 := n0_
       have BK335 := n1_
       have HB := n2_
       clear n0_ n1_ n2_
       refine start_ (n := 12) (S := fun w' => True) (ds := []) #[false, false, false, false, false, false, false, false, false, false, false, false] (by kernel_rfl) rfl rfl trivial (fun hHeld => ?_); refine with_tabW laws_FnTreeInclusion.tab8 laws_FnTreeInclusion.bits8 (fun HT_ HW_ => ?_)
       generalize wc.drew = w26 at HO_9 BK335 HB hHeld ⊢
       refine pure_ (i := 0) (N := some 37) (v := ?_) (a' := ?_) #[true, false, false, false, false, false, false, false, false, false, false, false] rfl rfl (any_of HT_.out (by kernel_rfl)) (fun _ _ _ h => h) (Or.inl ⟨by rfl, ?_⟩) ?_ ?_
       rotate_left
       ·intro w'
        go_simp
        with_reducible rfl
       rotate_left
       ·simp only [Act.put, List.setIfInBounds_toArray, List.set_cons_zero, List.set_cons_succ, i64_w, i32_w]
        rfl
       refine pure_ (i := 1) (N := some 38) (v := ?_) (a' := ?_) #[true, true, false, false, false, false, false, false, false, false, false, false] rfl rfl (any_of HT_.out (by kernel_rfl)) (fun _ _ _ h => h) (Or.inl ⟨by rfl, ?_⟩) ?_ ?_
       rotate_left
       ·intro w'
        go_simp
        with_reducible rfl
       rotate_left
       ·simp only [Act.put, List.setIfInBounds_toArray, List.set_cons_zero, List.set_cons_succ, i64_w, i32_w]
        rfl
       refine pure_ (i := 2) (N := some 39) (v := undef) (a' := ?_) #[true, true, true, false, false, false, false, false, false, false, false, false] rfl rfl (any_of HT_.out (by kernel_rfl)) (fun _ _ _ h => h) (Or.inr ⟨by rfl, rfl⟩) ?_ ?_
       rotate_left
       ·simp only [Act.put, List.setIfInBounds_toArray, List.set_cons_zero, List.set_cons_succ, i64_w, i32_w]
        rfl
       refine pure_ (i := 3) (N := some 40) (v := undef) (a' := ?_) #[true, true, true, true, false, false, false, false, false, false, false, false] rfl rfl (any_of HT_.out (by kernel_rfl)) (fun _ _ _ h => h) (Or.inr ⟨by rfl, rfl⟩) ?_ ?_
       rotate_left
       ·simp only [Act.put, List.setIfInBounds_toArray, List.set_cons_zero, List.set_cons_succ, i64_w, i32_w]
        rfl
       refine pure_ (i := 4) (N := some 41) (v := undef) (a' := ?_) #[true, true, true, true, true, false, false, false, false, false, false, false] rfl rfl (any_of HT_.out (by kernel_rfl)) (fun _ _ _ h => h) (Or.inr ⟨by rfl, rfl⟩) ?_ ?_
       rotate_left
       ·simp only [Act.put, List.setIfInBounds_toArray, List.set_cons_zero, List.set_cons_succ, i64_w, i32_w]
        rfl
       refine pure_ (i := 5) (N := some 42) (v := undef) (a' := ?_) #[true, true, true, true, true, true, false, false, false, false, false, false] rfl rfl (any_of HT_.out (by kernel_rfl)) (fun _ _ _ h => h) (Or.inr ⟨by rfl, rfl⟩) ?_ ?_
       rotate_left
       ·simp only [Act.put, List.setIfInBounds_toArray, List.set_cons_zero, List.set_cons_succ, i64_w, i32_w]
        rfl
       refine pure_ (i := 6) (N := some 43) (v := undef) (a' := ?_) #[true, true, true, true, true, true, true, false, false, false, false, false] rfl rfl (any_of HT_.out (by kernel_rfl)) (fun _ _ _ h => h) (Or.inr ⟨by rfl, rfl⟩) ?_ ?_
       rotate_left
       ·simp only [Act.put, List.setIfInBounds_toArray, List.set_cons_zero, List.set_cons_succ, i64_w, i32_w]
        rfl
       refine pure_ (i := 7) (N := some 44) (v := undef) (a' := ?_) #[true, true, true, true, true, true, true, true, false, false, false, false] rfl rfl (any_of HT_.out (by kernel_rfl)) (fun _ _ _ h => h) (Or.inr ⟨by rfl, rfl⟩) ?_ ?_
       rotate_left
       ·simp only [Act.put, List.setIfInBounds_toArray, List.set_cons_zero, List.set_cons_succ, i64_w, i32_w]
        rfl
       refine pure_ (i := 8) (N := some 45) (v := undef) (a' := ?_) #[true, true, true, true, true, true, true, true, true, false, false, false] rfl rfl (any_of HT_.out (by kernel_rfl)) (fun _ _ _ h => h) (Or.inr ⟨by rfl, rfl⟩) ?_ ?_
       rotate_left
       ·simp only [Act.put, List.setIfInBounds_toArray, List.set_cons_zero, List.set_cons_succ, i64_w, i32_w]
        rfl
       refine pure_ (i := 9) (N := some 46) (v := undef) (a' := ?_) #[true, true, true, true, true, true, true, true, true, true, false, false] rfl rfl (any_of HT_.out (by kernel_rfl)) (fun _ _ _ h => h) (Or.inr ⟨by rfl, rfl⟩) ?_ ?_
       rotate_left
       ·simp only [Act.put, List.setIfInBounds_toArray, List.set_cons_zero, List.set_cons_succ, i64_w, i32_w]
        rfl
       refine pure_ (i := 10) (N := some 47) (v := ?_) (a' := ?_) #[true, true, true, true, true, true, true, true, true, true, true, false] rfl rfl (any_of HT_.out (by kernel_rfl)) (fun _ _ _ h => h) (Or.inl ⟨by rfl, ?_⟩) ?_ ?_
       rotate_left
       ·intro w'
        go_simp
        with_reducible rfl
       rotate_left
       ·simp only [Act.put, List.setIfInBounds_toArray, List.set_cons_zero, List.set_cons_succ, i64_w, i32_w]
        rfl
       refine pure_ (i := 11) (N := some 8) (v := ?_) (a' := ?_) #[true, true, true, true, true, true, true, true, true, true, true, true] rfl rfl (any_of HT_.out (by kernel_rfl)) (fun _ _ _ h => h) (Or.inl ⟨by rfl, ?_⟩) ?_ ?_
       rotate_left
       ·intro w'
        go_simp
        with_reducible rfl
       rotate_left
       ·simp only [Act.put, List.setIfInBounds_toArray, List.set_cons_zero, List.set_cons_succ, i64_w, i32_w]
        rfl
       refine done_ (done_of HT_.out (by kernel_rfl)) ?_
       try go_wp2
       go_ret
       exact ⟨by first | rfl | (simp [errW_none, errW_some] <;> rfl) | (simp [*, errW_none, errW_some] <;> rfl), bB⟩
  ·replace c8 := Bool.eq_false_iff.mpr c8
   subst c8
   have H1 : (some true) = some r := by rw [if_neg (show ¬ (false = true) by decide)] at H; exact H
   clear H
   have H := H1
   clear H1
   obtain rfl := Option.some.inj H
   go_enter Tryd.func10, Tryd.ntmps10
   go_wp2_with (first | ((with_reducible refine gate_dst (N := 4) rfl ?_); refine box_event ?hg (N := 4) ?hd (cs := #[.int .i64 a0_0, .int .i64 a0_1, .int .i64 a0_2, .int .u64 a0_3, .int .u64 a0_4, .int .u64 a0_5]) (t := 24) ?hr ?_; (case hd => rfl); (case hg => rfl); (case hr => first | (go_simp; done) | (go_simp; rfl)); intro gb335 hg w27 hbox hb; have n0_ := Aside0.mk (below_step bB hb); have n1_ := Aside0.mk (hbox); have n2_ := Aside0.mk ((by rw [hg]; exact (below_size bB) : w.heap.size ≤ gb335)); have n3_ := Aside0.mk ((by rw [hg]; exact (below_size bB) : w.heap.size ≤ gb335)); clear HB; have HB := n0_; have BK335 := n1_; have GW335 := n2_; have GE335 := n3_; clear n0_ n1_ n2_ n3_; clear hb hbox hg) | ((with_reducible refine gate_callee (f := 12) rfl ?_); refine goesL_ (some 12) rfl rfl Tryd.func12 (by kernel_rfl) rfl #[.slice A1 l1.length c1] rfl aV ?_; (with_reducible refine (laws_zzFits2.calls k _ _ l1 true _ ?side1 ?side2 A5.out).mono ?_); (case side1 => repeat (first | exact (Kd.C_below HR1.out HB.out) | (with_reducible refine Kd.C_alloc ?_ _) | (with_reducible refine Kd.C_drewN ?_ _) | (with_reducible refine Kd.C_drew ?_))); (case side2 => exact HC1.out); rintro e w' ⟨rfl, ⟨nd, rfl⟩⟩; refine ⟨_, rfl, ?_⟩) | ((with_reducible refine gate_callee (f := 13) rfl ?_); refine goesL_ (some 15) rfl rfl Tryd.func13 (by kernel_rfl) rfl #[.slice A1 l1.length c1] rfl aV ?_; (with_reducible refine (laws_logSmall.calls k _ _ l1 false _ ?side1 ?side2 A7.out).mono ?_); (case side1 => repeat (first | exact (Kd.C_below HR1.out bB) | (with_reducible refine Kd.C_alloc ?_ _) | (with_reducible refine Kd.C_drewN ?_ _) | (with_reducible refine Kd.C_drew ?_))); (case side2 => exact HC1.out); rintro e w' ⟨rfl, ⟨nd, rfl⟩⟩; refine ⟨_, rfl, ?_⟩))
   go_ret
   exact ⟨by first | rfl | (simp [errW_none, errW_some] <;> rfl) | (simp [*, errW_none, errW_some] <;> rfl), bB⟩
 ·replace c6 := Bool.eq_false_iff.mpr c6
  subst c6
  have H1 : (some true) = some r := by rw [if_neg (show ¬ (false = true) by decide)] at H; exact H
  clear H
  have H := H1
  clear H1
  obtain rfl := Option.some.inj H
  go_enter Tryd.func10, Tryd.ntmps10
  go_wp2_with (first | ((with_reducible refine gate_dst (N := 4) rfl ?_); refine box_event ?hg (N := 4) ?hd (cs := #[.int .i64 a0_0, .int .i64 a0_1, .int .i64 a0_2, .int .u64 a0_3, .int .u64 a0_4, .int .u64 a0_5]) (t := 24) ?hr ?_; (case hd => rfl); (case hg => rfl); (case hr => first | (go_simp; done) | (go_simp; rfl)); intro gb335 hg w28 hbox hb; have n0_ := Aside0.mk (below_step bB hb); have n1_ := Aside0.mk (hbox); have n2_ := Aside0.mk ((by rw [hg]; exact (below_size bB) : w.heap.size ≤ gb335)); have n3_ := Aside0.mk ((by rw [hg]; exact (below_size bB) : w.heap.size ≤ gb335)); clear HB; have HB := n0_; have BK335 := n1_; have GW335 := n2_; have GE335 := n3_; clear n0_ n1_ n2_ n3_; clear hb hbox hg) | ((with_reducible refine gate_callee (f := 12) rfl ?_); refine goesL_ (some 12) rfl rfl Tryd.func12 (by kernel_rfl) rfl #[.slice A1 l1.length c1] rfl aV ?_; (with_reducible refine (laws_zzFits2.calls k _ _ l1 false _ ?side1 ?side2 A5.out).mono ?_); (case side1 => repeat (first | exact (Kd.C_below HR1.out HB.out) | (with_reducible refine Kd.C_alloc ?_ _) | (with_reducible refine Kd.C_drewN ?_ _) | (with_reducible refine Kd.C_drew ?_))); (case side2 => exact HC1.out); rintro e w' ⟨rfl, ⟨nd, rfl⟩⟩; refine ⟨_, rfl, ?_⟩))
  go_ret
  exact ⟨by first | rfl | (simp [errW_none, errW_some] <;> rfl) | (simp [*, errW_none, errW_some] <;> rfl), bB⟩

end Go.Proofs.YtkmdkmlgahfcpaaDoor.M

