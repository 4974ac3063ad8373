-- Written by a program of ours (wip/xp) out of the translation; Lean checks it.
import Derived.Test.YtkkkaegocinkeaaDoorSq
import Derived.Test.YtkkkaegocinkeaaDoorMm1
import Derived.Test.YtkkkaegocinkeaaDoorMm3
import Derived.Test.YtkkkaegocinkeaaDoorMm2
namespace Go.Proofs.YtkkkaegocinkeaaDoor.M
open Go.RowKit Go.Proofs.YtkkkaegocinkeaaDoorW.PrintWords Go.Proofs.YtkkkaegocinkeaaDoorW.PrintLast Go.Proofs.YtkkkaegocinkeaaDoorW.PrintMore
attribute [local go_sem] max2_int min2_int max_two min_two max_three min_three max_four min_four   -- for this text's walks alone
set_option linter.unusedVariables false
set_option linter.unusedSimpArgs false

attribute [local go_sem high] eqA28
/-! ### spec_SameProof: function 15 -/
def spec_SameProof.f (k : Nat) (l0_0 : List (S28)) (a0_1 : Int) (a0_2 : Int) (a0_3 : Int) (a0_4 : Int) (l1_0 : List (S28)) (a1_1 : Int) (a1_2 : Int) (a1_3 : Int) (a1_4 : Int) : Option (Bool) := (spec_SameNodes.f k l0_0 l1_0).bind fun t180 => (if t180 = true then (if (a0_1 == a1_1 && (a0_2 == a1_2)) = true then (if a0_3 = a1_3 then (some (a0_4 == a1_4)) else (some false)) else (some false)) else (some false))
theorem spec_SameProof.mono : ∀ a0 a1 a2 a3 a4 a5 a6 a7 a8 a9 k, LeO (spec_SameProof.f k a0 a1 a2 a3 a4 a5 a6 a7 a8 a9) (spec_SameProof.f (k + 1) a0 a1 a2 a3 a4 a5 a6 a7 a8 a9) := by
 intro a0 a1 a2 a3 a4 a5 a6 a7 a8 a9 k
 unfold spec_SameProof.f
 repeat' first
   | (with_reducible exact spec_SameNodes.mono _ _ _)
   | (with_reducible exact LeO.refl _)
   | (with_reducible exact LeO.none _)
   | (with_reducible refine LeO.ite ?_ ?_)
   | (with_reducible refine LeO.bind ?_ (fun _ => ?_))
   | exact spec_SameNodes.mono _ _ _
   | exact LeO.none _
   | refine LeO.ite ?_ ?_
   | refine LeO.bind ?_ (fun _ => ?_)
set_option maxHeartbeats 8000000 in
set_option maxRecDepth 100000 in
theorem spec_SameProof.calls (k : Nat) (A0_0 : Option Addr) (c0_0 : Nat) (l0_0 : List (S28)) (a0_1 : Int) (a0_2 : Int) (a0_3 : Int) (a0_4 : Int) (A1_0 : Option Addr) (c1_0 : Nat) (l1_0 : List (S28)) (a1_1 : Int) (a1_2 : Int) (a1_3 : Int) (a1_4 : Int) (r : Bool) (w : World) (hr0_0 : Kd.C k28 w A0_0 l0_0.length l0_0) (hc0_0 : l0_0.length ≤ c0_0) (hr1_0 : Kd.C k28 w A1_0 l1_0.length l1_0) (hc1_0 : l1_0.length ≤ c1_0) (h : spec_SameProof.f k l0_0 a0_1 a0_2 a0_3 a0_4 l1_0 a1_1 a1_2 a1_3 a1_4 = some r) :
  Calls Tryd.prog 15 #[.agg #[.slice A0_0 l0_0.length c0_0, .int .u64 a0_1, .int .u64 a0_2, .int .i64 a0_3, .int .i64 a0_4], .agg #[.slice A1_0 l1_0.length c1_0, .int .u64 a1_1, .int .u64 a1_2, .int .i64 a1_3, .int .i64 a1_4]] w fun e w' => e = .returned (.bool r) ∧ Below w.heap.size w w' := by
 have hu39 := Tryd.underlying39
 have hu28 := Tryd.underlying28
 have HR0_0 := Aside0.mk hr0_0
 have HC0_0 := Aside0.mk hc0_0
 clear hr0_0 hc0_0
 have HR1_0 := Aside0.mk hr1_0
 have HC1_0 := Aside0.mk hc1_0
 clear hr1_0 hc1_0
 have HB := Aside0.mk (Below.refl w.heap.size w)
 have H : ((spec_SameNodes.f k l0_0 l1_0).bind fun t180 => (if t180 = true then (if (a0_1 == a1_1 && (a0_2 == a1_2)) = true then (if a0_3 = a1_3 then (some (a0_4 == a1_4)) else (some false)) else (some false)) else (some false))) = some r := h
 clear h
 replace H := Option.bind_eq_some_iff.mp H
 obtain ⟨t180, A30, H⟩ := H
 replace H : (if t180 = true then (if (a0_1 == a1_1 && (a0_2 == a1_2)) = true then (if a0_3 = a1_3 then (some (a0_4 == a1_4)) else (some false)) else (some false)) else (some false)) = some r := H
 have A3 := Aside0.mk A30
 clear A30
 by_cases c4 : t180 = true
 ·subst c4
  have H1 : (if (a0_1 == a1_1 && (a0_2 == a1_2)) = true then (if a0_3 = a1_3 then (some (a0_4 == a1_4)) else (some false)) else (some false)) = some r := by rw [if_pos rfl] at H; exact H
  clear H
  have H := H1
  clear H1
  by_cases c5 : (a0_1 == a1_1 && (a0_2 == a1_2)) = true
  ·rw [if_pos c5] at H
   have c5b0 : (a0_1 == a1_1 && (a0_2 == a1_2)) = true := c5
   (try (have c5b1 : decide (a0_1 = a1_1 && (a0_2 == a1_2)) = true := by simpa using c5))
   (try (have c5b2 : (a0_1 == a1_1 && (a0_2 == a1_2)) = true := by simpa using c5))
   clear c5
   by_cases c6 : a0_3 = a1_3
   ·rw [if_pos c6] at H
    have c6b0 : (a0_3 == a1_3) = true := beq_iff_eq.mpr c6
    have c6b1 : (a0_3 != a1_3) = false := bne_eq_false_iff_eq.mpr c6
    clear c6
    obtain rfl := Option.some.inj H
    go_enter Tryd.func15, Tryd.ntmps15
    go_wp2_with (first | ((with_reducible refine gate_dst (N := 2) rfl ?_); refine box_event ?hg (N := 2) ?hd (cs := #[.slice A0_0 l0_0.length c0_0, .int .u64 a0_1, .int .u64 a0_2, .int .i64 a0_3, .int .i64 a0_4]) (t := 39) ?hr ?_; (case hd => rfl); (case hg => rfl); (case hr => first | (go_simp; done) | (go_simp; rfl)); intro gb178 hg w7 hbox hb; have n0_ := Aside0.mk (below_step bB hb); have n1_ := Aside0.mk (hbox); have n2_ := Aside0.mk ((by rw [hg]; exact (below_size bB) : w.heap.size ≤ gb178)); have n3_ := Aside0.mk ((by rw [hg]; exact (below_size bB) : w.heap.size ≤ gb178)); clear HB; have HB := n0_; have BK178 := n1_; have GW178 := n2_; have GE178 := n3_; clear n0_ n1_ n2_ n3_; clear hb hbox hg) | ((with_reducible refine gate_dst (N := 3) rfl ?_); refine box_event ?hg (N := 3) ?hd (cs := #[.slice A1_0 l1_0.length c1_0, .int .u64 a1_1, .int .u64 a1_2, .int .i64 a1_3, .int .i64 a1_4]) (t := 39) ?hr ?_; (case hd => rfl); (case hg => rfl); (case hr => first | (go_simp; done) | (go_simp; rfl)); intro gb179 hg w8 hbox hb; have n0_ := Aside0.mk (blk_below (g := gb178) (o := .cells #[.slice A0_0 l0_0.length c0_0, .int .u64 a0_1, .int .u64 a0_2, .int .i64 a0_3, .int .i64 a0_4] 39 (0, 0)) (kB BK178.out) hb); have n1_ := Aside0.mk (below_step bB hb); have n2_ := Aside0.mk (hbox); have n3_ := Aside0.mk ((by rw [hg]; exact (below_size bB) : w.heap.size ≤ gb179)); have n4_ := Aside0.mk ((by rw [hg]; exact (below_size bB) : w.heap.size ≤ gb179)); have n5_ := Aside0.mk ((by rw [hg]; exact Nat.ne_of_lt (blk_lt (g := gb178) (o := .cells #[.slice A0_0 l0_0.length c0_0, .int .u64 a0_1, .int .u64 a0_2, .int .i64 a0_3, .int .i64 a0_4] 39 (0, 0)) (kB BK178.out)) : gb178 ≠ gb179)); have n6_ := Aside0.mk ((by rw [hg]; exact Nat.ne_of_gt (blk_lt (g := gb178) (o := .cells #[.slice A0_0 l0_0.length c0_0, .int .u64 a0_1, .int .u64 a0_2, .int .i64 a0_3, .int .i64 a0_4] 39 (0, 0)) (kB BK178.out)) : gb179 ≠ gb178)); clear BK178; clear HB; have BK178 := n0_; have HB := n1_; have BK179 := n2_; have GW179 := n3_; have GE179 := n4_; have NB178_179 := n5_; have NB179_178 := n6_; clear n0_ n1_ n2_ n3_ n4_ n5_ n6_; clear hb hbox hg; have hnb9 := NB178_179.out; have hnc9 := NB179_178.out; have hcz10_0 : w8.cell? ⟨gb178, 0, none⟩ = some (.slice A0_0 l0_0.length c0_0) := (blk_cell BK178.out 0).trans rfl; have hcz10_1 : w8.cell? ⟨gb178, 1, none⟩ = some (.int .u64 a0_1) := (blk_cell BK178.out 1).trans rfl; have hcz10_2 : w8.cell? ⟨gb178, 2, none⟩ = some (.int .u64 a0_2) := (blk_cell BK178.out 2).trans rfl; have hcz10_3 : w8.cell? ⟨gb178, 3, none⟩ = some (.int .i64 a0_3) := (blk_cell BK178.out 3).trans rfl; have hcz10_4 : w8.cell? ⟨gb178, 4, none⟩ = some (.int .i64 a0_4) := (blk_cell BK178.out 4).trans rfl; have hfz10_0 := blk_frozen BK178.out 0; have hfz10_1 := blk_frozen BK178.out 1; have hfz10_2 := blk_frozen BK178.out 2; have hfz10_3 := blk_frozen BK178.out 3; have hfz10_4 := blk_frozen BK178.out 4; have hcz11_0 : w8.cell? ⟨gb179, 0, none⟩ = some (.slice A1_0 l1_0.length c1_0) := (blk_cell BK179.out 0).trans rfl; have hcz11_1 : w8.cell? ⟨gb179, 1, none⟩ = some (.int .u64 a1_1) := (blk_cell BK179.out 1).trans rfl; have hcz11_2 : w8.cell? ⟨gb179, 2, none⟩ = some (.int .u64 a1_2) := (blk_cell BK179.out 2).trans rfl; have hcz11_3 : w8.cell? ⟨gb179, 3, none⟩ = some (.int .i64 a1_3) := (blk_cell BK179.out 3).trans rfl; have hcz11_4 : w8.cell? ⟨gb179, 4, none⟩ = some (.int .i64 a1_4) := (blk_cell BK179.out 4).trans rfl; have hfz11_0 := blk_frozen BK179.out 0; have hfz11_1 := blk_frozen BK179.out 1; have hfz11_2 := blk_frozen BK179.out 2; have hfz11_3 := blk_frozen BK179.out 3; have hfz11_4 := blk_frozen BK179.out 4) | ((with_reducible refine gate_callee (f := 9) rfl ?_); refine goesL_ (some 9) rfl rfl Tryd.func9 (by kernel_rfl) rfl #[.slice A0_0 l0_0.length c0_0, .slice A1_0 l1_0.length c1_0] rfl aV ?_; (with_reducible refine (spec_SameNodes.calls k _ _ l0_0 _ _ l1_0 true _ ?side1 ?side2 ?side3 ?side4 A3.out).mono ?_); (case side1 => repeat (first | exact (Kd.C_below HR0_0.out HB.out) | (with_reducible refine Kd.C_alloc ?_ _) | (with_reducible refine Kd.C_drewN ?_ _) | (with_reducible refine Kd.C_drew ?_))); (case side2 => exact HC0_0.out); (case side3 => repeat (first | exact (Kd.C_below HR1_0.out HB.out) | (with_reducible refine Kd.C_alloc ?_ _) | (with_reducible refine Kd.C_drewN ?_ _) | (with_reducible refine Kd.C_drew ?_))); (case side4 => exact HC1_0.out); rintro e w' ⟨rfl, ⟨nd, rfl⟩⟩; refine ⟨_, rfl, ?_⟩))
    go_ret
    exact ⟨by first | rfl | (simp [errW_none, errW_some] <;> rfl) | (simp [*, errW_none, errW_some] <;> rfl), bB⟩
   ·rw [if_neg c6] at H
    have c6b0 : (a0_3 == a1_3) = false := beq_eq_false_iff_ne.mpr c6
    have c6b1 : (a0_3 != a1_3) = true := bne_iff_ne.mpr c6
    obtain rfl := Option.some.inj H
    go_enter Tryd.func15, Tryd.ntmps15
    go_wp2_with (first | ((with_reducible refine gate_dst (N := 2) rfl ?_); refine box_event ?hg (N := 2) ?hd (cs := #[.slice A0_0 l0_0.length c0_0, .int .u64 a0_1, .int .u64 a0_2, .int .i64 a0_3, .int .i64 a0_4]) (t := 39) ?hr ?_; (case hd => rfl); (case hg => rfl); (case hr => first | (go_simp; done) | (go_simp; rfl)); intro gb178 hg w12 hbox hb; have n0_ := Aside0.mk (below_step bB hb); have n1_ := Aside0.mk (hbox); have n2_ := Aside0.mk ((by rw [hg]; exact (below_size bB) : w.heap.size ≤ gb178)); have n3_ := Aside0.mk ((by rw [hg]; exact (below_size bB) : w.heap.size ≤ gb178)); clear HB; have HB := n0_; have BK178 := n1_; have GW178 := n2_; have GE178 := n3_; clear n0_ n1_ n2_ n3_; clear hb hbox hg) | ((with_reducible refine gate_dst (N := 3) rfl ?_); refine box_event ?hg (N := 3) ?hd (cs := #[.slice A1_0 l1_0.length c1_0, .int .u64 a1_1, .int .u64 a1_2, .int .i64 a1_3, .int .i64 a1_4]) (t := 39) ?hr ?_; (case hd => rfl); (case hg => rfl); (case hr => first | (go_simp; done) | (go_simp; rfl)); intro gb179 hg w13 hbox hb; have n0_ := Aside0.mk (blk_below (g := gb178) (o := .cells #[.slice A0_0 l0_0.length c0_0, .int .u64 a0_1, .int .u64 a0_2, .int .i64 a0_3, .int .i64 a0_4] 39 (0, 0)) (kB BK178.out) hb); have n1_ := Aside0.mk (below_step bB hb); have n2_ := Aside0.mk (hbox); have n3_ := Aside0.mk ((by rw [hg]; exact (below_size bB) : w.heap.size ≤ gb179)); have n4_ := Aside0.mk ((by rw [hg]; exact (below_size bB) : w.heap.size ≤ gb179)); have n5_ := Aside0.mk ((by rw [hg]; exact Nat.ne_of_lt (blk_lt (g := gb178) (o := .cells #[.slice A0_0 l0_0.length c0_0, .int .u64 a0_1, .int .u64 a0_2, .int .i64 a0_3, .int .i64 a0_4] 39 (0, 0)) (kB BK178.out)) : gb178 ≠ gb179)); have n6_ := Aside0.mk ((by rw [hg]; exact Nat.ne_of_gt (blk_lt (g := gb178) (o := .cells #[.slice A0_0 l0_0.length c0_0, .int .u64 a0_1, .int .u64 a0_2, .int .i64 a0_3, .int .i64 a0_4] 39 (0, 0)) (kB BK178.out)) : gb179 ≠ gb178)); clear BK178; clear HB; have BK178 := n0_; have HB := n1_; have BK179 := n2_; have GW179 := n3_; have GE179 := n4_; have NB178_179 := n5_; have NB179_178 := n6_; clear n0_ n1_ n2_ n3_ n4_ n5_ n6_; clear hb hbox hg; have hnb14 := NB178_179.out; have hnc14 := NB179_178.out; have hcz15_0 : w13.cell? ⟨gb178, 0, none⟩ = some (.slice A0_0 l0_0.length c0_0) := (blk_cell BK178.out 0).trans rfl; have hcz15_1 : w13.cell? ⟨gb178, 1, none⟩ = some (.int .u64 a0_1) := (blk_cell BK178.out 1).trans rfl; have hcz15_2 : w13.cell? ⟨gb178, 2, none⟩ = some (.int .u64 a0_2) := (blk_cell BK178.out 2).trans rfl; have hcz15_3 : w13.cell? ⟨gb178, 3, none⟩ = some (.int .i64 a0_3) := (blk_cell BK178.out 3).trans rfl; have hcz15_4 : w13.cell? ⟨gb178, 4, none⟩ = some (.int .i64 a0_4) := (blk_cell BK178.out 4).trans rfl; have hfz15_0 := blk_frozen BK178.out 0; have hfz15_1 := blk_frozen BK178.out 1; have hfz15_2 := blk_frozen BK178.out 2; have hfz15_3 := blk_frozen BK178.out 3; have hfz15_4 := blk_frozen BK178.out 4; have hcz16_0 : w13.cell? ⟨gb179, 0, none⟩ = some (.slice A1_0 l1_0.length c1_0) := (blk_cell BK179.out 0).trans rfl; have hcz16_1 : w13.cell? ⟨gb179, 1, none⟩ = some (.int .u64 a1_1) := (blk_cell BK179.out 1).trans rfl; have hcz16_2 : w13.cell? ⟨gb179, 2, none⟩ = some (.int .u64 a1_2) := (blk_cell BK179.out 2).trans rfl; have hcz16_3 : w13.cell? ⟨gb179, 3, none⟩ = some (.int .i64 a1_3) := (blk_cell BK179.out 3).trans rfl; have hcz16_4 : w13.cell? ⟨gb179, 4, none⟩ = some (.int .i64 a1_4) := (blk_cell BK179.out 4).trans rfl; have hfz16_0 := blk_frozen BK179.out 0; have hfz16_1 := blk_frozen BK179.out 1; have hfz16_2 := blk_frozen BK179.out 2; have hfz16_3 := blk_frozen BK179.out 3; have hfz16_4 := blk_frozen BK179.out 4) | ((with_reducible refine gate_callee (f := 9) rfl ?_); refine goesL_ (some 9) rfl rfl Tryd.func9 (by kernel_rfl) rfl #[.slice A0_0 l0_0.length c0_0, .slice A1_0 l1_0.length c1_0] rfl aV ?_; (with_reducible refine (spec_SameNodes.calls k _ _ l0_0 _ _ l1_0 true _ ?side1 ?side2 ?side3 ?side4 A3.out).mono ?_); (case side1 => repeat (first | exact (Kd.C_below HR0_0.out HB.out) | (with_reducible refine Kd.C_alloc ?_ _) | (with_reducible refine Kd.C_drewN ?_ _) | (with_reducible refine Kd.C_drew ?_))); (case side2 => exact HC0_0.out); (case side3 => repeat (first | exact (Kd.C_below HR1_0.out HB.out) | (with_reducible refine Kd.C_alloc ?_ _) | (with_reducible refine Kd.C_drewN ?_ _) | (with_reducible refine Kd.C_drew ?_))); (case side4 => exact HC1_0.out); rintro e w' ⟨rfl, ⟨nd, rfl⟩⟩; refine ⟨_, rfl, ?_⟩))
    go_ret
    exact ⟨by first | rfl | (simp [errW_none, errW_some] <;> rfl) | (simp [*, errW_none, errW_some] <;> rfl), bB⟩
  ·rw [if_neg c5] at H
   have c5b0 : (a0_1 == a1_1 && (a0_2 == a1_2)) = false := by simpa using c5
   (try (have c5b1 : decide (a0_1 = a1_1 && (a0_2 == a1_2)) = false := by simpa using c5))
   (try (have c5b2 : (a0_1 == a1_1 && (a0_2 == a1_2)) = false := by simpa using c5))
   (try (have c5b3 : ¬ (a0_1 = a1_1 && (a0_2 == a1_2)) := by simpa using c5))
   clear c5
   obtain rfl := Option.some.inj H
   go_enter Tryd.func15, Tryd.ntmps15
   go_wp2_with (first | ((with_reducible refine gate_dst (N := 2) rfl ?_); refine box_event ?hg (N := 2) ?hd (cs := #[.slice A0_0 l0_0.length c0_0, .int .u64 a0_1, .int .u64 a0_2, .int .i64 a0_3, .int .i64 a0_4]) (t := 39) ?hr ?_; (case hd => rfl); (case hg => rfl); (case hr => first | (go_simp; done) | (go_simp; rfl)); intro gb178 hg w17 hbox hb; have n0_ := Aside0.mk (below_step bB hb); have n1_ := Aside0.mk (hbox); have n2_ := Aside0.mk ((by rw [hg]; exact (below_size bB) : w.heap.size ≤ gb178)); have n3_ := Aside0.mk ((by rw [hg]; exact (below_size bB) : w.heap.size ≤ gb178)); clear HB; have HB := n0_; have BK178 := n1_; have GW178 := n2_; have GE178 := n3_; clear n0_ n1_ n2_ n3_; clear hb hbox hg) | ((with_reducible refine gate_dst (N := 3) rfl ?_); refine box_event ?hg (N := 3) ?hd (cs := #[.slice A1_0 l1_0.length c1_0, .int .u64 a1_1, .int .u64 a1_2, .int .i64 a1_3, .int .i64 a1_4]) (t := 39) ?hr ?_; (case hd => rfl); (case hg => rfl); (case hr => first | (go_simp; done) | (go_simp; rfl)); intro gb179 hg w18 hbox hb; have n0_ := Aside0.mk (blk_below (g := gb178) (o := .cells #[.slice A0_0 l0_0.length c0_0, .int .u64 a0_1, .int .u64 a0_2, .int .i64 a0_3, .int .i64 a0_4] 39 (0, 0)) (kB BK178.out) hb); have n1_ := Aside0.mk (below_step bB hb); have n2_ := Aside0.mk (hbox); have n3_ := Aside0.mk ((by rw [hg]; exact (below_size bB) : w.heap.size ≤ gb179)); have n4_ := Aside0.mk ((by rw [hg]; exact (below_size bB) : w.heap.size ≤ gb179)); have n5_ := Aside0.mk ((by rw [hg]; exact Nat.ne_of_lt (blk_lt (g := gb178) (o := .cells #[.slice A0_0 l0_0.length c0_0, .int .u64 a0_1, .int .u64 a0_2, .int .i64 a0_3, .int .i64 a0_4] 39 (0, 0)) (kB BK178.out)) : gb178 ≠ gb179)); have n6_ := Aside0.mk ((by rw [hg]; exact Nat.ne_of_gt (blk_lt (g := gb178) (o := .cells #[.slice A0_0 l0_0.length c0_0, .int .u64 a0_1, .int .u64 a0_2, .int .i64 a0_3, .int .i64 a0_4] 39 (0, 0)) (kB BK178.out)) : gb179 ≠ gb178)); clear BK178; clear HB; have BK178 := n0_; have HB := n1_; have BK179 := n2_; have GW179 := n3_; have GE179 := n4_; have NB178_179 := n5_; have NB179_178 := n6_; clear n0_ n1_ n2_ n3_ n4_ n5_ n6_; clear hb hbox hg; have hnb19 := NB178_179.out; have hnc19 := NB179_178.out; have hcz20_0 : w18.cell? ⟨gb178, 0, none⟩ = some (.slice A0_0 l0_0.length c0_0) := (blk_cell BK178.out 0).trans rfl; have hcz20_1 : w18.cell? ⟨gb178, 1, none⟩ = some (.int .u64 a0_1) := (blk_cell BK178.out 1).trans rfl; have hcz20_2 : w18.cell? ⟨gb178, 2, none⟩ = some (.int .u64 a0_2) := (blk_cell BK178.out 2).trans rfl; have hcz20_3 : w18.cell? ⟨gb178, 3, none⟩ = some (.int .i64 a0_3) := (blk_cell BK178.out 3).trans rfl; have hcz20_4 : w18.cell? ⟨gb178, 4, none⟩ = some (.int .i64 a0_4) := (blk_cell BK178.out 4).trans rfl; have hfz20_0 := blk_frozen BK178.out 0; have hfz20_1 := blk_frozen BK178.out 1; have hfz20_2 := blk_frozen BK178.out 2; have hfz20_3 := blk_frozen BK178.out 3; have hfz20_4 := blk_frozen BK178.out 4; have hcz21_0 : w18.cell? ⟨gb179, 0, none⟩ = some (.slice A1_0 l1_0.length c1_0) := (blk_cell BK179.out 0).trans rfl; have hcz21_1 : w18.cell? ⟨gb179, 1, none⟩ = some (.int .u64 a1_1) := (blk_cell BK179.out 1).trans rfl; have hcz21_2 : w18.cell? ⟨gb179, 2, none⟩ = some (.int .u64 a1_2) := (blk_cell BK179.out 2).trans rfl; have hcz21_3 : w18.cell? ⟨gb179, 3, none⟩ = some (.int .i64 a1_3) := (blk_cell BK179.out 3).trans rfl; have hcz21_4 : w18.cell? ⟨gb179, 4, none⟩ = some (.int .i64 a1_4) := (blk_cell BK179.out 4).trans rfl; have hfz21_0 := blk_frozen BK179.out 0; have hfz21_1 := blk_frozen BK179.out 1; have hfz21_2 := blk_frozen BK179.out 2; have hfz21_3 := blk_frozen BK179.out 3; have hfz21_4 := blk_frozen BK179.out 4) | ((with_reducible refine gate_callee (f := 9) rfl ?_); refine goesL_ (some 9) rfl rfl Tryd.func9 (by kernel_rfl) rfl #[.slice A0_0 l0_0.length c0_0, .slice A1_0 l1_0.length c1_0] rfl aV ?_; (with_reducible refine (spec_SameNodes.calls k _ _ l0_0 _ _ l1_0 true _ ?side1 ?side2 ?side3 ?side4 A3.out).mono ?_); (case side1 => repeat (first | exact (Kd.C_below HR0_0.out HB.out) | (with_reducible refine Kd.C_alloc ?_ _) | (with_reducible refine Kd.C_drewN ?_ _) | (with_reducible refine Kd.C_drew ?_))); (case side2 => exact HC0_0.out); (case side3 => repeat (first | exact (Kd.C_below HR1_0.out HB.out) | (with_reducible refine Kd.C_alloc ?_ _) | (with_reducible refine Kd.C_drewN ?_ _) | (with_reducible refine Kd.C_drew ?_))); (case side4 => exact HC1_0.out); rintro e w' ⟨rfl, ⟨nd, rfl⟩⟩; refine ⟨_, rfl, ?_⟩))
   go_ret
   exact ⟨by first | rfl | (simp [errW_none, errW_some] <;> rfl) | (simp [*, errW_none, errW_some] <;> rfl), bB⟩
 ·replace c4 := Bool.eq_false_iff.mpr c4
  subst c4
  have H1 : (some false) = some r := by rw [if_neg (show ¬ (false = true) by decide)] at H; exact H
  clear H
  have H := H1
  clear H1
  obtain rfl := Option.some.inj H
  go_enter Tryd.func15, Tryd.ntmps15
  go_wp2_with (first | ((with_reducible refine gate_dst (N := 2) rfl ?_); refine box_event ?hg (N := 2) ?hd (cs := #[.slice A0_0 l0_0.length c0_0, .int .u64 a0_1, .int .u64 a0_2, .int .i64 a0_3, .int .i64 a0_4]) (t := 39) ?hr ?_; (case hd => rfl); (case hg => rfl); (case hr => first | (go_simp; done) | (go_simp; rfl)); intro gb178 hg w22 hbox hb; have n0_ := Aside0.mk (below_step bB hb); have n1_ := Aside0.mk (hbox); have n2_ := Aside0.mk ((by rw [hg]; exact (below_size bB) : w.heap.size ≤ gb178)); have n3_ := Aside0.mk ((by rw [hg]; exact (below_size bB) : w.heap.size ≤ gb178)); clear HB; have HB := n0_; have BK178 := n1_; have GW178 := n2_; have GE178 := n3_; clear n0_ n1_ n2_ n3_; clear hb hbox hg) | ((with_reducible refine gate_dst (N := 3) rfl ?_); refine box_event ?hg (N := 3) ?hd (cs := #[.slice A1_0 l1_0.length c1_0, .int .u64 a1_1, .int .u64 a1_2, .int .i64 a1_3, .int .i64 a1_4]) (t := 39) ?hr ?_; (case hd => rfl); (case hg => rfl); (case hr => first | (go_simp; done) | (go_simp; rfl)); intro gb179 hg w23 hbox hb; have n0_ := Aside0.mk (blk_below (g := gb178) (o := .cells #[.slice A0_0 l0_0.length c0_0, .int .u64 a0_1, .int .u64 a0_2, .int .i64 a0_3, .int .i64 a0_4] 39 (0, 0)) (kB BK178.out) hb); have n1_ := Aside0.mk (below_step bB hb); have n2_ := Aside0.mk (hbox); have n3_ := Aside0.mk ((by rw [hg]; exact (below_size bB) : w.heap.size ≤ gb179)); have n4_ := Aside0.mk ((by rw [hg]; exact (below_size bB) : w.heap.size ≤ gb179)); have n5_ := Aside0.mk ((by rw [hg]; exact Nat.ne_of_lt (blk_lt (g := gb178) (o := .cells #[.slice A0_0 l0_0.length c0_0, .int .u64 a0_1, .int .u64 a0_2, .int .i64 a0_3, .int .i64 a0_4] 39 (0, 0)) (kB BK178.out)) : gb178 ≠ gb179)); have n6_ := Aside0.mk ((by rw [hg]; exact Nat.ne_of_gt (blk_lt (g := gb178) (o := .cells #[.slice A0_0 l0_0.length c0_0, .int .u64 a0_1, .int .u64 a0_2, .int .i64 a0_3, .int .i64 a0_4] 39 (0, 0)) (kB BK178.out)) : gb179 ≠ gb178)); clear BK178; clear HB; have BK178 := n0_; have HB := n1_; have BK179 := n2_; have GW179 := n3_; have GE179 := n4_; have NB178_179 := n5_; have NB179_178 := n6_; clear n0_ n1_ n2_ n3_ n4_ n5_ n6_; clear hb hbox hg; have hnb24 := NB178_179.out; have hnc24 := NB179_178.out; have hcz25_0 : w23.cell? ⟨gb178, 0, none⟩ = some (.slice A0_0 l0_0.length c0_0) := (blk_cell BK178.out 0).trans rfl; have hcz25_1 : w23.cell? ⟨gb178, 1, none⟩ = some (.int .u64 a0_1) := (blk_cell BK178.out 1).trans rfl; have hcz25_2 : w23.cell? ⟨gb178, 2, none⟩ = some (.int .u64 a0_2) := (blk_cell BK178.out 2).trans rfl; have hcz25_3 : w23.cell? ⟨gb178, 3, none⟩ = some (.int .i64 a0_3) := (blk_cell BK178.out 3).trans rfl; have hcz25_4 : w23.cell? ⟨gb178, 4, none⟩ = some (.int .i64 a0_4) := (blk_cell BK178.out 4).trans rfl; have hfz25_0 := blk_frozen BK178.out 0; have hfz25_1 := blk_frozen BK178.out 1; have hfz25_2 := blk_frozen BK178.out 2; have hfz25_3 := blk_frozen BK178.out 3; have hfz25_4 := blk_frozen BK178.out 4; have hcz26_0 : w23.cell? ⟨gb179, 0, none⟩ = some (.slice A1_0 l1_0.length c1_0) := (blk_cell BK179.out 0).trans rfl; have hcz26_1 : w23.cell? ⟨gb179, 1, none⟩ = some (.int .u64 a1_1) := (blk_cell BK179.out 1).trans rfl; have hcz26_2 : w23.cell? ⟨gb179, 2, none⟩ = some (.int .u64 a1_2) := (blk_cell BK179.out 2).trans rfl; have hcz26_3 : w23.cell? ⟨gb179, 3, none⟩ = some (.int .i64 a1_3) := (blk_cell BK179.out 3).trans rfl; have hcz26_4 : w23.cell? ⟨gb179, 4, none⟩ = some (.int .i64 a1_4) := (blk_cell BK179.out 4).trans rfl; have hfz26_0 := blk_frozen BK179.out 0; have hfz26_1 := blk_frozen BK179.out 1; have hfz26_2 := blk_frozen BK179.out 2; have hfz26_3 := blk_frozen BK179.out 3; have hfz26_4 := blk_frozen BK179.out 4) | ((with_reducible refine gate_callee (f := 9) rfl ?_); refine goesL_ (some 9) rfl rfl Tryd.func9 (by kernel_rfl) rfl #[.slice A0_0 l0_0.length c0_0, .slice A1_0 l1_0.length c1_0] rfl aV ?_; (with_reducible refine (spec_SameNodes.calls k _ _ l0_0 _ _ l1_0 false _ ?side1 ?side2 ?side3 ?side4 A3.out).mono ?_); (case side1 => repeat (first | exact (Kd.C_below HR0_0.out HB.out) | (with_reducible refine Kd.C_alloc ?_ _) | (with_reducible refine Kd.C_drewN ?_ _) | (with_reducible refine Kd.C_drew ?_))); (case side2 => exact HC0_0.out); (case side3 => repeat (first | exact (Kd.C_below HR1_0.out HB.out) | (with_reducible refine Kd.C_alloc ?_ _) | (with_reducible refine Kd.C_drewN ?_ _) | (with_reducible refine Kd.C_drew ?_))); (case side4 => exact HC1_0.out); rintro e w' ⟨rfl, ⟨nd, rfl⟩⟩; refine ⟨_, rfl, ?_⟩))
  go_ret
  exact ⟨by first | rfl | (simp [errW_none, errW_some] <;> rfl) | (simp [*, errW_none, errW_some] <;> rfl), bB⟩


/-! ### impl_RangeSize: function 16 -/
def impl_RangeSize.f (a0 : Int) (a1 : Int) : Option (Int) := (compact_RangeSize.f a0 a1).bind fun t181 => (some t181)
set_option maxHeartbeats 8000000 in
set_option maxRecDepth 100000 in
theorem impl_RangeSize.calls (a0 : Int) (a1 : Int) (r : Int) (w : World) (h : impl_RangeSize.f a0 a1 = some r) :
  Calls Tryd.prog 16 #[.int .u64 a0, .int .u64 a1] w fun e w' => e = .returned (.int .i64 r) ∧ Drawn0 w w' := by
 have H : ((compact_RangeSize.f a0 a1).bind fun t181 => (some t181)) = some r := h
 clear h
 replace H := Option.bind_eq_some_iff.mp H
 obtain ⟨t181, A30, H⟩ := H
 replace H : (some t181) = some r := H
 have A3 := Aside0.mk A30
 clear A30
 obtain rfl := Option.some.inj H
 go_enter Tryd.func16, Tryd.ntmps16
 go_wp2_with (first | ((with_reducible refine gate_callee (f := 30) rfl ?_); refine goesL_ (some 7) rfl rfl Tryd.func30 (by kernel_rfl) rfl #[.int .u64 a0, .int .u64 a1] rfl aV ?_; (with_reducible refine (compact_RangeSize.calls a0 a1 t181 _ A3.out).mono ?_); rintro e w' ⟨rfl, ⟨nd, rfl⟩⟩; refine ⟨_, rfl, ?_⟩))
 go_ret
 exact ⟨by first | rfl | (simp; done) | (simp [*]; done), by repeat (first | exact Drawn0.refl _ | apply Drawn0.step)⟩


/-! ### spec_Nodes: function 17 -/
mutual
def spec_Nodes.l0 : Nat → List (S28) → Int → Int → Option ((List (S28)))
 | 0, _, _, _ => none
 | k + 1, x3, x183000, x183001 => if x183000 < x183001 then (spec_Nodes.l1 k x3 0 x183000 x183001) else (some x3)
def spec_Nodes.l1 : Nat → List (S28) → Int → Int → Int → Option ((List (S28)))
 | 0, _, _, _, _ => none
 | k + 1, x3, x4, x183000, x183001 => if x4 < 63 then (if 0 ≤ x4 then (if (Go.bits .and .u64 (shr .u64 x183000 x4) 1) = 0 then (if 0 ≤ (IntKind.u64.wrap (x4 + 1)) then (if (shl .u64 1 (IntKind.u64.wrap (x4 + 1))) ≤ (IntKind.u64.wrap (x183001 - x183000)) then (spec_Nodes.l1 k x3 (IntKind.u64.wrap (x4 + 1)) x183000 x183001) else (if x3.length < 8796093022208 then (spec_Nodes.l0 k (x3 ++ [(⟨x4, shr .u64 x183000 x4⟩ : S28)]) (IntKind.u64.wrap (x183000 + (shl .u64 1 x4))) x183001) else (none))) else (none)) else (if x3.length < 8796093022208 then (spec_Nodes.l0 k (x3 ++ [(⟨x4, shr .u64 x183000 x4⟩ : S28)]) (IntKind.u64.wrap (x183000 + (shl .u64 1 x4))) x183001) else (none))) else (none)) else (if 0 ≤ x4 then (if x3.length < 8796093022208 then (spec_Nodes.l0 k (x3 ++ [(⟨x4, shr .u64 x183000 x4⟩ : S28)]) (IntKind.u64.wrap (x183000 + (shl .u64 1 x4))) x183001) else (none)) else (none))
end
def spec_Nodes.f (k : Nat) (a0_0 : Int) (a0_1 : Int) : Option ((List (S28))) := spec_Nodes.l0 k ([] : List (S28)) a0_0 a0_1
theorem spec_Nodes.mono_l : ∀ k, (∀ y0 y1 y2, LeO (spec_Nodes.l0 k y0 y1 y2) (spec_Nodes.l0 (k + 1) y0 y1 y2)) ∧ (∀ y0 y1 y2 y3, LeO (spec_Nodes.l1 k y0 y1 y2 y3) (spec_Nodes.l1 (k + 1) y0 y1 y2 y3))
 | 0 => ⟨fun _ _ _ r h => by simp [spec_Nodes.l0] at h, fun _ _ _ _ r h => by simp [spec_Nodes.l1] at h⟩
 | k + 1 => by
  obtain ⟨ih0, ih1⟩ := spec_Nodes.mono_l k
  refine ⟨?_, ?_⟩
  ·intro y0 y1 y2
   unfold spec_Nodes.l0
   repeat' first
   | (with_reducible exact ih0 _ _ _)
   | (with_reducible exact ih1 _ _ _ _)
   | (with_reducible exact LeO.refl _)
   | (with_reducible exact LeO.none _)
   | (with_reducible refine LeO.ite ?_ ?_)
   | (with_reducible refine LeO.bind ?_ (fun _ => ?_))
   | exact ih0 _ _ _
   | exact ih1 _ _ _ _
   | exact LeO.none _
   | refine LeO.ite ?_ ?_
   | refine LeO.bind ?_ (fun _ => ?_)
  ·intro y0 y1 y2 y3
   unfold spec_Nodes.l1
   repeat' first
   | (with_reducible exact ih0 _ _ _)
   | (with_reducible exact ih1 _ _ _ _)
   | (with_reducible exact LeO.refl _)
   | (with_reducible exact LeO.none _)
   | (with_reducible refine LeO.ite ?_ ?_)
   | (with_reducible refine LeO.bind ?_ (fun _ => ?_))
   | exact ih0 _ _ _
   | exact ih1 _ _ _ _
   | exact LeO.none _
   | refine LeO.ite ?_ ?_
   | refine LeO.bind ?_ (fun _ => ?_)
theorem spec_Nodes.mono : ∀ a0 a1 k, LeO (spec_Nodes.f k a0 a1) (spec_Nodes.f (k + 1) a0 a1) := by
 intro a0 a1 k
 obtain ⟨ih0, ih1⟩ := spec_Nodes.mono_l k
 unfold spec_Nodes.f
 repeat' first
   | (with_reducible exact ih0 _ _ _)
   | (with_reducible exact ih1 _ _ _ _)
   | (with_reducible exact LeO.refl _)
   | (with_reducible exact LeO.none _)
   | (with_reducible refine LeO.ite ?_ ?_)
   | (with_reducible refine LeO.bind ?_ (fun _ => ?_))
   | exact ih0 _ _ _
   | exact ih1 _ _ _ _
   | exact LeO.none _
   | refine LeO.ite ?_ ?_
   | refine LeO.bind ?_ (fun _ => ?_)
set_option maxHeartbeats 8000000 in
set_option maxRecDepth 100000 in
theorem spec_Nodes.calls (k : Nat) (a0_0 : Int) (a0_1 : Int) (r : List (S28)) (w : World) (h : spec_Nodes.f k a0_0 a0_1 = some r) :
  Calls Tryd.prog 17 #[.agg #[.int .u64 a0_0, .int .u64 a0_1]] w fun e w' => ∃ v0_ : Value, e = .returned (v0_) ∧ Kd.R k28 28 w' w.heap.size (fun _ => True) v0_ r ∧ Below w.heap.size w w' := by
 have hu45 := Tryd.underlying45
 have hu28 := Tryd.underlying28
 have HB := Aside0.mk (Below.refl w.heap.size w)
 have H : (spec_Nodes.l0 k ([] : List (S28)) a0_0 a0_1) = some r := h
 clear h
 have H' := Aside0.mk H
 clear H
 go_enter Tryd.func17, Tryd.ntmps17
 go_wp2_with (first | ((with_reducible refine gate_dst (N := 1) rfl ?_); refine box_event ?hg (N := 1) ?hd (cs := #[.int .u64 a0_0, .int .u64 a0_1]) (t := 45) ?hr ?_; (case hd => rfl); (case hg => rfl); (case hr => first | (go_simp; done) | (go_simp; rfl)); intro gb182 hg w2 hbox hb; have n0_ := Aside0.mk (below_step bB hb); have n1_ := Aside0.mk (hbox); have n2_ := Aside0.mk ((by rw [hg]; exact (below_size bB) : w.heap.size ≤ gb182)); have n3_ := Aside0.mk ((by rw [hg]; exact (below_size bB) : w.heap.size ≤ gb182)); clear HB; have HB := n0_; have BK182 := n1_; have GW182 := n2_; have GE182 := n3_; clear n0_ n1_ n2_ n3_; clear hb hbox hg))
 go_loopg [3] k (fun kq v3 w' => ∃ (x3_1 : List (S28)) (x183000_1 : Int), Aside0 (spec_Nodes.l0 kq x3_1 x183000_1 a0_1 = some r) ∧ Aside0 (kq ≤ k) ∧ Aside0 (Kd.R k28 28 w' w.heap.size (fun _ => True) v3 x3_1) ∧ Aside0 (w'.heap[gb182]? = some (.cells #[.int .u64 x183000_1, .int .u64 a0_1] 45 (0, 0))) ∧ Aside0 (Below w.heap.size w w'))
 case atStart => exact ⟨(([] : List (S28))), (a0_0), H', ⟨Nat.le_refl _⟩, ⟨by first | exact Kd.R_nil _ _ _ _ _ | exact Kd.N_nil _ _ _ _ _ | exact Kd.V_nil _ _ _ _ _ | exact Kd.Q_nil _ _ _ _ _ | exact Kd.S_nil _ _ _ _ _⟩, ⟨by (with_reducible repeat (first | refine blk_drewN ?_ _ | refine blk_drew ?_ | refine blk_alloc ?_ _)); exact BK182.out⟩, ⟨bB⟩⟩
 case round =>
  clear H'
  try clear c1
  try clear p2
  obtain ⟨x3_1, x183000_1, HA, HK1, HO_3, BK182, HB⟩ := hrel
  cases gk with
  | zero => exact absurd HA.out (by simp [spec_Nodes.l0])
  | succ k1 =>
   have H := HA.out
   clear HA
   simp only [spec_Nodes.l0] at H
   by_cases c3 : x183000_1 < a0_1
   ·rw [if_pos c3] at H
    have c3b0 : decide (x183000_1 < a0_1) = true := decide_eq_true c3
    clear c3
    have H' := Aside0.mk H
    clear H
    have hcz4_0 : wr.cell? ⟨gb182, 0, none⟩ = some (.int .u64 x183000_1) := (blk_cell BK182.out 0).trans rfl
    have hcz4_1 : wr.cell? ⟨gb182, 1, none⟩ = some (.int .u64 a0_1) := (blk_cell BK182.out 1).trans rfl
    have hfz4_0 := blk_frozen BK182.out 0
    have hfz4_1 := blk_frozen BK182.out 1
    go_wp2
    go_loopg [4] k1 (fun kq v4 w' => ∃ (x4_2 : Int), v4 = .int .u64 x4_2 ∧ Aside0 (spec_Nodes.l1 kq x3_1 x4_2 x183000_1 a0_1 = some r) ∧ Aside0 (kq ≤ k1) ∧ Aside0 (Kd.R k28 28 w' w.heap.size (fun _ => True) u3 x3_1) ∧ Aside0 (w'.heap[gb182]? = some (.cells #[.int .u64 x183000_1, .int .u64 a0_1] 45 (0, 0))) ∧ Aside0 (Below w.heap.size w w'))
    case atStart => exact ⟨(0), (by first | rfl | (simp; done) | (simp [*]; done)), H', ⟨Nat.le_refl _⟩, ⟨kR HO_3.out⟩, ⟨by (with_reducible repeat (first | refine blk_drewN ?_ _ | refine blk_drew ?_ | refine blk_alloc ?_ _)); exact BK182.out⟩, ⟨bB⟩⟩
    case round =>
     clear H'
     try clear c1
     try clear p2
     try clear c3
     try clear c3b0
     try clear hcz4_0
     try clear hcz4_1
     try clear hfz4_0
     try clear hfz4_1
     try clear p2
     obtain ⟨x4_2, rfl, HA, HK2, HO_3, BK182, HB⟩ := hrel
     cases gk with
     | zero => exact absurd HA.out (by simp [spec_Nodes.l1])
     | succ k2 =>
      have H := HA.out
      clear HA
      simp only [spec_Nodes.l1] at H
      by_cases c5 : x4_2 < 63
      ·rw [if_pos c5] at H
       have c5b0 : decide (x4_2 < 63) = true := decide_eq_true c5
       clear c5
       by_cases c6 : 0 ≤ x4_2
       ·rw [if_pos c6] at H
        have c6b0 := eq_true c6
        have c6b1 : decide (0 ≤ x4_2) = true := decide_eq_true c6
        clear c6
        obtain ⟨ji7, hji7⟩ : ∃ j_ : Int, (shr .u64 x183000_1 x4_2) = j_ := ⟨_, rfl⟩
        replace H : (if (Go.bits .and .u64 (ji7) 1) = 0 then (if 0 ≤ (IntKind.u64.wrap (x4_2 + 1)) then (if (shl .u64 1 (IntKind.u64.wrap (x4_2 + 1))) ≤ (IntKind.u64.wrap (a0_1 - x183000_1)) then (spec_Nodes.l1 k2 x3_1 (IntKind.u64.wrap (x4_2 + 1)) x183000_1 a0_1) else (if x3_1.length < 8796093022208 then (spec_Nodes.l0 k2 (x3_1 ++ [(⟨x4_2, ji7⟩ : S28)]) (IntKind.u64.wrap (x183000_1 + (shl .u64 1 x4_2))) a0_1) else (none))) else (none)) else (if x3_1.length < 8796093022208 then (spec_Nodes.l0 k2 (x3_1 ++ [(⟨x4_2, ji7⟩ : S28)]) (IntKind.u64.wrap (x183000_1 + (shl .u64 1 x4_2))) a0_1) else (none))) = some r := by first | (rw [hji7] at H; exact H) | (simp only [hji7] at H ⊢; exact H)
        have hji7_ : (x183000_1 / 2 ^ min x4_2.toNat 64) = ji7 := hji7
        have hji7z : x4_2 ≤ 64 → (x183000_1 / 2 ^ x4_2.toNat) = ji7 := shr_small hji7
        by_cases c8 : (Go.bits .and .u64 (ji7) 1) = 0
        ·rw [if_pos c8] at H
         have c8b0 : ((Go.bits .and .u64 (ji7) 1) == 0) = true := beq_iff_eq.mpr c8
         have c8b1 : ((Go.bits .and .u64 (ji7) 1) != 0) = false := bne_eq_false_iff_eq.mpr c8
         clear c8
         obtain ⟨ji9, hji9⟩ : ∃ j_ : Int, (IntKind.u64.wrap (x4_2 + 1)) = j_ := ⟨_, rfl⟩
         replace H : (if 0 ≤ (ji9) then (if (shl .u64 1 (ji9)) ≤ (IntKind.u64.wrap (a0_1 - x183000_1)) then (spec_Nodes.l1 k2 x3_1 ji9 x183000_1 a0_1) else (if x3_1.length < 8796093022208 then (spec_Nodes.l0 k2 (x3_1 ++ [(⟨x4_2, ji7⟩ : S28)]) (IntKind.u64.wrap (x183000_1 + (shl .u64 1 x4_2))) a0_1) else (none))) else (none)) = some r := by first | (rw [hji9] at H; exact H) | (simp only [hji9] at H ⊢; exact H)
         by_cases c10 : 0 ≤ (ji9)
         ·rw [if_pos c10] at H
          have c10b0 := eq_true c10
          have c10b1 : decide (0 ≤ (ji9)) = true := decide_eq_true c10
          clear c10
          obtain ⟨ji11, hji11⟩ : ∃ j_ : Int, (shl .u64 1 (ji9)) = j_ := ⟨_, rfl⟩
          replace H : (if (ji11) ≤ (IntKind.u64.wrap (a0_1 - x183000_1)) then (spec_Nodes.l1 k2 x3_1 ji9 x183000_1 a0_1) else (if x3_1.length < 8796093022208 then (spec_Nodes.l0 k2 (x3_1 ++ [(⟨x4_2, ji7⟩ : S28)]) (IntKind.u64.wrap (x183000_1 + (shl .u64 1 x4_2))) a0_1) else (none))) = some r := by first | (rw [hji11] at H; exact H) | (simp only [hji11] at H ⊢; exact H)
          have hji11_ : (IntKind.u64.wrap (1 * 2 ^ min (ji9).toNat 64)) = ji11 := hji11
          have hji11z : (ji9) ≤ 64 → (IntKind.u64.wrap (1 * 2 ^ (ji9).toNat)) = ji11 := shl_small hji11
          have hji11u : (IntKind.u64.wrap (2 ^ min (ji9).toNat 64)) = ji11 := by have h_ := hji11_; rw [Int.one_mul] at h_; exact h_
          have hji11v : (ji9) ≤ 64 → (IntKind.u64.wrap (2 ^ (ji9).toNat)) = ji11 := fun hle_ => by have h_ := hji11z hle_; rw [Int.one_mul] at h_; exact h_
          by_cases c12 : (ji11) ≤ (IntKind.u64.wrap (a0_1 - x183000_1))
          ·rw [if_pos c12] at H
           have c12b0 : decide ((ji11) ≤ (IntKind.u64.wrap (a0_1 - x183000_1))) = true := decide_eq_true c12
           clear c12
           have H' := Aside0.mk H
           clear H
           have hcz13_0 : wr.cell? ⟨gb182, 0, none⟩ = some (.int .u64 x183000_1) := (blk_cell BK182.out 0).trans rfl
           have hcz13_1 : wr.cell? ⟨gb182, 1, none⟩ = some (.int .u64 a0_1) := (blk_cell BK182.out 1).trans rfl
           have hfz13_0 := blk_frozen BK182.out 0
           have hfz13_1 := blk_frozen BK182.out 1
           go_wp2
           go_roundg k2
           case measure => have := HK1.out; have := HK2.out; omega
           case rel => exact ⟨(ji9), (by first | rfl | (simp; done) | (simp only [← hji9] <;> (first | rfl | simp)) | (simp [*]; done)), H', ⟨by have := HK1.out; have := HK2.out; omega⟩, ⟨kR HO_3.out⟩, ⟨by (with_reducible repeat (first | refine blk_drewN ?_ _ | refine blk_drew ?_ | refine blk_alloc ?_ _)); exact BK182.out⟩, ⟨bB⟩⟩
          ·rw [if_neg c12] at H
           have c12b0 : decide ((ji11) ≤ (IntKind.u64.wrap (a0_1 - x183000_1))) = false := decide_eq_false c12
           clear c12
           have c14b0 := eq_true (dA : 0 ≤ x4_2)
           by_cases c15 : x3_1.length < 8796093022208
           ·rw [if_pos c15] at H
            have LMc15 := Aside0.mk c15
            clear c15
            obtain ⟨y183, hy183⟩ : ∃ y_ : List (S28), y_ = (x3_1 ++ [(⟨x4_2, ji7⟩ : S28)]) := ⟨_, rfl⟩
            replace H : (spec_Nodes.l0 k2 y183 (IntKind.u64.wrap (x183000_1 + (shl .u64 1 x4_2))) a0_1) = some r := by first | (rw [hy183]; with_reducible exact H) | (have H2_ := (Option.bind_some _ _).symm.trans H; rw [hy183]; with_reducible exact H2_) | (have H2_ := (Option.bind_some _ _).symm.trans H; with_reducible exact H2_) | with_reducible exact H | (rw [hy183]; exact H) | exact H
            have Ny183 := Aside0.mk hy183
            clear hy183
            have c16b0 := eq_true (dA : 0 ≤ x4_2)
            obtain ⟨ji17, hji17⟩ : ∃ j_ : Int, (shl .u64 1 x4_2) = j_ := ⟨_, rfl⟩
            replace H : (spec_Nodes.l0 k2 y183 (IntKind.u64.wrap (x183000_1 + (ji17))) a0_1) = some r := by first | (rw [hji17] at H; exact H) | (simp only [hji17] at H ⊢; exact H)
            have hji17_ : (IntKind.u64.wrap (1 * 2 ^ min x4_2.toNat 64)) = ji17 := hji17
            have hji17z : x4_2 ≤ 64 → (IntKind.u64.wrap (1 * 2 ^ x4_2.toNat)) = ji17 := shl_small hji17
            have hji17u : (IntKind.u64.wrap (2 ^ min x4_2.toNat 64)) = ji17 := by have h_ := hji17_; rw [Int.one_mul] at h_; exact h_
            have hji17v : x4_2 ≤ 64 → (IntKind.u64.wrap (2 ^ x4_2.toNat)) = ji17 := fun hle_ => by have h_ := hji17z hle_; rw [Int.one_mul] at h_; exact h_
            have H' := Aside0.mk H
            clear H
            have hcz18_0 : wr.cell? ⟨gb182, 0, none⟩ = some (.int .u64 x183000_1) := (blk_cell BK182.out 0).trans rfl
            have hcz18_1 : wr.cell? ⟨gb182, 1, none⟩ = some (.int .u64 a0_1) := (blk_cell BK182.out 1).trans rfl
            have hfz18_0 := blk_frozen BK182.out 0
            have hfz18_1 := blk_frozen BK182.out 1
            go_wp2_with (first | ((with_reducible refine gate_builtin (b := .append) (xs := #[.tmp 33, .tmp 40]) rfl ?_); at_builtin; refine Kd.R_append k28 (w0 := w) w.heap.size rfl (.tmp 33) (.tmp 40) 24 28 (.agg #[(.int .u64 0), (.int .u64 0)]) 16 rfl Tryd.underlying24 info28 rfl (by decide) (by omega) u3 x3_1 (⟨x4_2, ji7⟩ : S28) [.int .u64 x4_2, .int .u64 ji7] (fun _ => True) (fun _ => False) rfl rfl ?aP (fun _ hk => hk.elim) ?aF ?aO ?aB ?aS ?aL ?_; (case aP => exact k28_mkM _ _ _ (⟨x4_2, ji7⟩ : S28)); (case aB => exact bB); (case aF => exact (fun _ _ => trivial)); (case aO => exact (kR HO_3.out)); (case aS => exact (below_size bB)); (case aL => have := LMc15.out; omega); intro v184 w19 ho hb hg hat; rw [← Ny183.out] at ho; have n0_ := Aside0.mk (blk_grown (g := gb182) (o := .cells #[.int .u64 x183000_1, .int .u64 a0_1] 45 (0, 0)) (kB BK182.out) hg (Kd.R_ne HO_3.out BK182.out (by decide))); have n1_ := Aside0.mk (hb); have n2_ := Aside0.mk (ho); clear BK182; clear HB; clear HO_3; have BK182 := n0_; have HB := n1_; have HO185 := n2_; clear n0_ n1_ n2_; clear ho hb hg hat; have hcz20_0 : w19.cell? ⟨gb182, 0, none⟩ = some (.int .u64 x183000_1) := (blk_cell BK182.out 0).trans rfl; have hcz20_1 : w19.cell? ⟨gb182, 1, none⟩ = some (.int .u64 a0_1) := (blk_cell BK182.out 1).trans rfl; have hfz20_0 := blk_frozen BK182.out 0; have hfz20_1 := blk_frozen BK182.out 1))
            go_roundg k2
            case measure => have := HK1.out; have := HK2.out; omega
            case rel => exact ⟨(y183), (IntKind.u64.wrap (x183000_1 + (ji17))), H', ⟨by have := HK1.out; have := HK2.out; omega⟩, ⟨by (with_reducible repeat (first | apply Kd.R_alloc | apply Kd.R_drewN | apply Kd.R_drew)); exact Kd.R_mono (Kd.R_far (p := ⟨gb182, 0, none⟩) (Kd.R_types HO185.out BK182.out (by decide)) (fun _ hk => hk.2) (.int .u64 (IntKind.u64.wrap (x183000_1 + (ji17))))) (fun _ hk => trivial)⟩, ⟨by (with_reducible repeat (first | refine blk_drewN ?_ _ | refine blk_drew ?_ | refine blk_alloc ?_ _)); refine blk_put (cs := #[.int .u64 x183000_1, .int .u64 a0_1]) ?_ 0 _ rfl; (with_reducible repeat (first | refine blk_drewN ?_ _ | refine blk_drew ?_ | refine blk_alloc ?_ _)); exact BK182.out⟩, ⟨bB⟩⟩
           ·rw [if_neg c15] at H
            exact absurd H (by simp)
         ·rw [if_neg c10] at H
          exact absurd H (by simp)
        ·rw [if_neg c8] at H
         have c8b0 : ((Go.bits .and .u64 (ji7) 1) == 0) = false := beq_eq_false_iff_ne.mpr c8
         have c8b1 : ((Go.bits .and .u64 (ji7) 1) != 0) = true := bne_iff_ne.mpr c8
         have c21b0 := eq_true (dA : 0 ≤ x4_2)
         by_cases c22 : x3_1.length < 8796093022208
         ·rw [if_pos c22] at H
          have LMc22 := Aside0.mk c22
          clear c22
          obtain ⟨y186, hy186⟩ : ∃ y_ : List (S28), y_ = (x3_1 ++ [(⟨x4_2, ji7⟩ : S28)]) := ⟨_, rfl⟩
          replace H : (spec_Nodes.l0 k2 y186 (IntKind.u64.wrap (x183000_1 + (shl .u64 1 x4_2))) a0_1) = some r := by first | (rw [hy186]; with_reducible exact H) | (have H2_ := (Option.bind_some _ _).symm.trans H; rw [hy186]; with_reducible exact H2_) | (have H2_ := (Option.bind_some _ _).symm.trans H; with_reducible exact H2_) | with_reducible exact H | (rw [hy186]; exact H) | exact H
          have Ny186 := Aside0.mk hy186
          clear hy186
          have c23b0 := eq_true (dA : 0 ≤ x4_2)
          obtain ⟨ji24, hji24⟩ : ∃ j_ : Int, (shl .u64 1 x4_2) = j_ := ⟨_, rfl⟩
          replace H : (spec_Nodes.l0 k2 y186 (IntKind.u64.wrap (x183000_1 + (ji24))) a0_1) = some r := by first | (rw [hji24] at H; exact H) | (simp only [hji24] at H ⊢; exact H)
          have hji24_ : (IntKind.u64.wrap (1 * 2 ^ min x4_2.toNat 64)) = ji24 := hji24
          have hji24z : x4_2 ≤ 64 → (IntKind.u64.wrap (1 * 2 ^ x4_2.toNat)) = ji24 := shl_small hji24
          have hji24u : (IntKind.u64.wrap (2 ^ min x4_2.toNat 64)) = ji24 := by have h_ := hji24_; rw [Int.one_mul] at h_; exact h_
          have hji24v : x4_2 ≤ 64 → (IntKind.u64.wrap (2 ^ x4_2.toNat)) = ji24 := fun hle_ => by have h_ := hji24z hle_; rw [Int.one_mul] at h_; exact h_
          have H' := Aside0.mk H
          clear H
          have hcz25_0 : wr.cell? ⟨gb182, 0, none⟩ = some (.int .u64 x183000_1) := (blk_cell BK182.out 0).trans rfl
          have hcz25_1 : wr.cell? ⟨gb182, 1, none⟩ = some (.int .u64 a0_1) := (blk_cell BK182.out 1).trans rfl
          have hfz25_0 := blk_frozen BK182.out 0
          have hfz25_1 := blk_frozen BK182.out 1
          go_wp2_with (first | ((with_reducible refine gate_builtin (b := .append) (xs := #[.tmp 33, .tmp 40]) rfl ?_); at_builtin; refine Kd.R_append k28 (w0 := w) w.heap.size rfl (.tmp 33) (.tmp 40) 24 28 (.agg #[(.int .u64 0), (.int .u64 0)]) 16 rfl Tryd.underlying24 info28 rfl (by decide) (by omega) u3 x3_1 (⟨x4_2, ji7⟩ : S28) [.int .u64 x4_2, .int .u64 ji7] (fun _ => True) (fun _ => False) rfl rfl ?aP (fun _ hk => hk.elim) ?aF ?aO ?aB ?aS ?aL ?_; (case aP => exact k28_mkM _ _ _ (⟨x4_2, ji7⟩ : S28)); (case aB => exact bB); (case aF => exact (fun _ _ => trivial)); (case aO => exact (kR HO_3.out)); (case aS => exact (below_size bB)); (case aL => have := LMc22.out; omega); intro v187 w26 ho hb hg hat; rw [← Ny186.out] at ho; have n0_ := Aside0.mk (blk_grown (g := gb182) (o := .cells #[.int .u64 x183000_1, .int .u64 a0_1] 45 (0, 0)) (kB BK182.out) hg (Kd.R_ne HO_3.out BK182.out (by decide))); have n1_ := Aside0.mk (hb); have n2_ := Aside0.mk (ho); clear BK182; clear HB; clear HO_3; have BK182 := n0_; have HB := n1_; have HO188 := n2_; clear n0_ n1_ n2_; clear ho hb hg hat; have hcz27_0 : w26.cell? ⟨gb182, 0, none⟩ = some (.int .u64 x183000_1) := (blk_cell BK182.out 0).trans rfl; have hcz27_1 : w26.cell? ⟨gb182, 1, none⟩ = some (.int .u64 a0_1) := (blk_cell BK182.out 1).trans rfl; have hfz27_0 := blk_frozen BK182.out 0; have hfz27_1 := blk_frozen BK182.out 1))
          go_roundg k2
          case measure => have := HK1.out; have := HK2.out; omega
          case rel => exact ⟨(y186), (IntKind.u64.wrap (x183000_1 + (ji24))), H', ⟨by have := HK1.out; have := HK2.out; omega⟩, ⟨by (with_reducible repeat (first | apply Kd.R_alloc | apply Kd.R_drewN | apply Kd.R_drew)); exact Kd.R_mono (Kd.R_far (p := ⟨gb182, 0, none⟩) (Kd.R_types HO188.out BK182.out (by decide)) (fun _ hk => hk.2) (.int .u64 (IntKind.u64.wrap (x183000_1 + (ji24))))) (fun _ hk => trivial)⟩, ⟨by (with_reducible repeat (first | refine blk_drewN ?_ _ | refine blk_drew ?_ | refine blk_alloc ?_ _)); refine blk_put (cs := #[.int .u64 x183000_1, .int .u64 a0_1]) ?_ 0 _ rfl; (with_reducible repeat (first | refine blk_drewN ?_ _ | refine blk_drew ?_ | refine blk_alloc ?_ _)); exact BK182.out⟩, ⟨bB⟩⟩
         ·rw [if_neg c22] at H
          exact absurd H (by simp)
       ·rw [if_neg c6] at H
        exact absurd H (by simp)
      ·rw [if_neg c5] at H
       have c5b0 : decide (x4_2 < 63) = false := decide_eq_false c5
       clear c5
       by_cases c28 : 0 ≤ x4_2
       ·rw [if_pos c28] at H
        have c28b0 := eq_true c28
        have c28b1 : decide (0 ≤ x4_2) = true := decide_eq_true c28
        clear c28
        obtain ⟨ji29, hji29⟩ : ∃ j_ : Int, (shr .u64 x183000_1 x4_2) = j_ := ⟨_, rfl⟩
        replace H : (if x3_1.length < 8796093022208 then (spec_Nodes.l0 k2 (x3_1 ++ [(⟨x4_2, ji29⟩ : S28)]) (IntKind.u64.wrap (x183000_1 + (shl .u64 1 x4_2))) a0_1) else (none)) = some r := by first | (rw [hji29] at H; exact H) | (simp only [hji29] at H ⊢; exact H)
        have hji29_ : (x183000_1 / 2 ^ min x4_2.toNat 64) = ji29 := hji29
        have hji29z : x4_2 ≤ 64 → (x183000_1 / 2 ^ x4_2.toNat) = ji29 := shr_small hji29
        by_cases c30 : x3_1.length < 8796093022208
        ·rw [if_pos c30] at H
         have LMc30 := Aside0.mk c30
         clear c30
         obtain ⟨y189, hy189⟩ : ∃ y_ : List (S28), y_ = (x3_1 ++ [(⟨x4_2, ji29⟩ : S28)]) := ⟨_, rfl⟩
         replace H : (spec_Nodes.l0 k2 y189 (IntKind.u64.wrap (x183000_1 + (shl .u64 1 x4_2))) a0_1) = some r := by first | (rw [hy189]; with_reducible exact H) | (have H2_ := (Option.bind_some _ _).symm.trans H; rw [hy189]; with_reducible exact H2_) | (have H2_ := (Option.bind_some _ _).symm.trans H; with_reducible exact H2_) | with_reducible exact H | (rw [hy189]; exact H) | exact H
         have Ny189 := Aside0.mk hy189
         clear hy189
         have c31b0 := eq_true (dA : 0 ≤ x4_2)
         obtain ⟨ji32, hji32⟩ : ∃ j_ : Int, (shl .u64 1 x4_2) = j_ := ⟨_, rfl⟩
         replace H : (spec_Nodes.l0 k2 y189 (IntKind.u64.wrap (x183000_1 + (ji32))) a0_1) = some r := by first | (rw [hji32] at H; exact H) | (simp only [hji32] at H ⊢; exact H)
         have hji32_ : (IntKind.u64.wrap (1 * 2 ^ min x4_2.toNat 64)) = ji32 := hji32
         have hji32z : x4_2 ≤ 64 → (IntKind.u64.wrap (1 * 2 ^ x4_2.toNat)) = ji32 := shl_small hji32
         have hji32u : (IntKind.u64.wrap (2 ^ min x4_2.toNat 64)) = ji32 := by have h_ := hji32_; rw [Int.one_mul] at h_; exact h_
         have hji32v : x4_2 ≤ 64 → (IntKind.u64.wrap (2 ^ x4_2.toNat)) = ji32 := fun hle_ => by have h_ := hji32z hle_; rw [Int.one_mul] at h_; exact h_
         have H' := Aside0.mk H
         clear H
         have hcz33_0 : wr.cell? ⟨gb182, 0, none⟩ = some (.int .u64 x183000_1) := (blk_cell BK182.out 0).trans rfl
         have hcz33_1 : wr.cell? ⟨gb182, 1, none⟩ = some (.int .u64 a0_1) := (blk_cell BK182.out 1).trans rfl
         have hfz33_0 := blk_frozen BK182.out 0
         have hfz33_1 := blk_frozen BK182.out 1
         go_wp2_with (first | ((with_reducible refine gate_builtin (b := .append) (xs := #[.tmp 33, .tmp 40]) rfl ?_); at_builtin; refine Kd.R_append k28 (w0 := w) w.heap.size rfl (.tmp 33) (.tmp 40) 24 28 (.agg #[(.int .u64 0), (.int .u64 0)]) 16 rfl Tryd.underlying24 info28 rfl (by decide) (by omega) u3 x3_1 (⟨x4_2, ji29⟩ : S28) [.int .u64 x4_2, .int .u64 ji29] (fun _ => True) (fun _ => False) rfl rfl ?aP (fun _ hk => hk.elim) ?aF ?aO ?aB ?aS ?aL ?_; (case aP => exact k28_mkM _ _ _ (⟨x4_2, ji29⟩ : S28)); (case aB => exact bB); (case aF => exact (fun _ _ => trivial)); (case aO => exact (kR HO_3.out)); (case aS => exact (below_size bB)); (case aL => have := LMc30.out; omega); intro v190 w34 ho hb hg hat; rw [← Ny189.out] at ho; have n0_ := Aside0.mk (blk_grown (g := gb182) (o := .cells #[.int .u64 x183000_1, .int .u64 a0_1] 45 (0, 0)) (kB BK182.out) hg (Kd.R_ne HO_3.out BK182.out (by decide))); have n1_ := Aside0.mk (hb); have n2_ := Aside0.mk (ho); clear BK182; clear HB; clear HO_3; have BK182 := n0_; have HB := n1_; have HO191 := n2_; clear n0_ n1_ n2_; clear ho hb hg hat; have hcz35_0 : w34.cell? ⟨gb182, 0, none⟩ = some (.int .u64 x183000_1) := (blk_cell BK182.out 0).trans rfl; have hcz35_1 : w34.cell? ⟨gb182, 1, none⟩ = some (.int .u64 a0_1) := (blk_cell BK182.out 1).trans rfl; have hfz35_0 := blk_frozen BK182.out 0; have hfz35_1 := blk_frozen BK182.out 1))
         go_roundg k2
         case measure => have := HK1.out; have := HK2.out; omega
         case rel => exact ⟨(y189), (IntKind.u64.wrap (x183000_1 + (ji32))), H', ⟨by have := HK1.out; have := HK2.out; omega⟩, ⟨by (with_reducible repeat (first | apply Kd.R_alloc | apply Kd.R_drewN | apply Kd.R_drew)); exact Kd.R_mono (Kd.R_far (p := ⟨gb182, 0, none⟩) (Kd.R_types HO191.out BK182.out (by decide)) (fun _ hk => hk.2) (.int .u64 (IntKind.u64.wrap (x183000_1 + (ji32))))) (fun _ hk => trivial)⟩, ⟨by (with_reducible repeat (first | refine blk_drewN ?_ _ | refine blk_drew ?_ | refine blk_alloc ?_ _)); refine blk_put (cs := #[.int .u64 x183000_1, .int .u64 a0_1]) ?_ 0 _ rfl; (with_reducible repeat (first | refine blk_drewN ?_ _ | refine blk_drew ?_ | refine blk_alloc ?_ _)); exact BK182.out⟩, ⟨bB⟩⟩
        ·rw [if_neg c30] at H
         exact absurd H (by simp)
       ·rw [if_neg c28] at H
        exact absurd H (by simp)
   ·rw [if_neg c3] at H
    have c3b0 : decide (x183000_1 < a0_1) = false := decide_eq_false c3
    clear c3
    obtain rfl := Option.some.inj H
    have hcz36_0 : wr.cell? ⟨gb182, 0, none⟩ = some (.int .u64 x183000_1) := (blk_cell BK182.out 0).trans rfl
    have hcz36_1 : wr.cell? ⟨gb182, 1, none⟩ = some (.int .u64 a0_1) := (blk_cell BK182.out 1).trans rfl
    have hfz36_0 := blk_frozen BK182.out 0
    have hfz36_1 := blk_frozen BK182.out 1
    go_wp2
    go_ret
    exact ⟨_, by first | rfl | (simp [errW_none, errW_some] <;> rfl) | (simp [*, errW_none, errW_some] <;> rfl), by (with_reducible repeat (first | apply Kd.R_alloc | apply Kd.R_drewN | apply Kd.R_drew)); exact HO_3.out, bB⟩


/-! ### spec_Leaves: function 31 -/
def spec_Leaves.f (a0_0 : Int) (a0_1 : Int) : Option (Int × Int) := if 0 ≤ a0_0 then (some (shl .u64 a0_1 a0_0, shl .u64 (IntKind.u64.wrap (a0_1 + 1)) a0_0)) else (none)
set_option maxHeartbeats 8000000 in
set_option maxRecDepth 100000 in
theorem spec_Leaves.calls (a0_0 : Int) (a0_1 : Int) (r1 : Int) (r2 : Int) (w : World) (h : spec_Leaves.f a0_0 a0_1 = some (r1, r2)) :
  Calls Tryd.prog 31 #[.agg #[.int .u64 a0_0, .int .u64 a0_1]] w fun e w' => e = .returned (.agg #[.int .u64 r1, .int .u64 r2]) ∧ Below w.heap.size w w' := by
 have hu28 := Tryd.underlying28
 have hu45 := Tryd.underlying45
 have HB := Aside0.mk (Below.refl w.heap.size w)
 have H : (if 0 ≤ a0_0 then (some (shl .u64 a0_1 a0_0, shl .u64 (IntKind.u64.wrap (a0_1 + 1)) a0_0)) else (none)) = some (r1, r2) := h
 clear h
 by_cases c2 : 0 ≤ a0_0
 ·rw [if_pos c2] at H
  have c2b0 := eq_true c2
  have c2b1 : decide (0 ≤ a0_0) = true := decide_eq_true c2
  clear c2
  obtain ⟨ji3, hji3⟩ : ∃ j_ : Int, (shl .u64 a0_1 a0_0) = j_ := ⟨_, rfl⟩
  replace H : (some (ji3, shl .u64 (IntKind.u64.wrap (a0_1 + 1)) a0_0)) = some (r1, r2) := by first | (rw [hji3] at H; exact H) | (simp only [hji3] at H ⊢; exact H)
  have hji3_ : (IntKind.u64.wrap (a0_1 * 2 ^ min a0_0.toNat 64)) = ji3 := hji3
  have hji3z : a0_0 ≤ 64 → (IntKind.u64.wrap (a0_1 * 2 ^ a0_0.toNat)) = ji3 := shl_small hji3
  have c4b0 := eq_true (dA : 0 ≤ a0_0)
  obtain ⟨ji5, hji5⟩ : ∃ j_ : Int, (shl .u64 (IntKind.u64.wrap (a0_1 + 1)) a0_0) = j_ := ⟨_, rfl⟩
  replace H : (some (ji3, ji5)) = some (r1, r2) := by first | (rw [hji5] at H; exact H) | (simp only [hji5] at H ⊢; exact H)
  have hji5_ : (IntKind.u64.wrap ((IntKind.u64.wrap (a0_1 + 1)) * 2 ^ min a0_0.toNat 64)) = ji5 := hji5
  have hji5z : a0_0 ≤ 64 → (IntKind.u64.wrap ((IntKind.u64.wrap (a0_1 + 1)) * 2 ^ a0_0.toNat)) = ji5 := shl_small hji5
  simp only [Option.some.injEq, Prod.mk.injEq] at H
  obtain ⟨rfl, rfl⟩ := H
  go_enter Tryd.func31, Tryd.ntmps31
  go_wp2_with (first | ((with_reducible refine gate_dst (N := 1) rfl ?_); refine box_event ?hg (N := 1) ?hd (cs := #[.int .u64 a0_0, .int .u64 a0_1]) (t := 28) ?hr ?_; (case hd => rfl); (case hg => rfl); (case hr => first | (go_simp; done) | (go_simp; rfl)); intro gb192 hg w6 hbox hb; have n0_ := Aside0.mk (below_step bB hb); have n1_ := Aside0.mk (hbox); have n2_ := Aside0.mk ((by rw [hg]; exact (below_size bB) : w.heap.size ≤ gb192)); have n3_ := Aside0.mk ((by rw [hg]; exact (below_size bB) : w.heap.size ≤ gb192)); clear HB; have HB := n0_; have BK192 := n1_; have GW192 := n2_; have GE192 := n3_; clear n0_ n1_ n2_ n3_; clear hb hbox hg) | ((with_reducible refine gate_dst (N := 2) rfl ?_); refine box_event ?hg (N := 2) ?hd (cs := #[.int .u64 0, .int .u64 0]) (t := 45) ?hr ?_; (case hd => rfl); (case hg => rfl); (case hr => first | (go_simp; done) | (go_simp; rfl)); intro gb193 hg w7 hbox hb; have n0_ := Aside0.mk (blk_below (g := gb192) (o := .cells #[.int .u64 a0_0, .int .u64 a0_1] 28 (0, 0)) (kB BK192.out) hb); have n1_ := Aside0.mk (below_step bB hb); have n2_ := Aside0.mk (hbox); have n3_ := Aside0.mk ((by rw [hg]; exact (below_size bB) : w.heap.size ≤ gb193)); have n4_ := Aside0.mk ((by rw [hg]; exact (below_size bB) : w.heap.size ≤ gb193)); have n5_ := Aside0.mk ((by rw [hg]; exact Nat.ne_of_lt (blk_lt (g := gb192) (o := .cells #[.int .u64 a0_0, .int .u64 a0_1] 28 (0, 0)) (kB BK192.out)) : gb192 ≠ gb193)); have n6_ := Aside0.mk ((by rw [hg]; exact Nat.ne_of_gt (blk_lt (g := gb192) (o := .cells #[.int .u64 a0_0, .int .u64 a0_1] 28 (0, 0)) (kB BK192.out)) : gb193 ≠ gb192)); clear BK192; clear HB; have BK192 := n0_; have HB := n1_; have BK193 := n2_; have GW193 := n3_; have GE193 := n4_; have NB192_193 := n5_; have NB193_192 := n6_; clear n0_ n1_ n2_ n3_ n4_ n5_ n6_; clear hb hbox hg; have hnb8 := NB192_193.out; have hnc8 := NB193_192.out; have hcz9_0 : w7.cell? ⟨gb192, 0, none⟩ = some (.int .u64 a0_0) := (blk_cell BK192.out 0).trans rfl; have hcz9_1 : w7.cell? ⟨gb192, 1, none⟩ = some (.int .u64 a0_1) := (blk_cell BK192.out 1).trans rfl; have hfz9_0 := blk_frozen BK192.out 0; have hfz9_1 := blk_frozen BK192.out 1; have hcz10_0 : w7.cell? ⟨gb193, 0, none⟩ = some (.int .u64 0) := (blk_cell BK193.out 0).trans rfl; have hcz10_1 : w7.cell? ⟨gb193, 1, none⟩ = some (.int .u64 0) := (blk_cell BK193.out 1).trans rfl; have hfz10_0 := blk_frozen BK193.out 0; have hfz10_1 := blk_frozen BK193.out 1))
  refine bodyPost_ret (results_cell_row rfl _ _ gb193 45 #[.int .u64 ji3, .int .u64 ji5] (0, 0) _ rfl (by (with_reducible repeat (first | refine blk_drewN ?_ _ | refine blk_drew ?_ | refine blk_alloc ?_ _)); refine blk_put (cs := #[.int .u64 ji3, .int .u64 0]) ?_ 1 _ rfl; (with_reducible repeat (first | refine blk_drewN ?_ _ | refine blk_drew ?_ | refine blk_alloc ?_ _)); refine blk_put (cs := #[.int .u64 0, .int .u64 0]) ?_ 0 _ rfl; (with_reducible repeat (first | refine blk_drewN ?_ _ | refine blk_drew ?_ | refine blk_alloc ?_ _)); exact BK193.out) Tryd.underlying45 rfl (by kernel_rfl)) rfl ?_
  exact ⟨by first | rfl | (simp [errW_none, errW_some] <;> rfl) | (simp only [← hji3, ← hji5]; first | rfl | (simp [errW_none, errW_some] <;> rfl)) | (simp [*, errW_none, errW_some] <;> rfl), bB⟩
 ·rw [if_neg c2] at H
  exact absurd H (by simp)

end Go.Proofs.YtkkkaegocinkeaaDoor.M

