-- Written by a program of ours (wip/xp) out of the translation; Lean checks it.
import Derived.Test.YtkmdkmlgahfcpaaDoorSq
import Derived.Test.YtkmdkmlgahfcpaaDoorMm1
import Derived.Test.YtkmdkmlgahfcpaaDoorMm2
namespace Go.Proofs.YtkmdkmlgahfcpaaDoor.M
open Go.RowKit Go.Proofs.YtkmdkmlgahfcpaaDoorW.PrintWords Go.Proofs.YtkmdkmlgahfcpaaDoorW.PrintLast Go.Proofs.YtkmdkmlgahfcpaaDoorW.PrintMore
attribute [local go_sem] max2_int min2_int max_two min_two max_three min_three max_four min_four   -- for this text's walks alone
set_option linter.unusedVariables false
set_option linter.unusedSimpArgs false

/-! ### spec_SameRange: function 25 -/
def spec_SameRange.f (k : Nat) (a0_0 : Int) (a0_1 : Int) (l0_2 : List (List Int)) (a1_0 : Int) (a1_1 : Int) (l1_2 : List (List Int)) : Option (Bool) := if a0_0 = a1_0 then (if a0_1 = a1_1 then ((spec_Same.f k l0_2 l1_2).bind fun t227 => (some t227)) else (some false)) else (some false)
theorem spec_SameRange.mono : ∀ a0 a1 a2 a3 a4 a5 k, LeO (spec_SameRange.f k a0 a1 a2 a3 a4 a5) (spec_SameRange.f (k + 1) a0 a1 a2 a3 a4 a5) := by
 intro a0 a1 a2 a3 a4 a5 k
 unfold spec_SameRange.f
 repeat' first
   | (with_reducible exact spec_Same.mono _ _ _)
   | (with_reducible exact LeO.refl _)
   | (with_reducible exact LeO.none _)
   | (with_reducible refine LeO.ite ?_ ?_)
   | (with_reducible refine LeO.bind ?_ (fun _ => ?_))
   | exact spec_Same.mono _ _ _
   | exact LeO.none _
   | refine LeO.ite ?_ ?_
   | refine LeO.bind ?_ (fun _ => ?_)
set_option maxHeartbeats 8000000 in
set_option maxRecDepth 100000 in
theorem spec_SameRange.calls (k : Nat) (a0_0 : Int) (a0_1 : Int) (A0_2 : Option Addr) (c0_2 : Nat) (l0_2 : List (List Int)) (a1_0 : Int) (a1_1 : Int) (A1_2 : Option Addr) (c1_2 : Nat) (l1_2 : List (List Int)) (r : Bool) (w : World) (hr0_2 : Kd.C (Kd.slice 5 (Kd.int .u8)) w A0_2 l0_2.length l0_2) (hc0_2 : l0_2.length ≤ c0_2) (hr1_2 : Kd.C (Kd.slice 5 (Kd.int .u8)) w A1_2 l1_2.length l1_2) (hc1_2 : l1_2.length ≤ c1_2) (h : spec_SameRange.f k a0_0 a0_1 l0_2 a1_0 a1_1 l1_2 = some r) :
  Calls Tryd.prog 25 #[.agg #[.int .u64 a0_0, .int .u64 a0_1, .slice A0_2 l0_2.length c0_2], .agg #[.int .u64 a1_0, .int .u64 a1_1, .slice A1_2 l1_2.length c1_2]] w fun e w' => e = .returned (.bool r) ∧ Below w.heap.size w w' := by
 have hu39 := Tryd.underlying39
 have HR0_2 := Aside0.mk hr0_2
 have HC0_2 := Aside0.mk hc0_2
 clear hr0_2 hc0_2
 have HR1_2 := Aside0.mk hr1_2
 have HC1_2 := Aside0.mk hc1_2
 clear hr1_2 hc1_2
 have HB := Aside0.mk (Below.refl w.heap.size w)
 have H : (if a0_0 = a1_0 then (if a0_1 = a1_1 then ((spec_Same.f k l0_2 l1_2).bind fun t227 => (some t227)) else (some false)) else (some false)) = some r := h
 clear h
 by_cases c3 : a0_0 = a1_0
 ·rw [if_pos c3] at H
  have c3b0 : (a0_0 == a1_0) = true := beq_iff_eq.mpr c3
  have c3b1 : (a0_0 != a1_0) = false := bne_eq_false_iff_eq.mpr c3
  clear c3
  by_cases c4 : a0_1 = a1_1
  ·rw [if_pos c4] at H
   have c4b0 : (a0_1 == a1_1) = true := beq_iff_eq.mpr c4
   have c4b1 : (a0_1 != a1_1) = false := bne_eq_false_iff_eq.mpr c4
   clear c4
   replace H := Option.bind_eq_some_iff.mp H
   obtain ⟨t227, A50, H⟩ := H
   replace H : (some t227) = some r := H
   have A5 := Aside0.mk A50
   clear A50
   obtain rfl := Option.some.inj H
   go_enter Tryd.func25, Tryd.ntmps25
   go_wp2_with (first | ((with_reducible refine gate_dst (N := 2) rfl ?_); refine box_event ?hg (N := 2) ?hd (cs := #[.int .u64 a0_0, .int .u64 a0_1, .slice A0_2 l0_2.length c0_2]) (t := 39) ?hr ?_; (case hd => rfl); (case hg => rfl); (case hr => first | (go_simp; done) | (go_simp; rfl)); intro gb225 hg w6 hbox hb; have n0_ := Aside0.mk (below_step bB hb); have n1_ := Aside0.mk (hbox); have n2_ := Aside0.mk ((by rw [hg]; exact (below_size bB) : w.heap.size ≤ gb225)); have n3_ := Aside0.mk ((by rw [hg]; exact (below_size bB) : w.heap.size ≤ gb225)); clear HB; have HB := n0_; have BK225 := n1_; have GW225 := n2_; have GE225 := n3_; clear n0_ n1_ n2_ n3_; clear hb hbox hg) | ((with_reducible refine gate_dst (N := 3) rfl ?_); refine box_event ?hg (N := 3) ?hd (cs := #[.int .u64 a1_0, .int .u64 a1_1, .slice A1_2 l1_2.length c1_2]) (t := 39) ?hr ?_; (case hd => rfl); (case hg => rfl); (case hr => first | (go_simp; done) | (go_simp; rfl)); intro gb226 hg w7 hbox hb; have n0_ := Aside0.mk (blk_below (g := gb225) (o := .cells #[.int .u64 a0_0, .int .u64 a0_1, .slice A0_2 l0_2.length c0_2] 39 (0, 0)) (kB BK225.out) hb); have n1_ := Aside0.mk (below_step bB hb); have n2_ := Aside0.mk (hbox); have n3_ := Aside0.mk ((by rw [hg]; exact (below_size bB) : w.heap.size ≤ gb226)); have n4_ := Aside0.mk ((by rw [hg]; exact (below_size bB) : w.heap.size ≤ gb226)); have n5_ := Aside0.mk ((by rw [hg]; exact Nat.ne_of_lt (blk_lt (g := gb225) (o := .cells #[.int .u64 a0_0, .int .u64 a0_1, .slice A0_2 l0_2.length c0_2] 39 (0, 0)) (kB BK225.out)) : gb225 ≠ gb226)); have n6_ := Aside0.mk ((by rw [hg]; exact Nat.ne_of_gt (blk_lt (g := gb225) (o := .cells #[.int .u64 a0_0, .int .u64 a0_1, .slice A0_2 l0_2.length c0_2] 39 (0, 0)) (kB BK225.out)) : gb226 ≠ gb225)); clear BK225; clear HB; have BK225 := n0_; have HB := n1_; have BK226 := n2_; have GW226 := n3_; have GE226 := n4_; have NB225_226 := n5_; have NB226_225 := n6_; clear n0_ n1_ n2_ n3_ n4_ n5_ n6_; clear hb hbox hg; have hnb8 := NB225_226.out; have hnc8 := NB226_225.out; have hcz9_0 : w7.cell? ⟨gb225, 0, none⟩ = some (.int .u64 a0_0) := (blk_cell BK225.out 0).trans rfl; have hcz9_1 : w7.cell? ⟨gb225, 1, none⟩ = some (.int .u64 a0_1) := (blk_cell BK225.out 1).trans rfl; have hcz9_2 : w7.cell? ⟨gb225, 2, none⟩ = some (.slice A0_2 l0_2.length c0_2) := (blk_cell BK225.out 2).trans rfl; have hfz9_0 := blk_frozen BK225.out 0; have hfz9_1 := blk_frozen BK225.out 1; have hfz9_2 := blk_frozen BK225.out 2; have hcz10_0 : w7.cell? ⟨gb226, 0, none⟩ = some (.int .u64 a1_0) := (blk_cell BK226.out 0).trans rfl; have hcz10_1 : w7.cell? ⟨gb226, 1, none⟩ = some (.int .u64 a1_1) := (blk_cell BK226.out 1).trans rfl; have hcz10_2 : w7.cell? ⟨gb226, 2, none⟩ = some (.slice A1_2 l1_2.length c1_2) := (blk_cell BK226.out 2).trans rfl; have hfz10_0 := blk_frozen BK226.out 0; have hfz10_1 := blk_frozen BK226.out 1; have hfz10_2 := blk_frozen BK226.out 2) | (go_at_call 17; (with_reducible refine (spec_Same.calls k _ _ l0_2 _ _ l1_2 t227 _ ?side1 ?side2 ?side3 ?side4 A5.out).mono ?_); (case side1 => repeat (first | exact (Kd.C_below HR0_2.out HB.out) | (with_reducible refine Kd.C_alloc ?_ _) | (with_reducible refine Kd.C_drewN ?_ _) | (with_reducible refine Kd.C_drew ?_))); (case side2 => exact HC0_2.out); (case side3 => repeat (first | exact (Kd.C_below HR1_2.out HB.out) | (with_reducible refine Kd.C_alloc ?_ _) | (with_reducible refine Kd.C_drewN ?_ _) | (with_reducible refine Kd.C_drew ?_))); (case side4 => exact HC1_2.out); rintro e w' ⟨rfl, ⟨nd, rfl⟩⟩))
   go_ret
   exact ⟨by first | rfl | (simp [errW_none, errW_some] <;> rfl) | (simp [*, errW_none, errW_some] <;> rfl), bB⟩
  ·rw [if_neg c4] at H
   have c4b0 : (a0_1 == a1_1) = false := beq_eq_false_iff_ne.mpr c4
   have c4b1 : (a0_1 != a1_1) = true := bne_iff_ne.mpr c4
   obtain rfl := Option.some.inj H
   go_enter Tryd.func25, Tryd.ntmps25
   go_wp2_with (first | ((with_reducible refine gate_dst (N := 2) rfl ?_); refine box_event ?hg (N := 2) ?hd (cs := #[.int .u64 a0_0, .int .u64 a0_1, .slice A0_2 l0_2.length c0_2]) (t := 39) ?hr ?_; (case hd => rfl); (case hg => rfl); (case hr => first | (go_simp; done) | (go_simp; rfl)); intro gb225 hg w11 hbox hb; have n0_ := Aside0.mk (below_step bB hb); have n1_ := Aside0.mk (hbox); have n2_ := Aside0.mk ((by rw [hg]; exact (below_size bB) : w.heap.size ≤ gb225)); have n3_ := Aside0.mk ((by rw [hg]; exact (below_size bB) : w.heap.size ≤ gb225)); clear HB; have HB := n0_; have BK225 := n1_; have GW225 := n2_; have GE225 := n3_; clear n0_ n1_ n2_ n3_; clear hb hbox hg) | ((with_reducible refine gate_dst (N := 3) rfl ?_); refine box_event ?hg (N := 3) ?hd (cs := #[.int .u64 a1_0, .int .u64 a1_1, .slice A1_2 l1_2.length c1_2]) (t := 39) ?hr ?_; (case hd => rfl); (case hg => rfl); (case hr => first | (go_simp; done) | (go_simp; rfl)); intro gb226 hg w12 hbox hb; have n0_ := Aside0.mk (blk_below (g := gb225) (o := .cells #[.int .u64 a0_0, .int .u64 a0_1, .slice A0_2 l0_2.length c0_2] 39 (0, 0)) (kB BK225.out) hb); have n1_ := Aside0.mk (below_step bB hb); have n2_ := Aside0.mk (hbox); have n3_ := Aside0.mk ((by rw [hg]; exact (below_size bB) : w.heap.size ≤ gb226)); have n4_ := Aside0.mk ((by rw [hg]; exact (below_size bB) : w.heap.size ≤ gb226)); have n5_ := Aside0.mk ((by rw [hg]; exact Nat.ne_of_lt (blk_lt (g := gb225) (o := .cells #[.int .u64 a0_0, .int .u64 a0_1, .slice A0_2 l0_2.length c0_2] 39 (0, 0)) (kB BK225.out)) : gb225 ≠ gb226)); have n6_ := Aside0.mk ((by rw [hg]; exact Nat.ne_of_gt (blk_lt (g := gb225) (o := .cells #[.int .u64 a0_0, .int .u64 a0_1, .slice A0_2 l0_2.length c0_2] 39 (0, 0)) (kB BK225.out)) : gb226 ≠ gb225)); clear BK225; clear HB; have BK225 := n0_; have HB := n1_; have BK226 := n2_; have GW226 := n3_; have GE226 := n4_; have NB225_226 := n5_; have NB226_225 := n6_; clear n0_ n1_ n2_ n3_ n4_ n5_ n6_; clear hb hbox hg; have hnb13 := NB225_226.out; have hnc13 := NB226_225.out; have hcz14_0 : w12.cell? ⟨gb225, 0, none⟩ = some (.int .u64 a0_0) := (blk_cell BK225.out 0).trans rfl; have hcz14_1 : w12.cell? ⟨gb225, 1, none⟩ = some (.int .u64 a0_1) := (blk_cell BK225.out 1).trans rfl; have hcz14_2 : w12.cell? ⟨gb225, 2, none⟩ = some (.slice A0_2 l0_2.length c0_2) := (blk_cell BK225.out 2).trans rfl; have hfz14_0 := blk_frozen BK225.out 0; have hfz14_1 := blk_frozen BK225.out 1; have hfz14_2 := blk_frozen BK225.out 2; have hcz15_0 : w12.cell? ⟨gb226, 0, none⟩ = some (.int .u64 a1_0) := (blk_cell BK226.out 0).trans rfl; have hcz15_1 : w12.cell? ⟨gb226, 1, none⟩ = some (.int .u64 a1_1) := (blk_cell BK226.out 1).trans rfl; have hcz15_2 : w12.cell? ⟨gb226, 2, none⟩ = some (.slice A1_2 l1_2.length c1_2) := (blk_cell BK226.out 2).trans rfl; have hfz15_0 := blk_frozen BK226.out 0; have hfz15_1 := blk_frozen BK226.out 1; have hfz15_2 := blk_frozen BK226.out 2))
   go_ret
   exact ⟨by first | rfl | (simp [errW_none, errW_some] <;> rfl) | (simp [*, errW_none, errW_some] <;> rfl), bB⟩
 ·rw [if_neg c3] at H
  have c3b0 : (a0_0 == a1_0) = false := beq_eq_false_iff_ne.mpr c3
  have c3b1 : (a0_0 != a1_0) = true := bne_iff_ne.mpr c3
  obtain rfl := Option.some.inj H
  go_enter Tryd.func25, Tryd.ntmps25
  go_wp2_with (first | ((with_reducible refine gate_dst (N := 2) rfl ?_); refine box_event ?hg (N := 2) ?hd (cs := #[.int .u64 a0_0, .int .u64 a0_1, .slice A0_2 l0_2.length c0_2]) (t := 39) ?hr ?_; (case hd => rfl); (case hg => rfl); (case hr => first | (go_simp; done) | (go_simp; rfl)); intro gb225 hg w16 hbox hb; have n0_ := Aside0.mk (below_step bB hb); have n1_ := Aside0.mk (hbox); have n2_ := Aside0.mk ((by rw [hg]; exact (below_size bB) : w.heap.size ≤ gb225)); have n3_ := Aside0.mk ((by rw [hg]; exact (below_size bB) : w.heap.size ≤ gb225)); clear HB; have HB := n0_; have BK225 := n1_; have GW225 := n2_; have GE225 := n3_; clear n0_ n1_ n2_ n3_; clear hb hbox hg) | ((with_reducible refine gate_dst (N := 3) rfl ?_); refine box_event ?hg (N := 3) ?hd (cs := #[.int .u64 a1_0, .int .u64 a1_1, .slice A1_2 l1_2.length c1_2]) (t := 39) ?hr ?_; (case hd => rfl); (case hg => rfl); (case hr => first | (go_simp; done) | (go_simp; rfl)); intro gb226 hg w17 hbox hb; have n0_ := Aside0.mk (blk_below (g := gb225) (o := .cells #[.int .u64 a0_0, .int .u64 a0_1, .slice A0_2 l0_2.length c0_2] 39 (0, 0)) (kB BK225.out) hb); have n1_ := Aside0.mk (below_step bB hb); have n2_ := Aside0.mk (hbox); have n3_ := Aside0.mk ((by rw [hg]; exact (below_size bB) : w.heap.size ≤ gb226)); have n4_ := Aside0.mk ((by rw [hg]; exact (below_size bB) : w.heap.size ≤ gb226)); have n5_ := Aside0.mk ((by rw [hg]; exact Nat.ne_of_lt (blk_lt (g := gb225) (o := .cells #[.int .u64 a0_0, .int .u64 a0_1, .slice A0_2 l0_2.length c0_2] 39 (0, 0)) (kB BK225.out)) : gb225 ≠ gb226)); have n6_ := Aside0.mk ((by rw [hg]; exact Nat.ne_of_gt (blk_lt (g := gb225) (o := .cells #[.int .u64 a0_0, .int .u64 a0_1, .slice A0_2 l0_2.length c0_2] 39 (0, 0)) (kB BK225.out)) : gb226 ≠ gb225)); clear BK225; clear HB; have BK225 := n0_; have HB := n1_; have BK226 := n2_; have GW226 := n3_; have GE226 := n4_; have NB225_226 := n5_; have NB226_225 := n6_; clear n0_ n1_ n2_ n3_ n4_ n5_ n6_; clear hb hbox hg; have hnb18 := NB225_226.out; have hnc18 := NB226_225.out; have hcz19_0 : w17.cell? ⟨gb225, 0, none⟩ = some (.int .u64 a0_0) := (blk_cell BK225.out 0).trans rfl; have hcz19_1 : w17.cell? ⟨gb225, 1, none⟩ = some (.int .u64 a0_1) := (blk_cell BK225.out 1).trans rfl; have hcz19_2 : w17.cell? ⟨gb225, 2, none⟩ = some (.slice A0_2 l0_2.length c0_2) := (blk_cell BK225.out 2).trans rfl; have hfz19_0 := blk_frozen BK225.out 0; have hfz19_1 := blk_frozen BK225.out 1; have hfz19_2 := blk_frozen BK225.out 2; have hcz20_0 : w17.cell? ⟨gb226, 0, none⟩ = some (.int .u64 a1_0) := (blk_cell BK226.out 0).trans rfl; have hcz20_1 : w17.cell? ⟨gb226, 1, none⟩ = some (.int .u64 a1_1) := (blk_cell BK226.out 1).trans rfl; have hcz20_2 : w17.cell? ⟨gb226, 2, none⟩ = some (.slice A1_2 l1_2.length c1_2) := (blk_cell BK226.out 2).trans rfl; have hfz20_0 := blk_frozen BK226.out 0; have hfz20_1 := blk_frozen BK226.out 1; have hfz20_2 := blk_frozen BK226.out 2))
  go_ret
  exact ⟨by first | rfl | (simp [errW_none, errW_some] <;> rfl) | (simp [*, errW_none, errW_some] <;> rfl), bB⟩


attribute [local go_sem high] eqA54
/-! ### spec_SameVisits: function 26 -/
def spec_SameVisits.l0 : Nat → List (S60) → List (S60) → Int → Int → Option (Bool)
 | 0, _, _, _, _ => none
 | k + 1, x0, x1, x12, x13 => if x13 < x12 then (if 0 ≤ x13 then (if x13 < (x0.length : Int) then (if x13 < (x1.length : Int) then (if (!(((rd_T60 x0 x13).f0.f0) == ((rd_T60 x1 x13).f0.f0)) || (!(((rd_T60 x0 x13).f0.f1) == ((rd_T60 x1 x13).f0.f1)))) = true then (some false) else (if (strOfNums ((rd_T60 x0 x13).f1)).toList = (strOfNums ((rd_T60 x1 x13).f1)).toList then (spec_SameVisits.l0 k x0 x1 x12 (wrap64 (x13 + 1))) else (some false))) else (none)) else (none)) else (none)) else (some true)
def spec_SameVisits.f (k : Nat) (l0 : List (S60)) (l1 : List (S60)) : Option (Bool) := if (l0.length : Int) = (l1.length : Int) then (spec_SameVisits.l0 k l0 l1 (l0.length : Int) 0) else (some false)
theorem spec_SameVisits.mono_l : ∀ k, (∀ y0 y1 y2 y3, LeO (spec_SameVisits.l0 k y0 y1 y2 y3) (spec_SameVisits.l0 (k + 1) y0 y1 y2 y3))
 | 0 => fun _ _ _ _ r h => by simp [spec_SameVisits.l0] at h
 | k + 1 => by
  have ih0 := spec_SameVisits.mono_l k
  ·intro y0 y1 y2 y3
   unfold spec_SameVisits.l0
   repeat' first
   | (with_reducible exact ih0 _ _ _ _)
   | (with_reducible exact LeO.refl _)
   | (with_reducible exact LeO.none _)
   | (with_reducible refine LeO.ite ?_ ?_)
   | (with_reducible refine LeO.bind ?_ (fun _ => ?_))
   | exact ih0 _ _ _ _
   | exact LeO.none _
   | refine LeO.ite ?_ ?_
   | refine LeO.bind ?_ (fun _ => ?_)
theorem spec_SameVisits.mono : ∀ a0 a1 k, LeO (spec_SameVisits.f k a0 a1) (spec_SameVisits.f (k + 1) a0 a1) := by
 intro a0 a1 k
 have ih0 := spec_SameVisits.mono_l k
 unfold spec_SameVisits.f
 repeat' first
   | (with_reducible exact ih0 _ _ _ _)
   | (with_reducible exact LeO.refl _)
   | (with_reducible exact LeO.none _)
   | (with_reducible refine LeO.ite ?_ ?_)
   | (with_reducible refine LeO.bind ?_ (fun _ => ?_))
   | exact ih0 _ _ _ _
   | exact LeO.none _
   | refine LeO.ite ?_ ?_
   | refine LeO.bind ?_ (fun _ => ?_)
set_option maxHeartbeats 8000000 in
set_option maxRecDepth 100000 in
theorem spec_SameVisits.calls (k : Nat) (A0 : Option Addr) (c0 : Nat) (l0 : List (S60)) (A1 : Option Addr) (c1 : Nat) (l1 : List (S60)) (r : Bool) (w : World) (hr0 : Kd.C k60 w A0 l0.length l0) (hc0 : l0.length ≤ c0) (hr1 : Kd.C k60 w A1 l1.length l1) (hc1 : l1.length ≤ c1) (h : spec_SameVisits.f k l0 l1 = some r) :
  Calls Tryd.prog 26 #[.slice A0 l0.length c0, .slice A1 l1.length c1] w fun e w' => e = .returned (.bool r) ∧ Drawn0 w w' := by
 have hu54 := Tryd.underlying54
 have HR0 := Aside0.mk hr0
 have HC0 := Aside0.mk hc0
 clear hr0 hc0
 have HR1 := Aside0.mk hr1
 have HC1 := Aside0.mk hc1
 clear hr1 hc1
 have H : (if (l0.length : Int) = (l1.length : Int) then (spec_SameVisits.l0 k l0 l1 (l0.length : Int) 0) else (some false)) = some r := h
 clear h
 by_cases c3 : (l0.length : Int) = (l1.length : Int)
 ·rw [if_pos c3] at H
  have c3b0 : ((l0.length : Int) == (l1.length : Int)) = true := beq_iff_eq.mpr c3
  have c3b1 : ((l0.length : Int) != (l1.length : Int)) = false := bne_eq_false_iff_eq.mpr c3
  have c3b2 : (l0.length == l1.length) = true := by first | simpa using c3 | (simp at c3 ⊢; omega)
  clear c3
  have H' := Aside0.mk H
  clear H
  go_enter Tryd.func26, Tryd.ntmps26
  go_wp2
  repeat (go_quiet (fail); try go_wp2)
  go_loopg [13] k (fun kq v13 w' => ∃ (x13_1 : Int), v13 = .int .i64 x13_1 ∧ Aside0 (spec_SameVisits.l0 kq l0 l1 (l0.length : Int) x13_1 = some r) ∧ Aside0 (kq ≤ k) ∧ Drawn0 w w')
  case atStart => exact ⟨(0), (by first | rfl | (simp; done) | (simp [*]; done)), H', ⟨Nat.le_refl _⟩, by repeat (first | exact Drawn0.refl _ | apply Drawn0.step)⟩
  case round =>
   clear H'
   try clear c1
   try clear c2
   try clear p2
   try clear c3
   try clear c3b0
   try clear c3b1
   try clear c3b2
   obtain ⟨x13_1, rfl, HA, HK1, ⟨m1, rfl⟩⟩ := hrel
   cases gk with
   | zero => exact absurd HA.out (by simp [spec_SameVisits.l0])
   | succ k1 =>
    have H := HA.out
    clear HA
    simp only [spec_SameVisits.l0] at H
    by_cases c4 : x13_1 < (l0.length : Int)
    ·rw [if_pos c4] at H
     have c4b0 : decide (x13_1 < (l0.length : Int)) = true := decide_eq_true c4
     clear c4
     by_cases c5 : 0 ≤ x13_1
     ·rw [if_pos c5] at H
      have c5b0 : decide (0 ≤ x13_1) = true := decide_eq_true c5
      clear c5
      by_cases c6 : x13_1 < (l0.length : Int)
      ·rw [if_pos c6] at H
       have c6b0 : decide (x13_1 < (l0.length : Int)) = true := decide_eq_true c6
       clear c6
       by_cases c7 : x13_1 < (l1.length : Int)
       ·rw [if_pos c7] at H
        have c7b0 : decide (x13_1 < (l1.length : Int)) = true := decide_eq_true c7
        clear c7
        by_cases c8 : (!(((rd_T60 l0 x13_1).f0.f0) == ((rd_T60 l1 x13_1).f0.f0)) || (!(((rd_T60 l0 x13_1).f0.f1) == ((rd_T60 l1 x13_1).f0.f1)))) = true
        ·rw [if_pos c8] at H
         have c8b0 : (!(((rd_T60 l0 x13_1).f0.f0) == ((rd_T60 l1 x13_1).f0.f0)) || (!(((rd_T60 l0 x13_1).f0.f1) == ((rd_T60 l1 x13_1).f0.f1)))) = true := c8
         clear c8
         obtain rfl := Option.some.inj H
         have p228 : 0 ≤ (x13_1 : Int) := dA
         have q228 : x13_1 < (l0.length : Int) := dA
         obtain ⟨ad228, A228_2, c228_2, e228, hx228_0, hx228_1, hx228_2, hl228_2, hi228_2⟩ := at_T60 HR0.out x13_1 p228 q228
         cases e228
         have HR228_2 := Aside0.mk hi228_2
         have HC228_2 := Aside0.mk hl228_2
         clear hi228_2 hl228_2
         replace p228 := eq_true p228
         replace q228 := eq_true q228
         have p229 : 0 ≤ (x13_1 : Int) := dA
         have q229 : x13_1 < (l1.length : Int) := dA
         obtain ⟨ad229, A229_2, c229_2, e229, hx229_0, hx229_1, hx229_2, hl229_2, hi229_2⟩ := at_T60 HR1.out x13_1 p229 q229
         cases e229
         have HR229_2 := Aside0.mk hi229_2
         have HC229_2 := Aside0.mk hl229_2
         clear hi229_2 hl229_2
         replace p229 := eq_true p229
         replace q229 := eq_true q229
         go_wp2
         repeat (go_quiet (fail); try go_wp2)
         go_ret
         exact ⟨by first | rfl | (simp; done) | (simp [*]; done), by repeat (first | exact Drawn0.refl _ | apply Drawn0.step)⟩
        ·rw [if_neg c8] at H
         have c8b0 : (!(((rd_T60 l0 x13_1).f0.f0) == ((rd_T60 l1 x13_1).f0.f0)) || (!(((rd_T60 l0 x13_1).f0.f1) == ((rd_T60 l1 x13_1).f0.f1)))) = false := by simpa using c8
         clear c8
         by_cases c9 : (strOfNums ((rd_T60 l0 x13_1).f1)).toList = (strOfNums ((rd_T60 l1 x13_1).f1)).toList
         ·rw [if_pos c9] at H
          have c9b0 : ((strOfNums ((rd_T60 l0 x13_1).f1)).toList == (strOfNums ((rd_T60 l1 x13_1).f1)).toList) = true := beq_iff_eq.mpr c9
          have c9b1 : ((strOfNums ((rd_T60 l0 x13_1).f1)).toList != (strOfNums ((rd_T60 l1 x13_1).f1)).toList) = false := bne_eq_false_iff_eq.mpr c9
          clear c9
          have H' := Aside0.mk H
          clear H
          have p228 : 0 ≤ (x13_1 : Int) := dA
          have q228 : x13_1 < (l0.length : Int) := dA
          obtain ⟨ad228, A228_2, c228_2, e228, hx228_0, hx228_1, hx228_2, hl228_2, hi228_2⟩ := at_T60 HR0.out x13_1 p228 q228
          cases e228
          have HR228_2 := Aside0.mk hi228_2
          have HC228_2 := Aside0.mk hl228_2
          clear hi228_2 hl228_2
          replace p228 := eq_true p228
          replace q228 := eq_true q228
          have p229 : 0 ≤ (x13_1 : Int) := dA
          have q229 : x13_1 < (l1.length : Int) := dA
          obtain ⟨ad229, A229_2, c229_2, e229, hx229_0, hx229_1, hx229_2, hl229_2, hi229_2⟩ := at_T60 HR1.out x13_1 p229 q229
          cases e229
          have HR229_2 := Aside0.mk hi229_2
          have HC229_2 := Aside0.mk hl229_2
          clear hi229_2 hl229_2
          replace p229 := eq_true p229
          replace q229 := eq_true q229
          have p230 : 0 ≤ (x13_1 : Int) := dA
          have q230 : x13_1 < (l0.length : Int) := dA
          obtain ⟨ad230, A230_2, c230_2, e230, hx230_0, hx230_1, hx230_2, hl230_2, hi230_2⟩ := at_T60 HR0.out x13_1 p230 q230
          obtain rfl : ad228 = ad230 := (by injection e230)
          have HR230_2 := Aside0.mk hi230_2
          have HC230_2 := Aside0.mk hl230_2
          clear hi230_2 hl230_2
          replace p230 := eq_true p230
          replace q230 := eq_true q230
          have ea_ := Option.some.inj (hx228_2.symm.trans hx230_2)
          injection ea_ with ea_ en_ ec_
          subst ea_
          subst ec_
          clear en_
          have hcv10 := Kd.C_string (P := Tryd.prog) (A := A228_2) (c := c228_2) Tryd.underlying27 Tryd.underlying5 Tryd.underlying9 HR230_2.out
          have hcv10b := fun m_ : Nat => Kd.C_string (P := Tryd.prog) (A := A228_2) (c := c228_2) Tryd.underlying27 Tryd.underlying5 Tryd.underlying9 (Kd.C_drewN HR230_2.out m_)
          have p231 : 0 ≤ (x13_1 : Int) := dA
          have q231 : x13_1 < (l1.length : Int) := dA
          obtain ⟨ad231, A231_2, c231_2, e231, hx231_0, hx231_1, hx231_2, hl231_2, hi231_2⟩ := at_T60 HR1.out x13_1 p231 q231
          obtain rfl : ad229 = ad231 := (by injection e231)
          have HR231_2 := Aside0.mk hi231_2
          have HC231_2 := Aside0.mk hl231_2
          clear hi231_2 hl231_2
          replace p231 := eq_true p231
          replace q231 := eq_true q231
          have ea_ := Option.some.inj (hx229_2.symm.trans hx231_2)
          injection ea_ with ea_ en_ ec_
          subst ea_
          subst ec_
          clear en_
          have hcv11 := Kd.C_string (P := Tryd.prog) (A := A229_2) (c := c229_2) Tryd.underlying27 Tryd.underlying5 Tryd.underlying9 HR231_2.out
          have hcv11b := fun m_ : Nat => Kd.C_string (P := Tryd.prog) (A := A229_2) (c := c229_2) Tryd.underlying27 Tryd.underlying5 Tryd.underlying9 (Kd.C_drewN HR231_2.out m_)
          go_wp2
          repeat (go_quiet (fail); try go_wp2)
          go_roundg k1
          case measure => have := HK1.out; omega
          case rel => exact ⟨(wrap64 (x13_1 + 1)), (by first | rfl | (simp; done) | (simp [*]; done)), H', ⟨by have := HK1.out; omega⟩, by repeat (first | exact Drawn0.refl _ | apply Drawn0.step)⟩
         ·rw [if_neg c9] at H
          have c9b0 : ((strOfNums ((rd_T60 l0 x13_1).f1)).toList == (strOfNums ((rd_T60 l1 x13_1).f1)).toList) = false := beq_eq_false_iff_ne.mpr c9
          have c9b1 : ((strOfNums ((rd_T60 l0 x13_1).f1)).toList != (strOfNums ((rd_T60 l1 x13_1).f1)).toList) = true := bne_iff_ne.mpr c9
          obtain rfl := Option.some.inj H
          have p228 : 0 ≤ (x13_1 : Int) := dA
          have q228 : x13_1 < (l0.length : Int) := dA
          obtain ⟨ad228, A228_2, c228_2, e228, hx228_0, hx228_1, hx228_2, hl228_2, hi228_2⟩ := at_T60 HR0.out x13_1 p228 q228
          cases e228
          have HR228_2 := Aside0.mk hi228_2
          have HC228_2 := Aside0.mk hl228_2
          clear hi228_2 hl228_2
          replace p228 := eq_true p228
          replace q228 := eq_true q228
          have p229 : 0 ≤ (x13_1 : Int) := dA
          have q229 : x13_1 < (l1.length : Int) := dA
          obtain ⟨ad229, A229_2, c229_2, e229, hx229_0, hx229_1, hx229_2, hl229_2, hi229_2⟩ := at_T60 HR1.out x13_1 p229 q229
          cases e229
          have HR229_2 := Aside0.mk hi229_2
          have HC229_2 := Aside0.mk hl229_2
          clear hi229_2 hl229_2
          replace p229 := eq_true p229
          replace q229 := eq_true q229
          have p230 : 0 ≤ (x13_1 : Int) := dA
          have q230 : x13_1 < (l0.length : Int) := dA
          obtain ⟨ad230, A230_2, c230_2, e230, hx230_0, hx230_1, hx230_2, hl230_2, hi230_2⟩ := at_T60 HR0.out x13_1 p230 q230
          obtain rfl : ad228 = ad230 := (by injection e230)
          have HR230_2 := Aside0.mk hi230_2
          have HC230_2 := Aside0.mk hl230_2
          clear hi230_2 hl230_2
          replace p230 := eq_true p230
          replace q230 := eq_true q230
          have ea_ := Option.some.inj (hx228_2.symm.trans hx230_2)
          injection ea_ with ea_ en_ ec_
          subst ea_
          subst ec_
          clear en_
          have hcv12 := Kd.C_string (P := Tryd.prog) (A := A228_2) (c := c228_2) Tryd.underlying27 Tryd.underlying5 Tryd.underlying9 HR230_2.out
          have hcv12b := fun m_ : Nat => Kd.C_string (P := Tryd.prog) (A := A228_2) (c := c228_2) Tryd.underlying27 Tryd.underlying5 Tryd.underlying9 (Kd.C_drewN HR230_2.out m_)
          have p231 : 0 ≤ (x13_1 : Int) := dA
          have q231 : x13_1 < (l1.length : Int) := dA
          obtain ⟨ad231, A231_2, c231_2, e231, hx231_0, hx231_1, hx231_2, hl231_2, hi231_2⟩ := at_T60 HR1.out x13_1 p231 q231
          obtain rfl : ad229 = ad231 := (by injection e231)
          have HR231_2 := Aside0.mk hi231_2
          have HC231_2 := Aside0.mk hl231_2
          clear hi231_2 hl231_2
          replace p231 := eq_true p231
          replace q231 := eq_true q231
          have ea_ := Option.some.inj (hx229_2.symm.trans hx231_2)
          injection ea_ with ea_ en_ ec_
          subst ea_
          subst ec_
          clear en_
          have hcv13 := Kd.C_string (P := Tryd.prog) (A := A229_2) (c := c229_2) Tryd.underlying27 Tryd.underlying5 Tryd.underlying9 HR231_2.out
          have hcv13b := fun m_ : Nat => Kd.C_string (P := Tryd.prog) (A := A229_2) (c := c229_2) Tryd.underlying27 Tryd.underlying5 Tryd.underlying9 (Kd.C_drewN HR231_2.out m_)
          go_wp2
          repeat (go_quiet (fail); try go_wp2)
          go_ret
          exact ⟨by first | rfl | (simp; done) | (simp [*]; done), by repeat (first | exact Drawn0.refl _ | apply Drawn0.step)⟩
       ·rw [if_neg c7] at H
        exact absurd H (by simp)
      ·rw [if_neg c6] at H
       exact absurd H (by simp)
     ·rw [if_neg c5] at H
      exact absurd H (by simp)
    ·rw [if_neg c4] at H
     have c4b0 : decide (x13_1 < (l0.length : Int)) = false := decide_eq_false c4
     clear c4
     obtain rfl := Option.some.inj H
     go_wp2
     repeat (go_quiet (fail); try go_wp2)
     go_ret
     exact ⟨by first | rfl | (simp; done) | (simp [*]; done), by repeat (first | exact Drawn0.refl _ | apply Drawn0.step)⟩
 ·rw [if_neg c3] at H
  have c3b0 : ((l0.length : Int) == (l1.length : Int)) = false := beq_eq_false_iff_ne.mpr c3
  have c3b1 : ((l0.length : Int) != (l1.length : Int)) = true := bne_iff_ne.mpr c3
  have c3b2 : (l0.length == l1.length) = false := by first | simpa using c3 | (simp at c3 ⊢; omega)
  obtain rfl := Option.some.inj H
  go_enter Tryd.func26, Tryd.ntmps26
  go_wp2
  repeat (go_quiet (fail); try go_wp2)
  go_ret
  exact ⟨by first | rfl | (simp; done) | (simp [*]; done), by repeat (first | exact Drawn0.refl _ | apply Drawn0.step)⟩

end Go.Proofs.YtkmdkmlgahfcpaaDoor.M

