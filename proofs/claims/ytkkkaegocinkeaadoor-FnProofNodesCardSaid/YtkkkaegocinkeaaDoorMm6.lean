-- Written by a program of ours (wip/xp) out of the translation; Lean checks it.
import Derived.Test.YtkkkaegocinkeaaDoorSq
import Derived.Test.YtkkkaegocinkeaaDoorMm1
import Derived.Test.YtkkkaegocinkeaaDoorMm4
import Derived.Test.YtkkkaegocinkeaaDoorMm5
namespace Go.Proofs.YtkkkaegocinkeaaDoor.M
open Go.RowKit Go.Proofs.YtkkkaegocinkeaaDoorW.PrintWords Go.Proofs.YtkkkaegocinkeaaDoorW.PrintLast Go.Proofs.YtkkkaegocinkeaaDoorW.PrintMore
attribute [local go_sem] max2_int min2_int max_two min_two max_three min_three max_four min_four   -- for this text's walks alone
set_option linter.unusedVariables false
set_option linter.unusedSimpArgs false

/-! ### spec_proofOf: function 32 -/
mutual
def spec_proofOf.l0 : Nat → List (S45) → Int → Int → Int → Int → List (S28) → Int → Int → Int → Int → Option ((List (S28)) × Int × Int × Int × Int)
 | 0, _, _, _, _, _, _, _, _, _, _ => none
 | k + 1, x10, x11, x12, x198000, x198001, x200000, x200001, x200002, x200003, x200004 => if x12 < x11 then (if 0 ≤ x12 then (if x12 < (x10.length : Int) then (if ((rd_T45 x10 x12).f1) = x198000 then ((spec_NodeOf.f k ((rd_T45 x10 x12).f0) ((rd_T45 x10 x12).f1)).bind fun bt202 => (if x200000.length < 8796093022208 then (spec_proofOf.l0 k x10 x11 (wrap64 (x12 + 1)) ((rd_T45 x10 x12).f0) x198001 (x200000 ++ [(⟨bt202.1, bt202.2⟩ : S28)]) x200001 x200002 x200003 x200004) else (none))) else (if (IntKind.u64.wrap (((rd_T45 x10 x12).f1) - ((rd_T45 x10 x12).f0))) = (IntKind.u64.wrap (x198001 - x198000)) then ((spec_NodeOf.f k ((rd_T45 x10 x12).f0) ((rd_T45 x10 x12).f1)).bind fun bt207 => (if x200000.length < 8796093022208 then (spec_proofOf.l0 k x10 x11 (wrap64 (x12 + 1)) x198000 ((rd_T45 x10 x12).f1) (x200000 ++ [(⟨bt207.1, bt207.2⟩ : S28)]) x200001 x200002 x200003 x200004) else (none))) else ((spec_Nodes.f k ((rd_T45 x10 x12).f0) ((rd_T45 x10 x12).f1)).bind fun t212 => (spec_proofOf.l1 k t212 (wrap64 ((t212.length : Int) - 1)) x10 x11 x12 x198000 x198001 x200000 x200001 x200002 (x200000.length : Int) (wrap64 ((x200000.length : Int) + (t212.length : Int))) ((rd_T45 x10 x12).f0) ((rd_T45 x10 x12).f1))))) else (none)) else (none)) else (some (x200000, x200001, x200002, x200003, x200004))
def spec_proofOf.l1 : Nat → List (S28) → Int → List (S45) → Int → Int → Int → Int → List (S28) → Int → Int → Int → Int → Int → Int → Option ((List (S28)) × Int × Int × Int × Int)
 | 0, _, _, _, _, _, _, _, _, _, _, _, _, _, _ => none
 | k + 1, x8, x9, x10, x11, x12, x198000, x198001, x200000, x200001, x200002, x200003, x200004, x202000, x202001 => if x9 ≥ 0 then (if 0 ≤ x9 then (if x9 < (x8.length : Int) then (if x200000.length < 8796093022208 then (spec_proofOf.l1 k x8 (wrap64 (x9 - 1)) x10 x11 x12 x198000 x198001 (x200000 ++ [(⟨(rd_T28 x8 x9).f0, (rd_T28 x8 x9).f1⟩ : S28)]) x200001 x200002 x200003 x200004 x202000 x202001) else (none)) else (none)) else (none)) else (spec_proofOf.l0 k x10 x11 (wrap64 (x12 + 1)) x198000 x202001 x200000 x200001 x200002 x200003 x200004)
end
def spec_proofOf.f (k : Nat) (a0_0 : Int) (a0_1 : Int) (l1 : List (S45)) : Option ((List (S28)) × Int × Int × Int × Int) := spec_proofOf.l0 k l1 (l1.length : Int) 0 a0_0 a0_1 ([] : List (S28)) 0 0 0 0
theorem spec_proofOf.mono_l : ∀ k, (∀ y0 y1 y2 y3 y4 y5 y6 y7 y8 y9, LeO (spec_proofOf.l0 k y0 y1 y2 y3 y4 y5 y6 y7 y8 y9) (spec_proofOf.l0 (k + 1) y0 y1 y2 y3 y4 y5 y6 y7 y8 y9)) ∧ (∀ y0 y1 y2 y3 y4 y5 y6 y7 y8 y9 y10 y11 y12 y13, LeO (spec_proofOf.l1 k y0 y1 y2 y3 y4 y5 y6 y7 y8 y9 y10 y11 y12 y13) (spec_proofOf.l1 (k + 1) y0 y1 y2 y3 y4 y5 y6 y7 y8 y9 y10 y11 y12 y13))
 | 0 => ⟨fun _ _ _ _ _ _ _ _ _ _ r h => by simp [spec_proofOf.l0] at h, fun _ _ _ _ _ _ _ _ _ _ _ _ _ _ r h => by simp [spec_proofOf.l1] at h⟩
 | k + 1 => by
  obtain ⟨ih0, ih1⟩ := spec_proofOf.mono_l k
  refine ⟨?_, ?_⟩
  ·intro y0 y1 y2 y3 y4 y5 y6 y7 y8 y9
   unfold spec_proofOf.l0
   repeat' first
   | (with_reducible exact ih0 _ _ _ _ _ _ _ _ _ _)
   | (with_reducible exact ih1 _ _ _ _ _ _ _ _ _ _ _ _ _ _)
   | (with_reducible exact spec_NodeOf.mono _ _ _)
   | (with_reducible exact spec_Nodes.mono _ _ _)
   | (with_reducible exact LeO.refl _)
   | (with_reducible exact LeO.none _)
   | (with_reducible refine LeO.ite ?_ ?_)
   | (with_reducible refine LeO.bind ?_ (fun _ => ?_))
   | exact ih0 _ _ _ _ _ _ _ _ _ _
   | exact ih1 _ _ _ _ _ _ _ _ _ _ _ _ _ _
   | exact spec_NodeOf.mono _ _ _
   | exact spec_Nodes.mono _ _ _
   | exact LeO.none _
   | refine LeO.ite ?_ ?_
   | refine LeO.bind ?_ (fun _ => ?_)
  ·intro y0 y1 y2 y3 y4 y5 y6 y7 y8 y9 y10 y11 y12 y13
   unfold spec_proofOf.l1
   repeat' first
   | (with_reducible exact ih0 _ _ _ _ _ _ _ _ _ _)
   | (with_reducible exact ih1 _ _ _ _ _ _ _ _ _ _ _ _ _ _)
   | (with_reducible exact spec_NodeOf.mono _ _ _)
   | (with_reducible exact spec_Nodes.mono _ _ _)
   | (with_reducible exact LeO.refl _)
   | (with_reducible exact LeO.none _)
   | (with_reducible refine LeO.ite ?_ ?_)
   | (with_reducible refine LeO.bind ?_ (fun _ => ?_))
   | exact ih0 _ _ _ _ _ _ _ _ _ _
   | exact ih1 _ _ _ _ _ _ _ _ _ _ _ _ _ _
   | exact spec_NodeOf.mono _ _ _
   | exact spec_Nodes.mono _ _ _
   | exact LeO.none _
   | refine LeO.ite ?_ ?_
   | refine LeO.bind ?_ (fun _ => ?_)
theorem spec_proofOf.mono : ∀ a0 a1 a2 k, LeO (spec_proofOf.f k a0 a1 a2) (spec_proofOf.f (k + 1) a0 a1 a2) := by
 intro a0 a1 a2 k
 obtain ⟨ih0, ih1⟩ := spec_proofOf.mono_l k
 unfold spec_proofOf.f
 repeat' first
   | (with_reducible exact ih0 _ _ _ _ _ _ _ _ _ _)
   | (with_reducible exact ih1 _ _ _ _ _ _ _ _ _ _ _ _ _ _)
   | (with_reducible exact spec_NodeOf.mono _ _ _)
   | (with_reducible exact spec_Nodes.mono _ _ _)
   | (with_reducible exact LeO.refl _)
   | (with_reducible exact LeO.none _)
   | (with_reducible refine LeO.ite ?_ ?_)
   | (with_reducible refine LeO.bind ?_ (fun _ => ?_))
   | exact ih0 _ _ _ _ _ _ _ _ _ _
   | exact ih1 _ _ _ _ _ _ _ _ _ _ _ _ _ _
   | exact spec_NodeOf.mono _ _ _
   | exact spec_Nodes.mono _ _ _
   | exact LeO.none _
   | refine LeO.ite ?_ ?_
   | refine LeO.bind ?_ (fun _ => ?_)
def spec_proofOf.T6 : Bool × List (List Nat × List Nat) := (true, [([], []), ([0], [0]), ([], []), ([2], [2]), ([3], [3]), ([1, 4, 3], [1, 4]), ([0, 1, 2, 3, 4, 5], []), ([6, 5, 5, 0, 1, 2, 3, 4, 5], [5, 6])])
def spec_proofOf.B6 : List Nat := [0, 1, 0, 4, 12, 31, 63, 127]
theorem spec_proofOf.tab6 : rtab .any (opsOf Tryd.f32 6) = spec_proofOf.T6 := by kernel_rfl
theorem spec_proofOf.bits6 : waitsOk spec_proofOf.T6.2 spec_proofOf.B6 = true := by kernel_rfl
def spec_proofOf.T9 : Bool × List (List Nat × List Nat) := (true, [([], []), ([0], [0]), ([], []), ([2], [2]), ([3], [3]), ([1, 4, 3], [1, 4]), ([0, 1, 2, 3, 4, 5], []), ([6, 5, 5, 0, 1, 2, 3, 4, 5], [5, 6])])
def spec_proofOf.B9 : List Nat := [0, 1, 0, 4, 12, 31, 63, 127]
theorem spec_proofOf.tab9 : rtab .any (opsOf Tryd.f32 9) = spec_proofOf.T9 := by kernel_rfl
theorem spec_proofOf.bits9 : waitsOk spec_proofOf.T9.2 spec_proofOf.B9 = true := by kernel_rfl
def spec_proofOf.T15 : Bool × List (List Nat × List Nat) := (true, [([], []), ([0], [0]), ([], []), ([], []), ([2, 3], [2, 3]), ([4], [4]), ([5], [5]), ([1, 6], [1, 6]), ([0, 1, 2, 3, 4, 5, 6, 7], []), ([8, 7, 7, 0, 1, 2, 3, 4, 5, 6, 7], [7, 8])])
def spec_proofOf.B15 : List Nat := [0, 1, 0, 0, 12, 28, 60, 127, 255, 511]
theorem spec_proofOf.tab15 : rtab .any (opsOf Tryd.f32 15) = spec_proofOf.T15 := by kernel_rfl
theorem spec_proofOf.bits15 : waitsOk spec_proofOf.T15.2 spec_proofOf.B15 = true := by kernel_rfl
set_option maxHeartbeats 8000000 in
set_option maxRecDepth 100000 in
theorem spec_proofOf.calls (k : Nat) (a0_0 : Int) (a0_1 : Int) (A1 : Option Addr) (c1 : Nat) (l1 : List (S45)) (r1 : List (S28)) (r2 : Int) (r3 : Int) (r4 : Int) (r5 : Int) (w : World) (hr1 : Kd.C k45 w A1 l1.length l1) (hc1 : l1.length ≤ c1) (h : spec_proofOf.f k a0_0 a0_1 l1 = some (r1, r2, r3, r4, r5)) :
  Calls Tryd.prog 32 #[.agg #[.int .u64 a0_0, .int .u64 a0_1], .slice A1 l1.length c1] w fun e w' => ∃ v0_ : Value, e = .returned (.agg #[v0_, .int .u64 r2, .int .u64 r3, .int .i64 r4, .int .i64 r5]) ∧ Kd.R k28 28 w' w.heap.size (fun _ => True) v0_ r1 ∧ Below w.heap.size w w' := by
 have hu45 := Tryd.underlying45
 have hu39 := Tryd.underlying39
 have hu28 := Tryd.underlying28
 have HR1 := Aside0.mk hr1
 have HC1 := Aside0.mk hc1
 clear hr1 hc1
 have HB := Aside0.mk (Below.refl w.heap.size w)
 have H : (spec_proofOf.l0 k l1 (l1.length : Int) 0 a0_0 a0_1 ([] : List (S28)) 0 0 0 0) = some (r1, r2, r3, r4, r5) := h
 clear h
 have H' := Aside0.mk H
 clear H
 go_enter Tryd.func32, Tryd.ntmps32
 go_wp2_with (first | ((with_reducible refine gate_dst (N := 2) rfl ?_); refine box_event ?hg (N := 2) ?hd (cs := #[.int .u64 a0_0, .int .u64 a0_1]) (t := 45) ?hr ?_; (case hd => rfl); (case hg => rfl); (case hr => first | (go_simp; done) | (go_simp; rfl)); intro gb197 hg w3 hbox hb; have n0_ := Aside0.mk (below_step bB hb); have n1_ := Aside0.mk (hbox); have n2_ := Aside0.mk ((by rw [hg]; exact (below_size bB) : w.heap.size ≤ gb197)); have n3_ := Aside0.mk ((by rw [hg]; exact (below_size bB) : w.heap.size ≤ gb197)); clear HB; have HB := n0_; have BK197 := n1_; have GW197 := n2_; have GE197 := n3_; clear n0_ n1_ n2_ n3_; clear hb hbox hg) | ((with_reducible refine gate_dst (N := 4) rfl ?_); refine box_event ?hg (N := 4) ?hd (cs := #[.slice none 0 0, .int .u64 0, .int .u64 0, .int .i64 0, .int .i64 0]) (t := 39) ?hr ?_; (case hd => rfl); (case hg => rfl); (case hr => first | (go_simp; done) | (go_simp; rfl)); intro gb198 hg w4 hbox hb; have n0_ := Aside0.mk (blk_below (g := gb197) (o := .cells #[.int .u64 a0_0, .int .u64 a0_1] 45 (0, 0)) (kB BK197.out) hb); have n1_ := Aside0.mk (below_step bB hb); have n2_ := Aside0.mk (hbox); have n3_ := Aside0.mk ((by rw [hg]; exact (below_size bB) : w.heap.size ≤ gb198)); have n4_ := Aside0.mk ((by rw [hg]; exact (below_size bB) : w.heap.size ≤ gb198)); have n5_ := Aside0.mk ((by rw [hg]; exact Nat.ne_of_lt (blk_lt (g := gb197) (o := .cells #[.int .u64 a0_0, .int .u64 a0_1] 45 (0, 0)) (kB BK197.out)) : gb197 ≠ gb198)); have n6_ := Aside0.mk ((by rw [hg]; exact Nat.ne_of_gt (blk_lt (g := gb197) (o := .cells #[.int .u64 a0_0, .int .u64 a0_1] 45 (0, 0)) (kB BK197.out)) : gb198 ≠ gb197)); clear BK197; clear HB; have BK197 := n0_; have HB := n1_; have BK198 := n2_; have GW198 := n3_; have GE198 := n4_; have NB197_198 := n5_; have NB198_197 := n6_; clear n0_ n1_ n2_ n3_ n4_ n5_ n6_; clear hb hbox hg) | ((with_reducible refine gate_dst (N := 5) rfl ?_); refine box_event ?hg (N := 5) ?hd (cs := #[.slice none 0 0, .int .u64 0, .int .u64 0, .int .i64 0, .int .i64 0]) (t := 39) ?hr ?_; (case hd => rfl); (case hg => rfl); (case hr => first | (go_simp; done) | (go_simp; rfl)); intro gb199 hg w5 hbox hb; have n0_ := Aside0.mk (blk_below (g := gb197) (o := .cells #[.int .u64 a0_0, .int .u64 a0_1] 45 (0, 0)) (kB BK197.out) hb); have n1_ := Aside0.mk (blk_below (g := gb198) (o := .cells #[.slice none 0 0, .int .u64 0, .int .u64 0, .int .i64 0, .int .i64 0] 39 (0, 0)) (kB BK198.out) hb); have n2_ := Aside0.mk (below_step bB hb); have n3_ := Aside0.mk (hbox); have n4_ := Aside0.mk ((by rw [hg]; exact (below_size bB) : w.heap.size ≤ gb199)); have n5_ := Aside0.mk ((by rw [hg]; exact (below_size bB) : w.heap.size ≤ gb199)); have n6_ := Aside0.mk ((by rw [hg]; exact Nat.ne_of_lt (blk_lt (g := gb197) (o := .cells #[.int .u64 a0_0, .int .u64 a0_1] 45 (0, 0)) (kB BK197.out)) : gb197 ≠ gb199)); have n7_ := Aside0.mk ((by rw [hg]; exact Nat.ne_of_gt (blk_lt (g := gb197) (o := .cells #[.int .u64 a0_0, .int .u64 a0_1] 45 (0, 0)) (kB BK197.out)) : gb199 ≠ gb197)); have n8_ := Aside0.mk ((by rw [hg]; exact Nat.ne_of_lt (blk_lt (g := gb198) (o := .cells #[.slice none 0 0, .int .u64 0, .int .u64 0, .int .i64 0, .int .i64 0] 39 (0, 0)) (kB BK198.out)) : gb198 ≠ gb199)); have n9_ := Aside0.mk ((by rw [hg]; exact Nat.ne_of_gt (blk_lt (g := gb198) (o := .cells #[.slice none 0 0, .int .u64 0, .int .u64 0, .int .i64 0, .int .i64 0] 39 (0, 0)) (kB BK198.out)) : gb199 ≠ gb198)); clear BK197; clear BK198; clear HB; have BK197 := n0_; have BK198 := n1_; have HB := n2_; have BK199 := n3_; have GW199 := n4_; have GE199 := n5_; have NB197_199 := n6_; have NB199_197 := n7_; have NB198_199 := n8_; have NB199_198 := n9_; clear n0_ n1_ n2_ n3_ n4_ n5_ n6_ n7_ n8_ n9_; clear hb hbox hg))
 go_loopg [12] k (fun kq v12 w' => ∃ (x12_1 : Int) (x198000_1 : Int) (x198001_1 : Int) (x200000_1 : List (S28)) (x200003_1 : Int) (x200004_1 : Int) (u200000 : Value), v12 = .int .i64 x12_1 ∧ Aside0 (spec_proofOf.l0 kq l1 (l1.length : Int) x12_1 x198000_1 x198001_1 x200000_1 0 0 x200003_1 x200004_1 = some (r1, r2, r3, r4, r5)) ∧ Aside0 (kq ≤ k) ∧ Aside0 (Kd.R k28 28 w' w.heap.size (fun _ => True) u200000 x200000_1) ∧ Aside0 (w'.heap[gb197]? = some (.cells #[.int .u64 x198000_1, .int .u64 x198001_1] 45 (0, 0))) ∧ Aside0 (w'.heap[gb198]? = some (.cells #[(.slice none 0 0), .int .u64 0, .int .u64 0, .int .i64 0, .int .i64 0] 39 (0, 0))) ∧ Aside0 (w'.heap[gb199]? = some (.cells #[u200000, .int .u64 0, .int .u64 0, .int .i64 x200003_1, .int .i64 x200004_1] 39 (0, 0))) ∧ Aside0 (Below w.heap.size w w'))
 case atStart => exact ⟨(0), (a0_0), (a0_1), (([] : List (S28))), (0), (0), (.slice none 0 0), (by first | rfl | (simp; done) | (simp [*]; done)), H', ⟨Nat.le_refl _⟩, ⟨by first | exact Kd.R_nil _ _ _ _ _ | exact Kd.N_nil _ _ _ _ _ | exact Kd.V_nil _ _ _ _ _ | exact Kd.Q_nil _ _ _ _ _ | exact Kd.S_nil _ _ _ _ _⟩, ⟨by (with_reducible repeat (first | refine blk_drewN ?_ _ | refine blk_drew ?_ | refine blk_alloc ?_ _)); exact BK197.out⟩, ⟨by (with_reducible repeat (first | refine blk_drewN ?_ _ | refine blk_drew ?_ | refine blk_alloc ?_ _)); exact BK198.out⟩, ⟨by (with_reducible repeat (first | refine blk_drewN ?_ _ | refine blk_drew ?_ | refine blk_alloc ?_ _)); exact BK199.out⟩, ⟨bB⟩⟩
 case round =>
  clear H'
  try clear c1
  try clear p2
  try clear c3
  obtain ⟨x12_1, x198000_1, x198001_1, x200000_1, x200003_1, x200004_1, u200000, rfl, HA, HK1, HO_200000, BK197, BK198, BK199, HB⟩ := hrel
  cases gk with
  | zero => exact absurd HA.out (by simp [spec_proofOf.l0])
  | succ k1 =>
   have H := HA.out
   clear HA
   simp only [spec_proofOf.l0] at H
   by_cases c6 : x12_1 < (l1.length : Int)
   ·rw [if_pos c6] at H
    have c6b0 : decide (x12_1 < (l1.length : Int)) = true := decide_eq_true c6
    clear c6
    by_cases c7 : 0 ≤ x12_1
    ·rw [if_pos c7] at H
     have c7b0 : decide (0 ≤ x12_1) = true := decide_eq_true c7
     clear c7
     by_cases c8 : x12_1 < (l1.length : Int)
     ·rw [if_pos c8] at H
      have c8b0 : decide (x12_1 < (l1.length : Int)) = true := decide_eq_true c8
      clear c8
      by_cases c9 : ((rd_T45 l1 x12_1).f1) = x198000_1
      ·rw [if_pos c9] at H
       have c9b0 : (((rd_T45 l1 x12_1).f1) == x198000_1) = true := beq_iff_eq.mpr c9
       have c9b1 : (((rd_T45 l1 x12_1).f1) != x198000_1) = false := bne_eq_false_iff_eq.mpr c9
       clear c9
       replace H := Option.bind_eq_some_iff.mp H
       obtain ⟨⟨t202, t203⟩, A100, H⟩ := H
       replace H : (if x200000_1.length < 8796093022208 then (spec_proofOf.l0 k1 l1 (l1.length : Int) (wrap64 (x12_1 + 1)) ((rd_T45 l1 x12_1).f0) x198001_1 (x200000_1 ++ [(⟨t202, t203⟩ : S28)]) 0 0 x200003_1 x200004_1) else (none)) = some (r1, r2, r3, r4, r5) := H
       have A10 := Aside0.mk A100
       clear A100
       by_cases c11 : x200000_1.length < 8796093022208
       ·rw [if_pos c11] at H
        have LMc11 := Aside0.mk c11
        clear c11
        obtain ⟨y204, hy204⟩ : ∃ y_ : List (S28), y_ = (x200000_1 ++ [(⟨t202, t203⟩ : S28)]) := ⟨_, rfl⟩
        replace H : (spec_proofOf.l0 k1 l1 (l1.length : Int) (wrap64 (x12_1 + 1)) ((rd_T45 l1 x12_1).f0) x198001_1 y204 0 0 x200003_1 x200004_1) = some (r1, r2, r3, r4, r5) := by first | (rw [hy204]; with_reducible exact H) | (have H2_ := (Option.bind_some _ _).symm.trans H; rw [hy204]; with_reducible exact H2_) | (have H2_ := (Option.bind_some _ _).symm.trans H; with_reducible exact H2_) | with_reducible exact H | (rw [hy204]; exact H) | exact H
        have Ny204 := Aside0.mk hy204
        clear hy204
        have H' := Aside0.mk H
        clear H
        have p200 : 0 ≤ (x12_1 : Int) := dA
        have q200 : x12_1 < (l1.length : Int) := dA
        obtain ⟨ad200, e200, hx200_0, hx200_1⟩ := at_T45 HR1.out x12_1 p200 q200
        cases e200
        replace hx200_0 := (HB.out.cell (World.block_lt_of_cell? w _ hx200_0)).trans hx200_0
        replace hx200_1 := (HB.out.cell (World.block_lt_of_cell? w _ hx200_1)).trans hx200_1
        replace p200 := eq_true p200
        replace q200 := eq_true q200
        try go_wp2_with (first | ((with_reducible refine gate_dst (N := 7) rfl ?_); refine box_event ?hg (N := 7) ?hd (cs := #[.int .u64 0, .int .u64 0]) (t := 45) ?hr ?_; (case hd => rfl); (case hg => rfl); (case hr => first | (go_simp; done) | (go_simp; rfl)); intro gb201 hg w12 hbox hb; have n0_ := Aside0.mk (Kd.R_below (kR HO_200000.out) hb); have n1_ := Aside0.mk (blk_below (g := gb197) (o := .cells #[.int .u64 x198000_1, .int .u64 x198001_1] 45 (0, 0)) (kB BK197.out) hb); have n2_ := Aside0.mk (blk_below (g := gb198) (o := .cells #[.slice none 0 0, .int .u64 0, .int .u64 0, .int .i64 0, .int .i64 0] 39 (0, 0)) (kB BK198.out) hb); have n3_ := Aside0.mk (blk_below (g := gb199) (o := .cells #[u200000, .int .u64 0, .int .u64 0, .int .i64 x200003_1, .int .i64 x200004_1] 39 (0, 0)) (kB BK199.out) hb); have n4_ := Aside0.mk (below_step bB hb); have n5_ := Aside0.mk (hbox); have n6_ := Aside0.mk ((by rw [hg]; exact (below_size bB) : w.heap.size ≤ gb201)); have n7_ := Aside0.mk ((by rw [hg]; exact (below_size bB) : w.heap.size ≤ gb201)); have n8_ := Aside0.mk ((by rw [hg]; exact Nat.ne_of_lt (blk_lt (g := gb197) (o := .cells #[.int .u64 x198000_1, .int .u64 x198001_1] 45 (0, 0)) (kB BK197.out)) : gb197 ≠ gb201)); have n9_ := Aside0.mk ((by rw [hg]; exact Nat.ne_of_gt (blk_lt (g := gb197) (o := .cells #[.int .u64 x198000_1, .int .u64 x198001_1] 45 (0, 0)) (kB BK197.out)) : gb201 ≠ gb197)); have n10_ := Aside0.mk ((by rw [hg]; exact Nat.ne_of_lt (blk_lt (g := gb198) (o := .cells #[.slice none 0 0, .int .u64 0, .int .u64 0, .int .i64 0, .int .i64 0] 39 (0, 0)) (kB BK198.out)) : gb198 ≠ gb201)); have n11_ := Aside0.mk ((by rw [hg]; exact Nat.ne_of_gt (blk_lt (g := gb198) (o := .cells #[.slice none 0 0, .int .u64 0, .int .u64 0, .int .i64 0, .int .i64 0] 39 (0, 0)) (kB BK198.out)) : gb201 ≠ gb198)); have n12_ := Aside0.mk ((by rw [hg]; exact Nat.ne_of_lt (blk_lt (g := gb199) (o := .cells #[u200000, .int .u64 0, .int .u64 0, .int .i64 x200003_1, .int .i64 x200004_1] 39 (0, 0)) (kB BK199.out)) : gb199 ≠ gb201)); have n13_ := Aside0.mk ((by rw [hg]; exact Nat.ne_of_gt (blk_lt (g := gb199) (o := .cells #[u200000, .int .u64 0, .int .u64 0, .int .i64 x200003_1, .int .i64 x200004_1] 39 (0, 0)) (kB BK199.out)) : gb201 ≠ gb199)); clear HO_200000; clear BK197; clear BK198; clear BK199; clear HB; have HO_200000 := n0_; have BK197 := n1_; have BK198 := n2_; have BK199 := n3_; have HB := n4_; have BK201 := n5_; have GW201 := n6_; have GE201 := n7_; have NB197_201 := n8_; have NB201_197 := n9_; have NB198_201 := n10_; have NB201_198 := n11_; have NB199_201 := n12_; have NB201_199 := n13_; clear n0_ n1_ n2_ n3_ n4_ n5_ n6_ n7_ n8_ n9_ n10_ n11_ n12_ n13_; clear hb hbox hg; have hnb13 := NB201_197.out; have hnc13 := NB197_201.out; have hnb14 := NB201_198.out; have hnc14 := NB198_201.out; have hnb15 := NB201_199.out; have hnc15 := NB199_201.out; have hcz16_0 : w12.cell? ⟨gb201, 0, none⟩ = some (.int .u64 0) := (blk_cell BK201.out 0).trans rfl; have hcz16_1 : w12.cell? ⟨gb201, 1, none⟩ = some (.int .u64 0) := (blk_cell BK201.out 1).trans rfl; have hfz16_0 := blk_frozen BK201.out 0; have hfz16_1 := blk_frozen BK201.out 1; have hnb17 := NB197_198.out; have hnc17 := NB198_197.out; have hnb18 := NB197_199.out; have hnc18 := NB199_197.out; have hcz19_0 : w12.cell? ⟨gb197, 0, none⟩ = some (.int .u64 x198000_1) := (blk_cell BK197.out 0).trans rfl; have hcz19_1 : w12.cell? ⟨gb197, 1, none⟩ = some (.int .u64 x198001_1) := (blk_cell BK197.out 1).trans rfl; have hfz19_0 := blk_frozen BK197.out 0; have hfz19_1 := blk_frozen BK197.out 1))
        have n0_ : Aside0 (Kd.R k28 28 ((w12.setCell ⟨gb201, 0, none⟩ (.int .u64 ((rd_T45 l1 x12_1).f0))).setCell ⟨gb201, 1, none⟩ (.int .u64 ((rd_T45 l1 x12_1).f1))) w.heap.size (fun _ => True) u200000 x200000_1) := ⟨by (with_reducible repeat (first | apply Kd.R_alloc | apply Kd.R_drewN | apply Kd.R_drew)); exact Kd.R_mono (Kd.R_far (p := ⟨gb201, 1, none⟩) (Kd.R_far (p := ⟨gb201, 0, none⟩) (Kd.R_types HO_200000.out BK201.out (by decide)) (fun _ hk => hk.2) (.int .u64 ((rd_T45 l1 x12_1).f0))) (fun _ hk => hk.2) (.int .u64 ((rd_T45 l1 x12_1).f1))) (fun _ hk => trivial)⟩
        have n1_ : Aside0 (((w12.setCell ⟨gb201, 0, none⟩ (.int .u64 ((rd_T45 l1 x12_1).f0))).setCell ⟨gb201, 1, none⟩ (.int .u64 ((rd_T45 l1 x12_1).f1))).heap[gb197]? = some (.cells #[.int .u64 x198000_1, .int .u64 x198001_1] 45 (0, 0))) := ⟨by (with_reducible repeat (first | refine blk_drewN ?_ _ | refine blk_drew ?_ | refine blk_alloc ?_ _)); refine blk_far ?_ NB197_201.out _; (with_reducible repeat (first | refine blk_drewN ?_ _ | refine blk_drew ?_ | refine blk_alloc ?_ _)); refine blk_far ?_ NB197_201.out _; (with_reducible repeat (first | refine blk_drewN ?_ _ | refine blk_drew ?_ | refine blk_alloc ?_ _)); exact BK197.out⟩
        have n2_ : Aside0 (((w12.setCell ⟨gb201, 0, none⟩ (.int .u64 ((rd_T45 l1 x12_1).f0))).setCell ⟨gb201, 1, none⟩ (.int .u64 ((rd_T45 l1 x12_1).f1))).heap[gb198]? = some (.cells #[.slice none 0 0, .int .u64 0, .int .u64 0, .int .i64 0, .int .i64 0] 39 (0, 0))) := ⟨by (with_reducible repeat (first | refine blk_drewN ?_ _ | refine blk_drew ?_ | refine blk_alloc ?_ _)); refine blk_far ?_ NB198_201.out _; (with_reducible repeat (first | refine blk_drewN ?_ _ | refine blk_drew ?_ | refine blk_alloc ?_ _)); refine blk_far ?_ NB198_201.out _; (with_reducible repeat (first | refine blk_drewN ?_ _ | refine blk_drew ?_ | refine blk_alloc ?_ _)); exact BK198.out⟩
        have n3_ : Aside0 (((w12.setCell ⟨gb201, 0, none⟩ (.int .u64 ((rd_T45 l1 x12_1).f0))).setCell ⟨gb201, 1, none⟩ (.int .u64 ((rd_T45 l1 x12_1).f1))).heap[gb199]? = some (.cells #[u200000, .int .u64 0, .int .u64 0, .int .i64 x200003_1, .int .i64 x200004_1] 39 (0, 0))) := ⟨by (with_reducible repeat (first | refine blk_drewN ?_ _ | refine blk_drew ?_ | refine blk_alloc ?_ _)); refine blk_far ?_ NB199_201.out _; (with_reducible repeat (first | refine blk_drewN ?_ _ | refine blk_drew ?_ | refine blk_alloc ?_ _)); refine blk_far ?_ NB199_201.out _; (with_reducible repeat (first | refine blk_drewN ?_ _ | refine blk_drew ?_ | refine blk_alloc ?_ _)); exact BK199.out⟩
        have n4_ : Aside0 (((w12.setCell ⟨gb201, 0, none⟩ (.int .u64 ((rd_T45 l1 x12_1).f0))).setCell ⟨gb201, 1, none⟩ (.int .u64 ((rd_T45 l1 x12_1).f1))).heap[gb201]? = some (.cells #[.int .u64 ((rd_T45 l1 x12_1).f0), .int .u64 ((rd_T45 l1 x12_1).f1)] 45 (0, 0))) := ⟨by (with_reducible repeat (first | refine blk_drewN ?_ _ | refine blk_drew ?_ | refine blk_alloc ?_ _)); refine blk_put (cs := #[.int .u64 ((rd_T45 l1 x12_1).f0), .int .u64 0]) ?_ 1 _ rfl; (with_reducible repeat (first | refine blk_drewN ?_ _ | refine blk_drew ?_ | refine blk_alloc ?_ _)); refine blk_put (cs := #[.int .u64 0, .int .u64 0]) ?_ 0 _ rfl; (with_reducible repeat (first | refine blk_drewN ?_ _ | refine blk_drew ?_ | refine blk_alloc ?_ _)); exact BK201.out⟩
        have n5_ : Aside0 (Below w.heap.size w ((w12.setCell ⟨gb201, 0, none⟩ (.int .u64 ((rd_T45 l1 x12_1).f0))).setCell ⟨gb201, 1, none⟩ (.int .u64 ((rd_T45 l1 x12_1).f1)))) := ⟨bB⟩
        (try clear HO_200000)
        (try clear BK197)
        (try clear BK198)
        (try clear BK199)
        (try clear BK201)
        (try clear HB)
        generalize ((w12.setCell ⟨gb201, 0, none⟩ (.int .u64 ((rd_T45 l1 x12_1).f0))).setCell ⟨gb201, 1, none⟩ (.int .u64 ((rd_T45 l1 x12_1).f1))) = w20 at n0_ n1_ n2_ n3_ n4_ n5_ ⊢
        have HO_200000 := n0_
        have BK197 := n1_
        have BK198 := n2_
        have BK199 := n3_
        have BK201 := n4_
        have HB := n5_
        clear n0_ n1_ n2_ n3_ n4_ n5_
        have n0_ := Aside0.mk (Kd.R_drew HO_200000.out)
        have n1_ := Aside0.mk (blk_drew BK197.out)
        have n2_ := Aside0.mk (blk_drew BK198.out)
        have n3_ := Aside0.mk (blk_drew BK199.out)
        have n4_ := Aside0.mk (blk_drew BK201.out)
        have n5_ := Aside0.mk (below_drew1 HB.out)
        clear HO_200000
        clear BK197
        clear BK198
        clear BK199
        clear BK201
        clear HB
        have HO_200000 := n0_
        have BK197 := n1_
        have BK198 := n2_
        have BK199 := n3_
        have BK201 := n4_
        have HB := n5_
        clear n0_ n1_ n2_ n3_ n4_ n5_
        refine start_ (n := 8) (S := fun w' => w'.cell? ⟨gb199, 0, none⟩ = some (u200000) ∧ w'.cell? ⟨gb199, 1, none⟩ = some (.int .u64 0) ∧ w'.cell? ⟨gb199, 2, none⟩ = some (.int .u64 0) ∧ w'.cell? ⟨gb199, 3, none⟩ = some (.int .i64 x200003_1) ∧ w'.cell? ⟨gb199, 4, none⟩ = some (.int .i64 x200004_1) ∧ w'.cell? ⟨gb201, 0, none⟩ = some (.int .u64 ((rd_T45 l1 x12_1).f0)) ∧ w'.cell? ⟨gb201, 1, none⟩ = some (.int .u64 ((rd_T45 l1 x12_1).f1))) (ds := [7]) #[false, false, false, false, false, false, false, false] (by kernel_rfl) rfl rfl ⟨(blk_cell BK199.out 0).trans rfl, (blk_cell BK199.out 1).trans rfl, (blk_cell BK199.out 2).trans rfl, (blk_cell BK199.out 3).trans rfl, (blk_cell BK199.out 4).trans rfl, (blk_cell BK201.out 0).trans rfl, (blk_cell BK201.out 1).trans rfl⟩ (fun hHeld => ?_); refine with_tabW spec_proofOf.tab6 spec_proofOf.bits6 (fun HT_ HW_ => ?_)
        generalize w20.drew = w21 at HO_200000 BK197 BK198 BK199 BK201 HB hHeld ⊢
        refine pure_ (i := 0) (N := some 21) (v := ?_) (a' := ?_) #[true, false, false, false, false, false, false, false] rfl rfl (any_of HT_.out (by kernel_rfl)) (fun _ _ _ h => h) (Or.inl ⟨by rfl, ?_⟩) ?_ ?_
        rotate_left
        ·intro w'
         go_simp
         with_reducible rfl
        rotate_left
        ·simp only [Act.put, List.setIfInBounds_toArray, List.set_cons_zero, List.set_cons_succ, i64_w, i32_w]
         rfl
        refine take_ (i := 1) (N := some 22) (v := ?_) (a' := ?_) #[true, true, false, false, false, false, false, false] rfl rfl (take_ofW HT_.out HW_.out (by kernel_rfl)) (fun _ _ _ h => h) (Or.inl ⟨by rfl, ?_⟩) hHeld ?_ ?_
        rotate_left
        ·rintro w' ⟨s0, s1, s2, s3, s4, s5, s6⟩
         go_simp
         with_reducible rfl
        rotate_left
        ·simp only [Act.put, List.setIfInBounds_toArray, List.set_cons_zero, List.set_cons_succ, i64_w, i32_w]
         rfl
        refine take_ (i := 2) (N := some 23) (v := ?_) (a' := ?_) #[true, true, true, false, false, false, false, false] rfl rfl (take_ofW HT_.out HW_.out (by kernel_rfl)) (fun _ _ _ h => h) (Or.inl ⟨by rfl, ?_⟩) hHeld ?_ ?_
        rotate_left
        ·rintro w' ⟨s0, s1, s2, s3, s4, s5, s6⟩
         go_simp
         with_reducible rfl
        rotate_left
        ·simp only [Act.put, List.setIfInBounds_toArray, List.set_cons_zero, List.set_cons_succ, i64_w, i32_w]
         rfl
        refine one_ (i := 3) (N := some 24) #[true, true, true, true, false, false, false, false] rfl rfl (one_of HT_.out (by kernel_rfl)) (by decide) (fun K hK => ?_)
        refine goes_ Tryd.func42 (by kernel_rfl) rfl #[.agg #[.int .u64 ((rd_T45 l1 x12_1).f0), .int .u64 ((rd_T45 l1 x12_1).f1)]] (by rfl) rfl rfl aV ?_
        with_reducible refine (spec_NodeOf.calls k1 ((rd_T45 l1 x12_1).f0) ((rd_T45 l1 x12_1).f1) t202 t203 _ A10.out).mono ?_
        rintro e w22 ⟨rfl, hb⟩
        refine ⟨_, rfl, ?_⟩
        have n0_ := Aside0.mk (Kd.R_below (kR HO_200000.out) hb)
        have n1_ := Aside0.mk (blk_below (g := gb197) (o := .cells #[.int .u64 x198000_1, .int .u64 x198001_1] 45 (0, 0)) (kB BK197.out) hb)
        have n2_ := Aside0.mk (blk_below (g := gb198) (o := .cells #[.slice none 0 0, .int .u64 0, .int .u64 0, .int .i64 0, .int .i64 0] 39 (0, 0)) (kB BK198.out) hb)
        have n3_ := Aside0.mk (blk_below (g := gb199) (o := .cells #[u200000, .int .u64 0, .int .u64 0, .int .i64 x200003_1, .int .i64 x200004_1] 39 (0, 0)) (kB BK199.out) hb)
        have n4_ := Aside0.mk (blk_below (g := gb201) (o := .cells #[.int .u64 ((rd_T45 l1 x12_1).f0), .int .u64 ((rd_T45 l1 x12_1).f1)] 45 (0, 0)) (kB BK201.out) hb)
        have n5_ := Aside0.mk (below_step bB hb)
        clear HO_200000
        clear BK197
        clear BK198
        clear BK199
        clear BK201
        clear HB
        have HO_200000 := n0_
        have BK197 := n1_
        have BK198 := n2_
        have BK199 := n3_
        have BK201 := n4_
        have HB := n5_
        clear n0_ n1_ n2_ n3_ n4_ n5_
        (try clear hb)
        (try clear hb2)
        (try clear hk)
        (try clear hi)
        refine hK.out _ _ ⟨(blk_cell BK199.out 0).trans rfl, (blk_cell BK199.out 1).trans rfl, (blk_cell BK199.out 2).trans rfl, (blk_cell BK199.out 3).trans rfl, (blk_cell BK199.out 4).trans rfl, (blk_cell BK201.out 0).trans rfl, (blk_cell BK201.out 1).trans rfl⟩ (fun hHeld => ?_)
        clear hK K
        refine norm_ (a' := ?_) ?_ ?_
        rotate_left
        ·show Act.put _ (some 24) _ = _
         simp only [Act.put, List.setIfInBounds_toArray, List.set_cons_zero, List.set_cons_succ, i64_w, i32_w]
         rfl
        refine one_ (i := 4) (N := some 25) #[true, true, true, true, true, false, false, false] rfl rfl (one_of HT_.out (by kernel_rfl)) (by decide) (fun K hK => ?_)
        refine value_ (w1 := ?_) (v := ?_) (by rfl) rfl ?_ ?_
        rotate_left 2
        ·go_simp
         constructor
         ·rfl
         ·rfl
        refine hK.out _ _ ⟨(blk_cell (blk_alloc BK199.out _) 0).trans rfl, (blk_cell (blk_alloc BK199.out _) 1).trans rfl, (blk_cell (blk_alloc BK199.out _) 2).trans rfl, (blk_cell (blk_alloc BK199.out _) 3).trans rfl, (blk_cell (blk_alloc BK199.out _) 4).trans rfl, (blk_cell (blk_alloc BK201.out _) 0).trans rfl, (blk_cell (blk_alloc BK201.out _) 1).trans rfl⟩ (fun hHeld => ?_)
        clear hK K
        refine norm_ (a' := ?_) ?_ ?_
        rotate_left
        ·show Act.put _ (some 25) _ = _
         simp only [Act.put, List.setIfInBounds_toArray, List.set_cons_zero, List.set_cons_succ, i64_w, i32_w]
         rfl
        refine one_ (i := 5) (N := some 26) #[true, true, true, true, true, true, false, false] rfl rfl (one_of HT_.out (by kernel_rfl)) (by decide) (fun K hK => ?_)
        refine Kd.R_append_step k28 (w0 := w) w.heap.size (by rfl) (.tmp 22) (.tmp 25) 24 28 (.agg #[(.int .u64 0), (.int .u64 0)]) 16 rfl Tryd.underlying24 info28 rfl (by decide) (by omega) u200000 x200000_1 (⟨t202, t203⟩ : S28) [.int .u64 t202, .int .u64 t203] (fun _ => True) (fun _ => False) rfl rfl ?aP (fun _ hk => hk.elim) ?aF ?aO ?aB ?aS ?aL ?_
        (case aP => exact k28_mkM _ _ _ (⟨t202, t203⟩ : S28))
        (case aB => exact bB)
        (case aF => exact (fun _ _ => trivial))
        (case aO => exact (kR HO_200000.out))
        (case aS => exact (below_size bB))
        (case aL => have := LMc11.out; omega)
        intro v205 w23 ho hb hg hat
        rw [← Ny204.out] at ho
        have n0_ := Aside0.mk (blk_grown (g := gb197) (o := .cells #[.int .u64 x198000_1, .int .u64 x198001_1] 45 (0, 0)) (kB BK197.out) hg (Kd.R_ne HO_200000.out BK197.out (by decide)))
        have n1_ := Aside0.mk (blk_grown (g := gb198) (o := .cells #[.slice none 0 0, .int .u64 0, .int .u64 0, .int .i64 0, .int .i64 0] 39 (0, 0)) (kB BK198.out) hg (Kd.R_ne HO_200000.out BK198.out (by decide)))
        have n2_ := Aside0.mk (blk_grown (g := gb199) (o := .cells #[u200000, .int .u64 0, .int .u64 0, .int .i64 x200003_1, .int .i64 x200004_1] 39 (0, 0)) (kB BK199.out) hg (Kd.R_ne HO_200000.out BK199.out (by decide)))
        have n3_ := Aside0.mk (blk_grown (g := gb201) (o := .cells #[.int .u64 ((rd_T45 l1 x12_1).f0), .int .u64 ((rd_T45 l1 x12_1).f1)] 45 (0, 0)) (kB BK201.out) hg (Kd.R_ne HO_200000.out BK201.out (by decide)))
        have n4_ := Aside0.mk (hb)
        have n5_ := Aside0.mk (ho)
        clear BK197
        clear BK198
        clear BK199
        clear BK201
        clear HB
        clear HO_200000
        have BK197 := n0_
        have BK198 := n1_
        have BK199 := n2_
        have BK201 := n3_
        have HB := n4_
        have HO206 := n5_
        clear n0_ n1_ n2_ n3_ n4_ n5_
        clear ho hb hg hat
        obtain ⟨Ao24, co24, eo24⟩ := Kd.R_slice HO206.out
        (first | subst eo24 | (injection eo24 with f1_ f2_ f3_; have f4_ := f1_.symm; have f5_ := f3_.symm; clear f1_ f2_ f3_; subst f4_; subst f5_))
        refine hK.out _ _ ⟨(blk_cell BK199.out 0).trans rfl, (blk_cell BK199.out 1).trans rfl, (blk_cell BK199.out 2).trans rfl, (blk_cell BK199.out 3).trans rfl, (blk_cell BK199.out 4).trans rfl, (blk_cell BK201.out 0).trans rfl, (blk_cell BK201.out 1).trans rfl⟩ (fun hHeld => ?_)
        clear hK K
        refine norm_ (a' := ?_) ?_ ?_
        rotate_left
        ·show Act.put _ (some 26) _ = _
         simp only [Act.put, List.setIfInBounds_toArray, List.set_cons_zero, List.set_cons_succ, i64_w, i32_w]
         rfl
        refine pure_ (i := 6) (N := some 27) (v := ?_) (a' := ?_) #[true, true, true, true, true, true, true, false] rfl rfl (any_of HT_.out (by kernel_rfl)) (fun _ _ _ h => h) (Or.inl ⟨by rfl, ?_⟩) ?_ ?_
        rotate_left
        ·intro w'
         go_simp
         with_reducible rfl
        rotate_left
        ·simp only [Act.put, List.setIfInBounds_toArray, List.set_cons_zero, List.set_cons_succ, i64_w, i32_w]
         rfl
        refine last_ (i := 7) (N := none) #[true, true, true, true, true, true, true, true] rfl rfl (one_of HT_.out (by kernel_rfl)) (by decide) (fun K hK => ?_)
        have hs25 : w23.cell? ⟨gb199, 0, none⟩ = some (u200000) := (blk_cell BK199.out 0).trans rfl
        have hfs25 := blk_frozen BK199.out 0
        have hns25_0 := NB197_199.out
        have hns25_1 := NB198_199.out
        have hns25_3 := NB201_199.out
        have hms25_0 := NB199_197.out
        have hms25_1 := NB199_198.out
        have hms25_3 := NB199_201.out
        refine skip_ (w1 := ?_) (by rfl) rfl ?_ ?_
        rotate_left
        ·go_simp
         rfl
        refine hK.out _ _ ?_
        clear hK K
        refine done_ (done_of HT_.out (by kernel_rfl)) ?_
        have hcz26_0 : w23.cell? ⟨gb201, 0, none⟩ = some (.int .u64 ((rd_T45 l1 x12_1).f0)) := (blk_cell BK201.out 0).trans rfl
        have hcz26_1 : w23.cell? ⟨gb201, 1, none⟩ = some (.int .u64 ((rd_T45 l1 x12_1).f1)) := (blk_cell BK201.out 1).trans rfl
        have hfz26_0 := blk_frozen BK201.out 0
        have hfz26_1 := blk_frozen BK201.out 1
        have hcz27_0 : w23.cell? ⟨gb197, 0, none⟩ = some (.int .u64 x198000_1) := (blk_cell BK197.out 0).trans rfl
        have hcz27_1 : w23.cell? ⟨gb197, 1, none⟩ = some (.int .u64 x198001_1) := (blk_cell BK197.out 1).trans rfl
        have hfz27_0 := blk_frozen BK197.out 0
        have hfz27_1 := blk_frozen BK197.out 1
        try go_wp2
        go_roundg k1
        case measure => have := HK1.out; omega
        case rel => exact ⟨(wrap64 (x12_1 + 1)), ((rd_T45 l1 x12_1).f0), (x198001_1), (y204), (x200003_1), (x200004_1), (.slice Ao24 y204.length co24), (by first | rfl | (simp; done) | (simp [*]; done)), H', ⟨by have := HK1.out; omega⟩, ⟨by (with_reducible repeat (first | apply Kd.R_alloc | apply Kd.R_drewN | apply Kd.R_drew)); exact Kd.R_mono (Kd.R_far (p := ⟨gb197, 0, none⟩) (Kd.R_far (p := ⟨gb199, 0, none⟩) (Kd.R_types (Kd.R_types HO206.out BK199.out (by decide)) BK197.out (by decide)) (fun _ hk => hk.1.2) (.slice Ao24 y204.length co24)) (fun _ hk => hk.2) (.int .u64 ((rd_T45 l1 x12_1).f0))) (fun _ hk => trivial)⟩, ⟨by (with_reducible repeat (first | refine blk_drewN ?_ _ | refine blk_drew ?_ | refine blk_alloc ?_ _)); refine blk_put (cs := #[.int .u64 x198000_1, .int .u64 x198001_1]) ?_ 0 _ rfl; (with_reducible repeat (first | refine blk_drewN ?_ _ | refine blk_drew ?_ | refine blk_alloc ?_ _)); refine blk_far ?_ NB197_199.out _; (with_reducible repeat (first | refine blk_drewN ?_ _ | refine blk_drew ?_ | refine blk_alloc ?_ _)); exact BK197.out⟩, ⟨by (with_reducible repeat (first | refine blk_drewN ?_ _ | refine blk_drew ?_ | refine blk_alloc ?_ _)); refine blk_far ?_ NB198_197.out _; (with_reducible repeat (first | refine blk_drewN ?_ _ | refine blk_drew ?_ | refine blk_alloc ?_ _)); refine blk_far ?_ NB198_199.out _; (with_reducible repeat (first | refine blk_drewN ?_ _ | refine blk_drew ?_ | refine blk_alloc ?_ _)); exact BK198.out⟩, ⟨by (with_reducible repeat (first | refine blk_drewN ?_ _ | refine blk_drew ?_ | refine blk_alloc ?_ _)); refine blk_far ?_ NB199_197.out _; (with_reducible repeat (first | refine blk_drewN ?_ _ | refine blk_drew ?_ | refine blk_alloc ?_ _)); refine blk_put (cs := #[u200000, .int .u64 0, .int .u64 0, .int .i64 x200003_1, .int .i64 x200004_1]) ?_ 0 _ rfl; (with_reducible repeat (first | refine blk_drewN ?_ _ | refine blk_drew ?_ | refine blk_alloc ?_ _)); exact BK199.out⟩, ⟨bB⟩⟩
       ·rw [if_neg c11] at H
        exact absurd H (by simp)
      ·rw [if_neg c9] at H
       have c9b0 : (((rd_T45 l1 x12_1).f1) == x198000_1) = false := beq_eq_false_iff_ne.mpr c9
       have c9b1 : (((rd_T45 l1 x12_1).f1) != x198000_1) = true := bne_iff_ne.mpr c9
       by_cases c28 : (IntKind.u64.wrap (((rd_T45 l1 x12_1).f1) - ((rd_T45 l1 x12_1).f0))) = (IntKind.u64.wrap (x198001_1 - x198000_1))
       ·rw [if_pos c28] at H
        have c28b0 : ((IntKind.u64.wrap (((rd_T45 l1 x12_1).f1) - ((rd_T45 l1 x12_1).f0))) == (IntKind.u64.wrap (x198001_1 - x198000_1))) = true := beq_iff_eq.mpr c28
        have c28b1 : ((IntKind.u64.wrap (((rd_T45 l1 x12_1).f1) - ((rd_T45 l1 x12_1).f0))) != (IntKind.u64.wrap (x198001_1 - x198000_1))) = false := bne_eq_false_iff_eq.mpr c28
        clear c28
        replace H := Option.bind_eq_some_iff.mp H
        obtain ⟨⟨t207, t208⟩, A290, H⟩ := H
        replace H : (if x200000_1.length < 8796093022208 then (spec_proofOf.l0 k1 l1 (l1.length : Int) (wrap64 (x12_1 + 1)) x198000_1 ((rd_T45 l1 x12_1).f1) (x200000_1 ++ [(⟨t207, t208⟩ : S28)]) 0 0 x200003_1 x200004_1) else (none)) = some (r1, r2, r3, r4, r5) := H
        have A29 := Aside0.mk A290
        clear A290
        by_cases c30 : x200000_1.length < 8796093022208
        ·rw [if_pos c30] at H
         have LMc30 := Aside0.mk c30
         clear c30
         obtain ⟨y209, hy209⟩ : ∃ y_ : List (S28), y_ = (x200000_1 ++ [(⟨t207, t208⟩ : S28)]) := ⟨_, rfl⟩
         replace H : (spec_proofOf.l0 k1 l1 (l1.length : Int) (wrap64 (x12_1 + 1)) x198000_1 ((rd_T45 l1 x12_1).f1) y209 0 0 x200003_1 x200004_1) = some (r1, r2, r3, r4, r5) := by first | (rw [hy209]; with_reducible exact H) | (have H2_ := (Option.bind_some _ _).symm.trans H; rw [hy209]; with_reducible exact H2_) | (have H2_ := (Option.bind_some _ _).symm.trans H; with_reducible exact H2_) | with_reducible exact H | (rw [hy209]; exact H) | exact H
         have Ny209 := Aside0.mk hy209
         clear hy209
         have H' := Aside0.mk H
         clear H
         have p200 : 0 ≤ (x12_1 : Int) := dA
         have q200 : x12_1 < (l1.length : Int) := dA
         obtain ⟨ad200, e200, hx200_0, hx200_1⟩ := at_T45 HR1.out x12_1 p200 q200
         cases e200
         replace hx200_0 := (HB.out.cell (World.block_lt_of_cell? w _ hx200_0)).trans hx200_0
         replace hx200_1 := (HB.out.cell (World.block_lt_of_cell? w _ hx200_1)).trans hx200_1
         replace p200 := eq_true p200
         replace q200 := eq_true q200
         try go_wp2_with (first | ((with_reducible refine gate_dst (N := 7) rfl ?_); refine box_event ?hg (N := 7) ?hd (cs := #[.int .u64 0, .int .u64 0]) (t := 45) ?hr ?_; (case hd => rfl); (case hg => rfl); (case hr => first | (go_simp; done) | (go_simp; rfl)); intro gb201 hg w31 hbox hb; have n0_ := Aside0.mk (Kd.R_below (kR HO_200000.out) hb); have n1_ := Aside0.mk (blk_below (g := gb197) (o := .cells #[.int .u64 x198000_1, .int .u64 x198001_1] 45 (0, 0)) (kB BK197.out) hb); have n2_ := Aside0.mk (blk_below (g := gb198) (o := .cells #[.slice none 0 0, .int .u64 0, .int .u64 0, .int .i64 0, .int .i64 0] 39 (0, 0)) (kB BK198.out) hb); have n3_ := Aside0.mk (blk_below (g := gb199) (o := .cells #[u200000, .int .u64 0, .int .u64 0, .int .i64 x200003_1, .int .i64 x200004_1] 39 (0, 0)) (kB BK199.out) hb); have n4_ := Aside0.mk (below_step bB hb); have n5_ := Aside0.mk (hbox); have n6_ := Aside0.mk ((by rw [hg]; exact (below_size bB) : w.heap.size ≤ gb201)); have n7_ := Aside0.mk ((by rw [hg]; exact (below_size bB) : w.heap.size ≤ gb201)); have n8_ := Aside0.mk ((by rw [hg]; exact Nat.ne_of_lt (blk_lt (g := gb197) (o := .cells #[.int .u64 x198000_1, .int .u64 x198001_1] 45 (0, 0)) (kB BK197.out)) : gb197 ≠ gb201)); have n9_ := Aside0.mk ((by rw [hg]; exact Nat.ne_of_gt (blk_lt (g := gb197) (o := .cells #[.int .u64 x198000_1, .int .u64 x198001_1] 45 (0, 0)) (kB BK197.out)) : gb201 ≠ gb197)); have n10_ := Aside0.mk ((by rw [hg]; exact Nat.ne_of_lt (blk_lt (g := gb198) (o := .cells #[.slice none 0 0, .int .u64 0, .int .u64 0, .int .i64 0, .int .i64 0] 39 (0, 0)) (kB BK198.out)) : gb198 ≠ gb201)); have n11_ := Aside0.mk ((by rw [hg]; exact Nat.ne_of_gt (blk_lt (g := gb198) (o := .cells #[.slice none 0 0, .int .u64 0, .int .u64 0, .int .i64 0, .int .i64 0] 39 (0, 0)) (kB BK198.out)) : gb201 ≠ gb198)); have n12_ := Aside0.mk ((by rw [hg]; exact Nat.ne_of_lt (blk_lt (g := gb199) (o := .cells #[u200000, .int .u64 0, .int .u64 0, .int .i64 x200003_1, .int .i64 x200004_1] 39 (0, 0)) (kB BK199.out)) : gb199 ≠ gb201)); have n13_ := Aside0.mk ((by rw [hg]; exact Nat.ne_of_gt (blk_lt (g := gb199) (o := .cells #[u200000, .int .u64 0, .int .u64 0, .int .i64 x200003_1, .int .i64 x200004_1] 39 (0, 0)) (kB BK199.out)) : gb201 ≠ gb199)); clear HO_200000; clear BK197; clear BK198; clear BK199; clear HB; have HO_200000 := n0_; have BK197 := n1_; have BK198 := n2_; have BK199 := n3_; have HB := n4_; have BK201 := n5_; have GW201 := n6_; have GE201 := n7_; have NB197_201 := n8_; have NB201_197 := n9_; have NB198_201 := n10_; have NB201_198 := n11_; have NB199_201 := n12_; have NB201_199 := n13_; clear n0_ n1_ n2_ n3_ n4_ n5_ n6_ n7_ n8_ n9_ n10_ n11_ n12_ n13_; clear hb hbox hg; have hnb32 := NB201_197.out; have hnc32 := NB197_201.out; have hnb33 := NB201_198.out; have hnc33 := NB198_201.out; have hnb34 := NB201_199.out; have hnc34 := NB199_201.out; have hcz35_0 : w31.cell? ⟨gb201, 0, none⟩ = some (.int .u64 0) := (blk_cell BK201.out 0).trans rfl; have hcz35_1 : w31.cell? ⟨gb201, 1, none⟩ = some (.int .u64 0) := (blk_cell BK201.out 1).trans rfl; have hfz35_0 := blk_frozen BK201.out 0; have hfz35_1 := blk_frozen BK201.out 1; have hnb36 := NB197_198.out; have hnc36 := NB198_197.out; have hnb37 := NB197_199.out; have hnc37 := NB199_197.out; have hcz38_0 : w31.cell? ⟨gb197, 0, none⟩ = some (.int .u64 x198000_1) := (blk_cell BK197.out 0).trans rfl; have hcz38_1 : w31.cell? ⟨gb197, 1, none⟩ = some (.int .u64 x198001_1) := (blk_cell BK197.out 1).trans rfl; have hfz38_0 := blk_frozen BK197.out 0; have hfz38_1 := blk_frozen BK197.out 1))
         have n0_ : Aside0 (Kd.R k28 28 ((w31.setCell ⟨gb201, 0, none⟩ (.int .u64 ((rd_T45 l1 x12_1).f0))).setCell ⟨gb201, 1, none⟩ (.int .u64 ((rd_T45 l1 x12_1).f1))) w.heap.size (fun _ => True) u200000 x200000_1) := ⟨by (with_reducible repeat (first | apply Kd.R_alloc | apply Kd.R_drewN | apply Kd.R_drew)); exact Kd.R_mono (Kd.R_far (p := ⟨gb201, 1, none⟩) (Kd.R_far (p := ⟨gb201, 0, none⟩) (Kd.R_types HO_200000.out BK201.out (by decide)) (fun _ hk => hk.2) (.int .u64 ((rd_T45 l1 x12_1).f0))) (fun _ hk => hk.2) (.int .u64 ((rd_T45 l1 x12_1).f1))) (fun _ hk => trivial)⟩
         have n1_ : Aside0 (((w31.setCell ⟨gb201, 0, none⟩ (.int .u64 ((rd_T45 l1 x12_1).f0))).setCell ⟨gb201, 1, none⟩ (.int .u64 ((rd_T45 l1 x12_1).f1))).heap[gb197]? = some (.cells #[.int .u64 x198000_1, .int .u64 x198001_1] 45 (0, 0))) := ⟨by (with_reducible repeat (first | refine blk_drewN ?_ _ | refine blk_drew ?_ | refine blk_alloc ?_ _)); refine blk_far ?_ NB197_201.out _; (with_reducible repeat (first | refine blk_drewN ?_ _ | refine blk_drew ?_ | refine blk_alloc ?_ _)); refine blk_far ?_ NB197_201.out _; (with_reducible repeat (first | refine blk_drewN ?_ _ | refine blk_drew ?_ | refine blk_alloc ?_ _)); exact BK197.out⟩
         have n2_ : Aside0 (((w31.setCell ⟨gb201, 0, none⟩ (.int .u64 ((rd_T45 l1 x12_1).f0))).setCell ⟨gb201, 1, none⟩ (.int .u64 ((rd_T45 l1 x12_1).f1))).heap[gb198]? = some (.cells #[.slice none 0 0, .int .u64 0, .int .u64 0, .int .i64 0, .int .i64 0] 39 (0, 0))) := ⟨by (with_reducible repeat (first | refine blk_drewN ?_ _ | refine blk_drew ?_ | refine blk_alloc ?_ _)); refine blk_far ?_ NB198_201.out _; (with_reducible repeat (first | refine blk_drewN ?_ _ | refine blk_drew ?_ | refine blk_alloc ?_ _)); refine blk_far ?_ NB198_201.out _; (with_reducible repeat (first | refine blk_drewN ?_ _ | refine blk_drew ?_ | refine blk_alloc ?_ _)); exact BK198.out⟩
         have n3_ : Aside0 (((w31.setCell ⟨gb201, 0, none⟩ (.int .u64 ((rd_T45 l1 x12_1).f0))).setCell ⟨gb201, 1, none⟩ (.int .u64 ((rd_T45 l1 x12_1).f1))).heap[gb199]? = some (.cells #[u200000, .int .u64 0, .int .u64 0, .int .i64 x200003_1, .int .i64 x200004_1] 39 (0, 0))) := ⟨by (with_reducible repeat (first | refine blk_drewN ?_ _ | refine blk_drew ?_ | refine blk_alloc ?_ _)); refine blk_far ?_ NB199_201.out _; (with_reducible repeat (first | refine blk_drewN ?_ _ | refine blk_drew ?_ | refine blk_alloc ?_ _)); refine blk_far ?_ NB199_201.out _; (with_reducible repeat (first | refine blk_drewN ?_ _ | refine blk_drew ?_ | refine blk_alloc ?_ _)); exact BK199.out⟩
         have n4_ : Aside0 (((w31.setCell ⟨gb201, 0, none⟩ (.int .u64 ((rd_T45 l1 x12_1).f0))).setCell ⟨gb201, 1, none⟩ (.int .u64 ((rd_T45 l1 x12_1).f1))).heap[gb201]? = some (.cells #[.int .u64 ((rd_T45 l1 x12_1).f0), .int .u64 ((rd_T45 l1 x12_1).f1)] 45 (0, 0))) := ⟨by (with_reducible repeat (first | refine blk_drewN ?_ _ | refine blk_drew ?_ | refine blk_alloc ?_ _)); refine blk_put (cs := #[.int .u64 ((rd_T45 l1 x12_1).f0), .int .u64 0]) ?_ 1 _ rfl; (with_reducible repeat (first | refine blk_drewN ?_ _ | refine blk_drew ?_ | refine blk_alloc ?_ _)); refine blk_put (cs := #[.int .u64 0, .int .u64 0]) ?_ 0 _ rfl; (with_reducible repeat (first | refine blk_drewN ?_ _ | refine blk_drew ?_ | refine blk_alloc ?_ _)); exact BK201.out⟩
         have n5_ : Aside0 (Below w.heap.size w ((w31.setCell ⟨gb201, 0, none⟩ (.int .u64 ((rd_T45 l1 x12_1).f0))).setCell ⟨gb201, 1, none⟩ (.int .u64 ((rd_T45 l1 x12_1).f1)))) := ⟨bB⟩
         (try clear HO_200000)
         (try clear BK197)
         (try clear BK198)
         (try clear BK199)
         (try clear BK201)
         (try clear HB)
         generalize ((w31.setCell ⟨gb201, 0, none⟩ (.int .u64 ((rd_T45 l1 x12_1).f0))).setCell ⟨gb201, 1, none⟩ (.int .u64 ((rd_T45 l1 x12_1).f1))) = w39 at n0_ n1_ n2_ n3_ n4_ n5_ ⊢
         have HO_200000 := n0_
         have BK197 := n1_
         have BK198 := n2_
         have BK199 := n3_
         have BK201 := n4_
         have HB := n5_
         clear n0_ n1_ n2_ n3_ n4_ n5_
         have n0_ := Aside0.mk (Kd.R_drew HO_200000.out)
         have n1_ := Aside0.mk (blk_drew BK197.out)
         have n2_ := Aside0.mk (blk_drew BK198.out)
         have n3_ := Aside0.mk (blk_drew BK199.out)
         have n4_ := Aside0.mk (blk_drew BK201.out)
         have n5_ := Aside0.mk (below_drew1 HB.out)
         clear HO_200000
         clear BK197
         clear BK198
         clear BK199
         clear BK201
         clear HB
         have HO_200000 := n0_
         have BK197 := n1_
         have BK198 := n2_
         have BK199 := n3_
         have BK201 := n4_
         have HB := n5_
         clear n0_ n1_ n2_ n3_ n4_ n5_
         refine start_ (n := 8) (S := fun w' => w'.cell? ⟨gb199, 0, none⟩ = some (u200000) ∧ w'.cell? ⟨gb199, 1, none⟩ = some (.int .u64 0) ∧ w'.cell? ⟨gb199, 2, none⟩ = some (.int .u64 0) ∧ w'.cell? ⟨gb199, 3, none⟩ = some (.int .i64 x200003_1) ∧ w'.cell? ⟨gb199, 4, none⟩ = some (.int .i64 x200004_1) ∧ w'.cell? ⟨gb201, 0, none⟩ = some (.int .u64 ((rd_T45 l1 x12_1).f0)) ∧ w'.cell? ⟨gb201, 1, none⟩ = some (.int .u64 ((rd_T45 l1 x12_1).f1))) (ds := [7]) #[false, false, false, false, false, false, false, false] (by kernel_rfl) rfl rfl ⟨(blk_cell BK199.out 0).trans rfl, (blk_cell BK199.out 1).trans rfl, (blk_cell BK199.out 2).trans rfl, (blk_cell BK199.out 3).trans rfl, (blk_cell BK199.out 4).trans rfl, (blk_cell BK201.out 0).trans rfl, (blk_cell BK201.out 1).trans rfl⟩ (fun hHeld => ?_); refine with_tabW spec_proofOf.tab9 spec_proofOf.bits9 (fun HT_ HW_ => ?_)
         generalize w39.drew = w40 at HO_200000 BK197 BK198 BK199 BK201 HB hHeld ⊢
         refine pure_ (i := 0) (N := some 42) (v := ?_) (a' := ?_) #[true, false, false, false, false, false, false, false] rfl rfl (any_of HT_.out (by kernel_rfl)) (fun _ _ _ h => h) (Or.inl ⟨by rfl, ?_⟩) ?_ ?_
         rotate_left
         ·intro w'
          go_simp
          with_reducible rfl
         rotate_left
         ·simp only [Act.put, List.setIfInBounds_toArray, List.set_cons_zero, List.set_cons_succ, i64_w, i32_w]
          rfl
         refine take_ (i := 1) (N := some 43) (v := ?_) (a' := ?_) #[true, true, false, false, false, false, false, false] rfl rfl (take_ofW HT_.out HW_.out (by kernel_rfl)) (fun _ _ _ h => h) (Or.inl ⟨by rfl, ?_⟩) hHeld ?_ ?_
         rotate_left
         ·rintro w' ⟨s0, s1, s2, s3, s4, s5, s6⟩
          go_simp
          with_reducible rfl
         rotate_left
         ·simp only [Act.put, List.setIfInBounds_toArray, List.set_cons_zero, List.set_cons_succ, i64_w, i32_w]
          rfl
         refine take_ (i := 2) (N := some 44) (v := ?_) (a' := ?_) #[true, true, true, false, false, false, false, false] rfl rfl (take_ofW HT_.out HW_.out (by kernel_rfl)) (fun _ _ _ h => h) (Or.inl ⟨by rfl, ?_⟩) hHeld ?_ ?_
         rotate_left
         ·rintro w' ⟨s0, s1, s2, s3, s4, s5, s6⟩
          go_simp
          with_reducible rfl
         rotate_left
         ·simp only [Act.put, List.setIfInBounds_toArray, List.set_cons_zero, List.set_cons_succ, i64_w, i32_w]
          rfl
         refine one_ (i := 3) (N := some 45) #[true, true, true, true, false, false, false, false] rfl rfl (one_of HT_.out (by kernel_rfl)) (by decide) (fun K hK => ?_)
         refine goes_ Tryd.func42 (by kernel_rfl) rfl #[.agg #[.int .u64 ((rd_T45 l1 x12_1).f0), .int .u64 ((rd_T45 l1 x12_1).f1)]] (by rfl) rfl rfl aV ?_
         with_reducible refine (spec_NodeOf.calls k1 ((rd_T45 l1 x12_1).f0) ((rd_T45 l1 x12_1).f1) t207 t208 _ A29.out).mono ?_
         rintro e w41 ⟨rfl, hb⟩
         refine ⟨_, rfl, ?_⟩
         have n0_ := Aside0.mk (Kd.R_below (kR HO_200000.out) hb)
         have n1_ := Aside0.mk (blk_below (g := gb197) (o := .cells #[.int .u64 x198000_1, .int .u64 x198001_1] 45 (0, 0)) (kB BK197.out) hb)
         have n2_ := Aside0.mk (blk_below (g := gb198) (o := .cells #[.slice none 0 0, .int .u64 0, .int .u64 0, .int .i64 0, .int .i64 0] 39 (0, 0)) (kB BK198.out) hb)
         have n3_ := Aside0.mk (blk_below (g := gb199) (o := .cells #[u200000, .int .u64 0, .int .u64 0, .int .i64 x200003_1, .int .i64 x200004_1] 39 (0, 0)) (kB BK199.out) hb)
         have n4_ := Aside0.mk (blk_below (g := gb201) (o := .cells #[.int .u64 ((rd_T45 l1 x12_1).f0), .int .u64 ((rd_T45 l1 x12_1).f1)] 45 (0, 0)) (kB BK201.out) hb)
         have n5_ := Aside0.mk (below_step bB hb)
         clear HO_200000
         clear BK197
         clear BK198
         clear BK199
         clear BK201
         clear HB
         have HO_200000 := n0_
         have BK197 := n1_
         have BK198 := n2_
         have BK199 := n3_
         have BK201 := n4_
         have HB := n5_
         clear n0_ n1_ n2_ n3_ n4_ n5_
         (try clear hb)
         (try clear hb2)
         (try clear hk)
         (try clear hi)
         refine hK.out _ _ ⟨(blk_cell BK199.out 0).trans rfl, (blk_cell BK199.out 1).trans rfl, (blk_cell BK199.out 2).trans rfl, (blk_cell BK199.out 3).trans rfl, (blk_cell BK199.out 4).trans rfl, (blk_cell BK201.out 0).trans rfl, (blk_cell BK201.out 1).trans rfl⟩ (fun hHeld => ?_)
         clear hK K
         refine norm_ (a' := ?_) ?_ ?_
         rotate_left
         ·show Act.put _ (some 45) _ = _
          simp only [Act.put, List.setIfInBounds_toArray, List.set_cons_zero, List.set_cons_succ, i64_w, i32_w]
          rfl
         refine one_ (i := 4) (N := some 46) #[true, true, true, true, true, false, false, false] rfl rfl (one_of HT_.out (by kernel_rfl)) (by decide) (fun K hK => ?_)
         refine value_ (w1 := ?_) (v := ?_) (by rfl) rfl ?_ ?_
         rotate_left 2
         ·go_simp
          constructor
          ·rfl
          ·rfl
         refine hK.out _ _ ⟨(blk_cell (blk_alloc BK199.out _) 0).trans rfl, (blk_cell (blk_alloc BK199.out _) 1).trans rfl, (blk_cell (blk_alloc BK199.out _) 2).trans rfl, (blk_cell (blk_alloc BK199.out _) 3).trans rfl, (blk_cell (blk_alloc BK199.out _) 4).trans rfl, (blk_cell (blk_alloc BK201.out _) 0).trans rfl, (blk_cell (blk_alloc BK201.out _) 1).trans rfl⟩ (fun hHeld => ?_)
         clear hK K
         refine norm_ (a' := ?_) ?_ ?_
         rotate_left
         ·show Act.put _ (some 46) _ = _
          simp only [Act.put, List.setIfInBounds_toArray, List.set_cons_zero, List.set_cons_succ, i64_w, i32_w]
          rfl
         refine one_ (i := 5) (N := some 47) #[true, true, true, true, true, true, false, false] rfl rfl (one_of HT_.out (by kernel_rfl)) (by decide) (fun K hK => ?_)
         refine Kd.R_append_step k28 (w0 := w) w.heap.size (by rfl) (.tmp 43) (.tmp 46) 24 28 (.agg #[(.int .u64 0), (.int .u64 0)]) 16 rfl Tryd.underlying24 info28 rfl (by decide) (by omega) u200000 x200000_1 (⟨t207, t208⟩ : S28) [.int .u64 t207, .int .u64 t208] (fun _ => True) (fun _ => False) rfl rfl ?aP (fun _ hk => hk.elim) ?aF ?aO ?aB ?aS ?aL ?_
         (case aP => exact k28_mkM _ _ _ (⟨t207, t208⟩ : S28))
         (case aB => exact bB)
         (case aF => exact (fun _ _ => trivial))
         (case aO => exact (kR HO_200000.out))
         (case aS => exact (below_size bB))
         (case aL => have := LMc30.out; omega)
         intro v210 w42 ho hb hg hat
         rw [← Ny209.out] at ho
         have n0_ := Aside0.mk (blk_grown (g := gb197) (o := .cells #[.int .u64 x198000_1, .int .u64 x198001_1] 45 (0, 0)) (kB BK197.out) hg (Kd.R_ne HO_200000.out BK197.out (by decide)))
         have n1_ := Aside0.mk (blk_grown (g := gb198) (o := .cells #[.slice none 0 0, .int .u64 0, .int .u64 0, .int .i64 0, .int .i64 0] 39 (0, 0)) (kB BK198.out) hg (Kd.R_ne HO_200000.out BK198.out (by decide)))
         have n2_ := Aside0.mk (blk_grown (g := gb199) (o := .cells #[u200000, .int .u64 0, .int .u64 0, .int .i64 x200003_1, .int .i64 x200004_1] 39 (0, 0)) (kB BK199.out) hg (Kd.R_ne HO_200000.out BK199.out (by decide)))
         have n3_ := Aside0.mk (blk_grown (g := gb201) (o := .cells #[.int .u64 ((rd_T45 l1 x12_1).f0), .int .u64 ((rd_T45 l1 x12_1).f1)] 45 (0, 0)) (kB BK201.out) hg (Kd.R_ne HO_200000.out BK201.out (by decide)))
         have n4_ := Aside0.mk (hb)
         have n5_ := Aside0.mk (ho)
         clear BK197
         clear BK198
         clear BK199
         clear BK201
         clear HB
         clear HO_200000
         have BK197 := n0_
         have BK198 := n1_
         have BK199 := n2_
         have BK201 := n3_
         have HB := n4_
         have HO211 := n5_
         clear n0_ n1_ n2_ n3_ n4_ n5_
         clear ho hb hg hat
         obtain ⟨Ao43, co43, eo43⟩ := Kd.R_slice HO211.out
         (first | subst eo43 | (injection eo43 with f1_ f2_ f3_; have f4_ := f1_.symm; have f5_ := f3_.symm; clear f1_ f2_ f3_; subst f4_; subst f5_))
         refine hK.out _ _ ⟨(blk_cell BK199.out 0).trans rfl, (blk_cell BK199.out 1).trans rfl, (blk_cell BK199.out 2).trans rfl, (blk_cell BK199.out 3).trans rfl, (blk_cell BK199.out 4).trans rfl, (blk_cell BK201.out 0).trans rfl, (blk_cell BK201.out 1).trans rfl⟩ (fun hHeld => ?_)
         clear hK K
         refine norm_ (a' := ?_) ?_ ?_
         rotate_left
         ·show Act.put _ (some 47) _ = _
          simp only [Act.put, List.setIfInBounds_toArray, List.set_cons_zero, List.set_cons_succ, i64_w, i32_w]
          rfl
         refine pure_ (i := 6) (N := some 48) (v := ?_) (a' := ?_) #[true, true, true, true, true, true, true, false] rfl rfl (any_of HT_.out (by kernel_rfl)) (fun _ _ _ h => h) (Or.inl ⟨by rfl, ?_⟩) ?_ ?_
         rotate_left
         ·intro w'
          go_simp
          with_reducible rfl
         rotate_left
         ·simp only [Act.put, List.setIfInBounds_toArray, List.set_cons_zero, List.set_cons_succ, i64_w, i32_w]
          rfl
         refine last_ (i := 7) (N := none) #[true, true, true, true, true, true, true, true] rfl rfl (one_of HT_.out (by kernel_rfl)) (by decide) (fun K hK => ?_)
         have hs44 : w42.cell? ⟨gb199, 0, none⟩ = some (u200000) := (blk_cell BK199.out 0).trans rfl
         have hfs44 := blk_frozen BK199.out 0
         have hns44_0 := NB197_199.out
         have hns44_1 := NB198_199.out
         have hns44_3 := NB201_199.out
         have hms44_0 := NB199_197.out
         have hms44_1 := NB199_198.out
         have hms44_3 := NB199_201.out
         refine skip_ (w1 := ?_) (by rfl) rfl ?_ ?_
         rotate_left
         ·go_simp
          rfl
         refine hK.out _ _ ?_
         clear hK K
         refine done_ (done_of HT_.out (by kernel_rfl)) ?_
         have hcz45_0 : w42.cell? ⟨gb201, 0, none⟩ = some (.int .u64 ((rd_T45 l1 x12_1).f0)) := (blk_cell BK201.out 0).trans rfl
         have hcz45_1 : w42.cell? ⟨gb201, 1, none⟩ = some (.int .u64 ((rd_T45 l1 x12_1).f1)) := (blk_cell BK201.out 1).trans rfl
         have hfz45_0 := blk_frozen BK201.out 0
         have hfz45_1 := blk_frozen BK201.out 1
         have hcz46_0 : w42.cell? ⟨gb197, 0, none⟩ = some (.int .u64 x198000_1) := (blk_cell BK197.out 0).trans rfl
         have hcz46_1 : w42.cell? ⟨gb197, 1, none⟩ = some (.int .u64 x198001_1) := (blk_cell BK197.out 1).trans rfl
         have hfz46_0 := blk_frozen BK197.out 0
         have hfz46_1 := blk_frozen BK197.out 1
         try go_wp2
         go_roundg k1
         case measure => have := HK1.out; omega
         case rel => exact ⟨(wrap64 (x12_1 + 1)), (x198000_1), ((rd_T45 l1 x12_1).f1), (y209), (x200003_1), (x200004_1), (.slice Ao43 y209.length co43), (by first | rfl | (simp; done) | (simp [*]; done)), H', ⟨by have := HK1.out; omega⟩, ⟨by (with_reducible repeat (first | apply Kd.R_alloc | apply Kd.R_drewN | apply Kd.R_drew)); exact Kd.R_mono (Kd.R_far (p := ⟨gb197, 1, none⟩) (Kd.R_far (p := ⟨gb199, 0, none⟩) (Kd.R_types (Kd.R_types HO211.out BK199.out (by decide)) BK197.out (by decide)) (fun _ hk => hk.1.2) (.slice Ao43 y209.length co43)) (fun _ hk => hk.2) (.int .u64 ((rd_T45 l1 x12_1).f1))) (fun _ hk => trivial)⟩, ⟨by (with_reducible repeat (first | refine blk_drewN ?_ _ | refine blk_drew ?_ | refine blk_alloc ?_ _)); refine blk_put (cs := #[.int .u64 x198000_1, .int .u64 x198001_1]) ?_ 1 _ rfl; (with_reducible repeat (first | refine blk_drewN ?_ _ | refine blk_drew ?_ | refine blk_alloc ?_ _)); refine blk_far ?_ NB197_199.out _; (with_reducible repeat (first | refine blk_drewN ?_ _ | refine blk_drew ?_ | refine blk_alloc ?_ _)); exact BK197.out⟩, ⟨by (with_reducible repeat (first | refine blk_drewN ?_ _ | refine blk_drew ?_ | refine blk_alloc ?_ _)); refine blk_far ?_ NB198_197.out _; (with_reducible repeat (first | refine blk_drewN ?_ _ | refine blk_drew ?_ | refine blk_alloc ?_ _)); refine blk_far ?_ NB198_199.out _; (with_reducible repeat (first | refine blk_drewN ?_ _ | refine blk_drew ?_ | refine blk_alloc ?_ _)); exact BK198.out⟩, ⟨by (with_reducible repeat (first | refine blk_drewN ?_ _ | refine blk_drew ?_ | refine blk_alloc ?_ _)); refine blk_far ?_ NB199_197.out _; (with_reducible repeat (first | refine blk_drewN ?_ _ | refine blk_drew ?_ | refine blk_alloc ?_ _)); refine blk_put (cs := #[u200000, .int .u64 0, .int .u64 0, .int .i64 x200003_1, .int .i64 x200004_1]) ?_ 0 _ rfl; (with_reducible repeat (first | refine blk_drewN ?_ _ | refine blk_drew ?_ | refine blk_alloc ?_ _)); exact BK199.out⟩, ⟨bB⟩⟩
        ·rw [if_neg c30] at H
         exact absurd H (by simp)
       ·rw [if_neg c28] at H
        have c28b0 : ((IntKind.u64.wrap (((rd_T45 l1 x12_1).f1) - ((rd_T45 l1 x12_1).f0))) == (IntKind.u64.wrap (x198001_1 - x198000_1))) = false := beq_eq_false_iff_ne.mpr c28
        have c28b1 : ((IntKind.u64.wrap (((rd_T45 l1 x12_1).f1) - ((rd_T45 l1 x12_1).f0))) != (IntKind.u64.wrap (x198001_1 - x198000_1))) = true := bne_iff_ne.mpr c28
        replace H := Option.bind_eq_some_iff.mp H
        obtain ⟨t212, A470, H⟩ := H
        replace H : (spec_proofOf.l1 k1 t212 (wrap64 ((t212.length : Int) - 1)) l1 (l1.length : Int) x12_1 x198000_1 x198001_1 x200000_1 0 0 (x200000_1.length : Int) (wrap64 ((x200000_1.length : Int) + (t212.length : Int))) ((rd_T45 l1 x12_1).f0) ((rd_T45 l1 x12_1).f1)) = some (r1, r2, r3, r4, r5) := H
        have A47 := Aside0.mk A470
        clear A470
        have H' := Aside0.mk H
        clear H
        have p200 : 0 ≤ (x12_1 : Int) := dA
        have q200 : x12_1 < (l1.length : Int) := dA
        obtain ⟨ad200, e200, hx200_0, hx200_1⟩ := at_T45 HR1.out x12_1 p200 q200
        cases e200
        replace hx200_0 := (HB.out.cell (World.block_lt_of_cell? w _ hx200_0)).trans hx200_0
        replace hx200_1 := (HB.out.cell (World.block_lt_of_cell? w _ hx200_1)).trans hx200_1
        replace p200 := eq_true p200
        replace q200 := eq_true q200
        go_wp2_with (first | ((with_reducible refine gate_dst (N := 7) rfl ?_); refine box_event ?hg (N := 7) ?hd (cs := #[.int .u64 0, .int .u64 0]) (t := 45) ?hr ?_; (case hd => rfl); (case hg => rfl); (case hr => first | (go_simp; done) | (go_simp; rfl)); intro gb201 hg w48 hbox hb; have n0_ := Aside0.mk (Kd.R_below (kR HO_200000.out) hb); have n1_ := Aside0.mk (blk_below (g := gb197) (o := .cells #[.int .u64 x198000_1, .int .u64 x198001_1] 45 (0, 0)) (kB BK197.out) hb); have n2_ := Aside0.mk (blk_below (g := gb198) (o := .cells #[.slice none 0 0, .int .u64 0, .int .u64 0, .int .i64 0, .int .i64 0] 39 (0, 0)) (kB BK198.out) hb); have n3_ := Aside0.mk (blk_below (g := gb199) (o := .cells #[u200000, .int .u64 0, .int .u64 0, .int .i64 x200003_1, .int .i64 x200004_1] 39 (0, 0)) (kB BK199.out) hb); have n4_ := Aside0.mk (below_step bB hb); have n5_ := Aside0.mk (hbox); have n6_ := Aside0.mk ((by rw [hg]; exact (below_size bB) : w.heap.size ≤ gb201)); have n7_ := Aside0.mk ((by rw [hg]; exact (below_size bB) : w.heap.size ≤ gb201)); have n8_ := Aside0.mk ((by rw [hg]; exact Nat.ne_of_lt (blk_lt (g := gb197) (o := .cells #[.int .u64 x198000_1, .int .u64 x198001_1] 45 (0, 0)) (kB BK197.out)) : gb197 ≠ gb201)); have n9_ := Aside0.mk ((by rw [hg]; exact Nat.ne_of_gt (blk_lt (g := gb197) (o := .cells #[.int .u64 x198000_1, .int .u64 x198001_1] 45 (0, 0)) (kB BK197.out)) : gb201 ≠ gb197)); have n10_ := Aside0.mk ((by rw [hg]; exact Nat.ne_of_lt (blk_lt (g := gb198) (o := .cells #[.slice none 0 0, .int .u64 0, .int .u64 0, .int .i64 0, .int .i64 0] 39 (0, 0)) (kB BK198.out)) : gb198 ≠ gb201)); have n11_ := Aside0.mk ((by rw [hg]; exact Nat.ne_of_gt (blk_lt (g := gb198) (o := .cells #[.slice none 0 0, .int .u64 0, .int .u64 0, .int .i64 0, .int .i64 0] 39 (0, 0)) (kB BK198.out)) : gb201 ≠ gb198)); have n12_ := Aside0.mk ((by rw [hg]; exact Nat.ne_of_lt (blk_lt (g := gb199) (o := .cells #[u200000, .int .u64 0, .int .u64 0, .int .i64 x200003_1, .int .i64 x200004_1] 39 (0, 0)) (kB BK199.out)) : gb199 ≠ gb201)); have n13_ := Aside0.mk ((by rw [hg]; exact Nat.ne_of_gt (blk_lt (g := gb199) (o := .cells #[u200000, .int .u64 0, .int .u64 0, .int .i64 x200003_1, .int .i64 x200004_1] 39 (0, 0)) (kB BK199.out)) : gb201 ≠ gb199)); clear HO_200000; clear BK197; clear BK198; clear BK199; clear HB; have HO_200000 := n0_; have BK197 := n1_; have BK198 := n2_; have BK199 := n3_; have HB := n4_; have BK201 := n5_; have GW201 := n6_; have GE201 := n7_; have NB197_201 := n8_; have NB201_197 := n9_; have NB198_201 := n10_; have NB201_198 := n11_; have NB199_201 := n12_; have NB201_199 := n13_; clear n0_ n1_ n2_ n3_ n4_ n5_ n6_ n7_ n8_ n9_ n10_ n11_ n12_ n13_; clear hb hbox hg; have hnb49 := NB201_197.out; have hnc49 := NB197_201.out; have hnb50 := NB201_198.out; have hnc50 := NB198_201.out; have hnb51 := NB201_199.out; have hnc51 := NB199_201.out; have hcz52_0 : w48.cell? ⟨gb201, 0, none⟩ = some (.int .u64 0) := (blk_cell BK201.out 0).trans rfl; have hcz52_1 : w48.cell? ⟨gb201, 1, none⟩ = some (.int .u64 0) := (blk_cell BK201.out 1).trans rfl; have hfz52_0 := blk_frozen BK201.out 0; have hfz52_1 := blk_frozen BK201.out 1; have hnb53 := NB197_198.out; have hnc53 := NB198_197.out; have hnb54 := NB197_199.out; have hnc54 := NB199_197.out; have hcz55_0 : w48.cell? ⟨gb197, 0, none⟩ = some (.int .u64 x198000_1) := (blk_cell BK197.out 0).trans rfl; have hcz55_1 : w48.cell? ⟨gb197, 1, none⟩ = some (.int .u64 x198001_1) := (blk_cell BK197.out 1).trans rfl; have hfz55_0 := blk_frozen BK197.out 0; have hfz55_1 := blk_frozen BK197.out 1) | ((with_reducible refine gate_callee (f := 17) rfl ?_); refine goesL_ (some 50) rfl rfl Tryd.func17 (by kernel_rfl) rfl #[.agg #[.int .u64 ((rd_T45 l1 x12_1).f0), .int .u64 ((rd_T45 l1 x12_1).f1)]] rfl aV ?_; (with_reducible refine (spec_Nodes.calls k1 ((rd_T45 l1 x12_1).f0) ((rd_T45 l1 x12_1).f1) t212 _ A47.out).mono ?_); rintro e w56 ⟨v213, rfl, ho0, hb⟩; refine ⟨_, rfl, ?_⟩; have n0_ := Aside0.mk (Kd.R_elder' (by (with_reducible repeat (first | apply Kd.R_alloc | apply Kd.R_drewN | apply Kd.R_drew)); exact (Kd.R_mono (Kd.R_far (p := ⟨gb201, 1, none⟩) (Kd.R_far (p := ⟨gb201, 0, none⟩) (Kd.R_types HO_200000.out BK201.out (by decide)) (fun _ hk => hk.2) (.int .u64 ((rd_T45 l1 x12_1).f0))) (fun _ hk => hk.2) (.int .u64 ((rd_T45 l1 x12_1).f1))) (fun _ h_ => h_.1))) (Kd.R_base ho0) hb); have n1_ := Aside0.mk (Kd.R_lower (Kd.R_new' ho0 (Kd.R_lt (by (with_reducible repeat (first | apply Kd.R_alloc | apply Kd.R_drewN | apply Kd.R_drew)); exact (Kd.R_mono (Kd.R_far (p := ⟨gb201, 1, none⟩) (Kd.R_far (p := ⟨gb201, 0, none⟩) (Kd.R_types HO_200000.out BK201.out (by decide)) (fun _ hk => hk.2) (.int .u64 ((rd_T45 l1 x12_1).f0))) (fun _ hk => hk.2) (.int .u64 ((rd_T45 l1 x12_1).f1))) (fun _ h_ => h_.1))))) (below_size bB)); have n2_ := Aside0.mk (blk_below (g := gb197) (o := .cells #[.int .u64 x198000_1, .int .u64 x198001_1] 45 (0, 0)) (by (with_reducible repeat (first | refine blk_drewN ?_ _ | refine blk_drew ?_ | refine blk_alloc ?_ _)); refine blk_far ?_ NB197_201.out _; (with_reducible repeat (first | refine blk_drewN ?_ _ | refine blk_drew ?_ | refine blk_alloc ?_ _)); refine blk_far ?_ NB197_201.out _; (with_reducible repeat (first | refine blk_drewN ?_ _ | refine blk_drew ?_ | refine blk_alloc ?_ _)); exact BK197.out) hb); have n3_ := Aside0.mk (blk_below (g := gb198) (o := .cells #[.slice none 0 0, .int .u64 0, .int .u64 0, .int .i64 0, .int .i64 0] 39 (0, 0)) (by (with_reducible repeat (first | refine blk_drewN ?_ _ | refine blk_drew ?_ | refine blk_alloc ?_ _)); refine blk_far ?_ NB198_201.out _; (with_reducible repeat (first | refine blk_drewN ?_ _ | refine blk_drew ?_ | refine blk_alloc ?_ _)); refine blk_far ?_ NB198_201.out _; (with_reducible repeat (first | refine blk_drewN ?_ _ | refine blk_drew ?_ | refine blk_alloc ?_ _)); exact BK198.out) hb); have n4_ := Aside0.mk (blk_below (g := gb199) (o := .cells #[u200000, .int .u64 0, .int .u64 0, .int .i64 x200003_1, .int .i64 x200004_1] 39 (0, 0)) (by (with_reducible repeat (first | refine blk_drewN ?_ _ | refine blk_drew ?_ | refine blk_alloc ?_ _)); refine blk_far ?_ NB199_201.out _; (with_reducible repeat (first | refine blk_drewN ?_ _ | refine blk_drew ?_ | refine blk_alloc ?_ _)); refine blk_far ?_ NB199_201.out _; (with_reducible repeat (first | refine blk_drewN ?_ _ | refine blk_drew ?_ | refine blk_alloc ?_ _)); exact BK199.out) hb); have n5_ := Aside0.mk (blk_below (g := gb201) (o := .cells #[.int .u64 ((rd_T45 l1 x12_1).f0), .int .u64 ((rd_T45 l1 x12_1).f1)] 45 (0, 0)) (by (with_reducible repeat (first | refine blk_drewN ?_ _ | refine blk_drew ?_ | refine blk_alloc ?_ _)); refine blk_put (cs := #[.int .u64 ((rd_T45 l1 x12_1).f0), .int .u64 0]) ?_ 1 _ rfl; (with_reducible repeat (first | refine blk_drewN ?_ _ | refine blk_drew ?_ | refine blk_alloc ?_ _)); refine blk_put (cs := #[.int .u64 0, .int .u64 0]) ?_ 0 _ rfl; (with_reducible repeat (first | refine blk_drewN ?_ _ | refine blk_drew ?_ | refine blk_alloc ?_ _)); exact BK201.out) hb); have n6_ := Aside0.mk (below_step bB hb); clear HO_200000; clear BK197; clear BK198; clear BK199; clear BK201; clear HB; have HO_200000 := n0_; have HO214 := n1_; have BK197 := n2_; have BK198 := n3_; have BK199 := n4_; have BK201 := n5_; have HB := n6_; clear n0_ n1_ n2_ n3_ n4_ n5_ n6_; (try clear hb); (try clear hb2); (try clear hk); (try clear hi); (try clear ho0); have hnb57 := NB199_198.out; have hnc57 := NB198_199.out; have hcz58_0 : w56.cell? ⟨gb199, 0, none⟩ = some (u200000) := (blk_cell BK199.out 0).trans rfl; have hcz58_1 : w56.cell? ⟨gb199, 1, none⟩ = some (.int .u64 0) := (blk_cell BK199.out 1).trans rfl; have hcz58_2 : w56.cell? ⟨gb199, 2, none⟩ = some (.int .u64 0) := (blk_cell BK199.out 2).trans rfl; have hcz58_3 : w56.cell? ⟨gb199, 3, none⟩ = some (.int .i64 x200003_1) := (blk_cell BK199.out 3).trans rfl; have hcz58_4 : w56.cell? ⟨gb199, 4, none⟩ = some (.int .i64 x200004_1) := (blk_cell BK199.out 4).trans rfl; have hfz58_0 := blk_frozen BK199.out 0; have hfz58_1 := blk_frozen BK199.out 1; have hfz58_2 := blk_frozen BK199.out 2; have hfz58_3 := blk_frozen BK199.out 3; have hfz58_4 := blk_frozen BK199.out 4; obtain ⟨Ao59, co59, eo59⟩ := Kd.R_slice HO_200000.out; subst eo59; obtain ⟨Ao60, co60, eo60⟩ := Kd.R_slice HO214.out; subst eo60))
        go_loopg [9] k1 (fun kq v9 w' => ∃ (x9_2 : Int) (x200000_2 : List (S28)) (u200000 : Value), v9 = .int .i64 x9_2 ∧ Aside0 (spec_proofOf.l1 kq t212 x9_2 l1 (l1.length : Int) x12_1 x198000_1 x198001_1 x200000_2 0 0 (x200000_1.length : Int) (wrap64 ((x200000_1.length : Int) + (t212.length : Int))) ((rd_T45 l1 x12_1).f0) ((rd_T45 l1 x12_1).f1) = some (r1, r2, r3, r4, r5)) ∧ Aside0 (kq ≤ k1) ∧ Aside0 (Kd.R k28 28 w' w.heap.size (fun k_ => some k_ ≠ (u200000 : Value).ownBlock) (.slice Ao60 t212.length co60) t212) ∧ Aside0 (Kd.R k28 28 w' w.heap.size (fun k_ => some k_ ≠ ((.slice Ao60 t212.length co60) : Value).ownBlock) u200000 x200000_2) ∧ Aside0 (w'.heap[gb197]? = some (.cells #[.int .u64 x198000_1, .int .u64 x198001_1] 45 (0, 0))) ∧ Aside0 (w'.heap[gb198]? = some (.cells #[(.slice none 0 0), .int .u64 0, .int .u64 0, .int .i64 0, .int .i64 0] 39 (0, 0))) ∧ Aside0 (w'.heap[gb199]? = some (.cells #[u200000, .int .u64 0, .int .u64 0, .int .i64 (x200000_1.length : Int), .int .i64 (wrap64 ((x200000_1.length : Int) + (t212.length : Int)))] 39 (0, 0))) ∧ Aside0 (w'.heap[gb201]? = some (.cells #[.int .u64 ((rd_T45 l1 x12_1).f0), .int .u64 ((rd_T45 l1 x12_1).f1)] 45 (0, 0))) ∧ Aside0 (Below w.heap.size w w'))
        case atStart => exact ⟨(wrap64 ((t212.length : Int) - 1)), (x200000_1), (.slice Ao59 x200000_1.length co59), (by first | rfl | (simp; done) | (simp [*]; done)), H', ⟨Nat.le_refl _⟩, ⟨by (with_reducible repeat (first | apply Kd.R_alloc | apply Kd.R_drewN | apply Kd.R_drew)); exact Kd.R_mono (Kd.R_far (p := ⟨gb199, 4, none⟩) (Kd.R_far (p := ⟨gb199, 3, none⟩) (Kd.R_types HO214.out BK199.out (by decide)) (fun _ hk => hk.2) (.int .i64 (x200000_1.length : Int))) (fun _ hk => hk.2) (.int .i64 (wrap64 ((x200000_1.length : Int) + (t212.length : Int))))) (fun _ hk => hk.1.2)⟩, ⟨by (with_reducible repeat (first | apply Kd.R_alloc | apply Kd.R_drewN | apply Kd.R_drew)); exact Kd.R_mono (Kd.R_far (p := ⟨gb199, 4, none⟩) (Kd.R_far (p := ⟨gb199, 3, none⟩) (Kd.R_types HO_200000.out BK199.out (by decide)) (fun _ hk => hk.2) (.int .i64 (x200000_1.length : Int))) (fun _ hk => hk.2) (.int .i64 (wrap64 ((x200000_1.length : Int) + (t212.length : Int))))) (fun _ hk => hk.1.2)⟩, ⟨by (with_reducible repeat (first | refine blk_drewN ?_ _ | refine blk_drew ?_ | refine blk_alloc ?_ _)); refine blk_far ?_ NB197_199.out _; (with_reducible repeat (first | refine blk_drewN ?_ _ | refine blk_drew ?_ | refine blk_alloc ?_ _)); refine blk_far ?_ NB197_199.out _; (with_reducible repeat (first | refine blk_drewN ?_ _ | refine blk_drew ?_ | refine blk_alloc ?_ _)); exact BK197.out⟩, ⟨by (with_reducible repeat (first | refine blk_drewN ?_ _ | refine blk_drew ?_ | refine blk_alloc ?_ _)); refine blk_far ?_ NB198_199.out _; (with_reducible repeat (first | refine blk_drewN ?_ _ | refine blk_drew ?_ | refine blk_alloc ?_ _)); refine blk_far ?_ NB198_199.out _; (with_reducible repeat (first | refine blk_drewN ?_ _ | refine blk_drew ?_ | refine blk_alloc ?_ _)); exact BK198.out⟩, ⟨by (with_reducible repeat (first | refine blk_drewN ?_ _ | refine blk_drew ?_ | refine blk_alloc ?_ _)); refine blk_put (cs := #[.slice Ao59 x200000_1.length co59, .int .u64 0, .int .u64 0, .int .i64 (x200000_1.length : Int), .int .i64 x200004_1]) ?_ 4 _ rfl; (with_reducible repeat (first | refine blk_drewN ?_ _ | refine blk_drew ?_ | refine blk_alloc ?_ _)); refine blk_put (cs := #[.slice Ao59 x200000_1.length co59, .int .u64 0, .int .u64 0, .int .i64 x200003_1, .int .i64 x200004_1]) ?_ 3 _ rfl; (with_reducible repeat (first | refine blk_drewN ?_ _ | refine blk_drew ?_ | refine blk_alloc ?_ _)); exact BK199.out⟩, ⟨by (with_reducible repeat (first | refine blk_drewN ?_ _ | refine blk_drew ?_ | refine blk_alloc ?_ _)); refine blk_far ?_ NB201_199.out _; (with_reducible repeat (first | refine blk_drewN ?_ _ | refine blk_drew ?_ | refine blk_alloc ?_ _)); refine blk_far ?_ NB201_199.out _; (with_reducible repeat (first | refine blk_drewN ?_ _ | refine blk_drew ?_ | refine blk_alloc ?_ _)); exact BK201.out⟩, ⟨bB⟩⟩
        case round =>
         clear H'
         try clear c1
         try clear c2
         try clear p2
         try clear q2
         try clear hx2
         try clear c3
         try clear c4
         try clear c5
         try clear c6
         try clear c6b0
         try clear p6
         try clear c7
         try clear c7b0
         try clear c8
         try clear c8b0
         try clear c9
         try clear c9b0
         try clear c9b1
         try clear c11
         try clear c13
         try clear c14
         try clear c15
         try clear c17
         try clear c18
         try clear p20
         try clear q20
         try clear hx20
         try clear c28
         try clear c28b0
         try clear c28b1
         try clear c30
         try clear c32
         try clear c33
         try clear c34
         try clear c36
         try clear c37
         try clear c42
         try clear c49
         try clear c50
         try clear c51
         try clear c53
         try clear c54
         try clear c57
         try clear hcz16_0
         try clear hcz16_1
         try clear hcz19_0
         try clear hcz19_1
         try clear hcz26_0
         try clear hcz26_1
         try clear hcz27_0
         try clear hcz27_1
         try clear hcz35_0
         try clear hcz35_1
         try clear hcz38_0
         try clear hcz38_1
         try clear hcz45_0
         try clear hcz45_1
         try clear hcz46_0
         try clear hcz46_1
         try clear hcz52_0
         try clear hcz52_1
         try clear hcz55_0
         try clear hcz55_1
         try clear hcz58_0
         try clear hcz58_1
         try clear hcz58_2
         try clear hcz58_3
         try clear hcz58_4
         try clear hfz16_0
         try clear hfz16_1
         try clear hfz19_0
         try clear hfz19_1
         try clear hfz26_0
         try clear hfz26_1
         try clear hfz27_0
         try clear hfz27_1
         try clear hfz35_0
         try clear hfz35_1
         try clear hfz38_0
         try clear hfz38_1
         try clear hfz45_0
         try clear hfz45_1
         try clear hfz46_0
         try clear hfz46_1
         try clear hfz52_0
         try clear hfz52_1
         try clear hfz55_0
         try clear hfz55_1
         try clear hfz58_0
         try clear hfz58_1
         try clear hfz58_2
         try clear hfz58_3
         try clear hfz58_4
         try clear hx200_0
         try clear hx200_1
         try clear p2
         try clear p200
         try clear q200
         obtain ⟨x9_2, x200000_2, u200000, rfl, HA, HK2, HO_8, HO_200000, BK197, BK198, BK199, BK201, HB⟩ := hrel
         cases gk with
         | zero => exact absurd HA.out (by simp [spec_proofOf.l1])
         | succ k2 =>
          have H := HA.out
          clear HA
          simp only [spec_proofOf.l1] at H
          by_cases c61 : x9_2 ≥ 0
          ·rw [if_pos c61] at H
           have c61b0 : decide (0 ≤ x9_2) = true := decide_eq_true c61
           clear c61
           by_cases c62 : 0 ≤ x9_2
           ·rw [if_pos c62] at H
            have c62b0 : decide (0 ≤ x9_2) = true := decide_eq_true c62
            clear c62
            by_cases c63 : x9_2 < (t212.length : Int)
            ·rw [if_pos c63] at H
             have c63b0 : decide (x9_2 < (t212.length : Int)) = true := decide_eq_true c63
             clear c63
             by_cases c64 : x200000_2.length < 8796093022208
             ·rw [if_pos c64] at H
              have LMc64 := Aside0.mk c64
              clear c64
              obtain ⟨y216, hy216⟩ : ∃ y_ : List (S28), y_ = (x200000_2 ++ [(⟨(rd_T28 t212 x9_2).f0, (rd_T28 t212 x9_2).f1⟩ : S28)]) := ⟨_, rfl⟩
              replace H : (spec_proofOf.l1 k2 t212 (wrap64 (x9_2 - 1)) l1 (l1.length : Int) x12_1 x198000_1 x198001_1 y216 0 0 (x200000_1.length : Int) (wrap64 ((x200000_1.length : Int) + (t212.length : Int))) ((rd_T45 l1 x12_1).f0) ((rd_T45 l1 x12_1).f1)) = some (r1, r2, r3, r4, r5) := by first | (rw [hy216]; with_reducible exact H) | (have H2_ := (Option.bind_some _ _).symm.trans H; rw [hy216]; with_reducible exact H2_) | (have H2_ := (Option.bind_some _ _).symm.trans H; with_reducible exact H2_) | with_reducible exact H | (rw [hy216]; exact H) | exact H
              have Ny216 := Aside0.mk hy216
              clear hy216
              have H' := Aside0.mk H
              clear H
              try go_wp2
              have n0_ := Aside0.mk (Kd.R_drew HO_8.out)
              have n1_ := Aside0.mk (Kd.R_drew HO_200000.out)
              have n2_ := Aside0.mk (blk_drew BK197.out)
              have n3_ := Aside0.mk (blk_drew BK198.out)
              have n4_ := Aside0.mk (blk_drew BK199.out)
              have n5_ := Aside0.mk (blk_drew BK201.out)
              have n6_ := Aside0.mk (below_drew1 HB.out)
              clear HO_8
              clear HO_200000
              clear BK197
              clear BK198
              clear BK199
              clear BK201
              clear HB
              have HO_8 := n0_
              have HO_200000 := n1_
              have BK197 := n2_
              have BK198 := n3_
              have BK199 := n4_
              have BK201 := n5_
              have HB := n6_
              clear n0_ n1_ n2_ n3_ n4_ n5_ n6_
              have p215 : 0 ≤ (x9_2 : Int) := dA
              have q215 : x9_2 < (t212.length : Int) := dA
              obtain ⟨ad215, e215, hx215_0, hx215_1⟩ := at_T28 (Kd.R_reads' HO_8.out).2.2 x9_2 p215 q215
              cases e215
              replace p215 := eq_true p215
              replace q215 := eq_true q215
              refine start_ (n := 10) (S := fun w' => w'.cell? ⟨gb199, 0, none⟩ = some (u200000) ∧ w'.cell? ⟨gb199, 1, none⟩ = some (.int .u64 0) ∧ w'.cell? ⟨gb199, 2, none⟩ = some (.int .u64 0) ∧ w'.cell? ⟨gb199, 3, none⟩ = some (.int .i64 (x200000_1.length : Int)) ∧ w'.cell? ⟨gb199, 4, none⟩ = some (.int .i64 (wrap64 ((x200000_1.length : Int) + (t212.length : Int)))) ∧ w'.cell? (ad215.add ((x9_2).toNat * 2)) = some (.int .u64 ((rd_T28 t212 x9_2).f0)) ∧ w'.cell? ⟨(ad215.add ((x9_2).toNat * 2)).block, (ad215.add ((x9_2).toNat * 2)).off + 1, none⟩ = some (.int .u64 ((rd_T28 t212 x9_2).f1))) (ds := [7, 9]) #[false, false, false, false, false, false, false, false, false, false] (by kernel_rfl) rfl rfl ⟨(blk_cell BK199.out 0).trans rfl, (blk_cell BK199.out 1).trans rfl, (blk_cell BK199.out 2).trans rfl, (blk_cell BK199.out 3).trans rfl, (blk_cell BK199.out 4).trans rfl, hx215_0, hx215_1⟩ (fun hHeld => ?_); refine with_tabW spec_proofOf.tab15 spec_proofOf.bits15 (fun HT_ HW_ => ?_)
              generalize wr.drew = w65 at HO_8 HO_200000 BK197 BK198 BK199 BK201 HB hx215_0 hx215_1 hHeld ⊢
              refine pure_ (i := 0) (N := some 69) (v := ?_) (a' := ?_) #[true, false, false, false, false, false, false, false, false, false] rfl rfl (any_of HT_.out (by kernel_rfl)) (fun _ _ _ h => h) (Or.inl ⟨by rfl, ?_⟩) ?_ ?_
              rotate_left
              ·intro w'
               go_simp
               with_reducible rfl
              rotate_left
              ·simp only [Act.put, List.setIfInBounds_toArray, List.set_cons_zero, List.set_cons_succ, i64_w, i32_w]
               rfl
              refine pure_ (i := 2) (N := some 71) (v := ?_) (a' := ?_) #[true, false, true, false, false, false, false, false, false, false] rfl rfl (any_of HT_.out (by kernel_rfl)) (fun _ _ _ h => h) (Or.inl ⟨by rfl, ?_⟩) ?_ ?_
              rotate_left
              ·intro w'
               go_simp
               with_reducible rfl
              rotate_left
              ·simp only [Act.put, List.setIfInBounds_toArray, List.set_cons_zero, List.set_cons_succ, i64_w, i32_w]
               rfl
              refine pure_ (i := 3) (N := some 72) (v := ?_) (a' := ?_) #[true, false, true, true, false, false, false, false, false, false] rfl rfl (any_of HT_.out (by kernel_rfl)) (fun _ _ _ h => h) (Or.inl ⟨by rfl, ?_⟩) ?_ ?_
              rotate_left
              ·intro w'
               go_simp
               with_reducible rfl
              rotate_left
              ·simp only [Act.put, List.setIfInBounds_toArray, List.set_cons_zero, List.set_cons_succ, i64_w, i32_w]
               rfl
              refine pure_ (i := 4) (N := some 73) (v := ?_) (a' := ?_) #[true, false, true, true, true, false, false, false, false, false] rfl rfl (any_of HT_.out (by kernel_rfl)) (fun _ _ _ h => h) (Or.inl ⟨by rfl, ?_⟩) ?_ ?_
              rotate_left
              ·intro w'
               go_simp
               with_reducible rfl
              rotate_left
              ·simp only [Act.put, List.setIfInBounds_toArray, List.set_cons_zero, List.set_cons_succ, i64_w, i32_w]
               rfl
              refine take_ (i := 1) (N := some 70) (v := ?_) (a' := ?_) #[true, true, true, true, true, false, false, false, false, false] rfl rfl (take_ofW HT_.out HW_.out (by kernel_rfl)) (fun _ _ _ h => h) (Or.inl ⟨by rfl, ?_⟩) hHeld ?_ ?_
              rotate_left
              ·rintro w' ⟨s0, s1, s2, s3, s4, s5, s6⟩
               go_simp
               with_reducible rfl
              rotate_left
              ·simp only [Act.put, List.setIfInBounds_toArray, List.set_cons_zero, List.set_cons_succ, i64_w, i32_w]
               rfl
              refine take_ (i := 5) (N := some 74) (v := ?_) (a' := ?_) #[true, true, true, true, true, true, false, false, false, false] rfl rfl (take_ofW HT_.out HW_.out (by kernel_rfl)) (fun _ _ _ h => h) (Or.inl ⟨by rfl, ?_⟩) hHeld ?_ ?_
              rotate_left
              ·rintro w' ⟨s0, s1, s2, s3, s4, s5, s6⟩
               go_simp
               with_reducible rfl
              rotate_left
              ·simp only [Act.put, List.setIfInBounds_toArray, List.set_cons_zero, List.set_cons_succ, i64_w, i32_w]
               rfl
              refine one_ (i := 6) (N := some 75) #[true, true, true, true, true, true, true, false, false, false] rfl rfl (one_of HT_.out (by kernel_rfl)) (by decide) (fun K hK => ?_)
              refine value_ (w1 := ?_) (v := ?_) (by rfl) rfl ?_ ?_
              rotate_left 2
              ·go_simp
               constructor
               ·rfl
               ·rfl
              refine hK.out _ _ ⟨(blk_cell (blk_alloc BK199.out _) 0).trans rfl, (blk_cell (blk_alloc BK199.out _) 1).trans rfl, (blk_cell (blk_alloc BK199.out _) 2).trans rfl, (blk_cell (blk_alloc BK199.out _) 3).trans rfl, (blk_cell (blk_alloc BK199.out _) 4).trans rfl, (World.cell?_alloc_lt _ _ _ (World.block_lt_of_cell? _ _ (hHeld.2.2.2.2.2.1))).trans (hHeld.2.2.2.2.2.1), (World.cell?_alloc_lt _ _ _ (World.block_lt_of_cell? _ _ (hHeld.2.2.2.2.2.2))).trans (hHeld.2.2.2.2.2.2)⟩ (fun hHeld => ?_)
              clear hK K
              refine norm_ (a' := ?_) ?_ ?_
              rotate_left
              ·show Act.put _ (some 75) _ = _
               simp only [Act.put, List.setIfInBounds_toArray, List.set_cons_zero, List.set_cons_succ, i64_w, i32_w]
               rfl
              refine last_ (i := 7) (N := some 76) #[true, true, true, true, true, true, true, true, false, false] rfl rfl (one_of HT_.out (by kernel_rfl)) (by decide) (fun K hK => ?_)
              refine Kd.R_append_step k28 (w0 := w) w.heap.size (by rfl) (.tmp 70) (.tmp 75) 24 28 (.agg #[(.int .u64 0), (.int .u64 0)]) 16 rfl Tryd.underlying24 info28 rfl (by decide) (by omega) u200000 x200000_2 (⟨(rd_T28 t212 x9_2).f0, (rd_T28 t212 x9_2).f1⟩ : S28) [.int .u64 ((rd_T28 t212 x9_2).f0), .int .u64 ((rd_T28 t212 x9_2).f1)] (fun k_ => some k_ ≠ (.slice (some ad215) t212.length co60 : Value).ownBlock) (fun _ => False) rfl rfl ?aP (fun _ hk => hk.elim) ?aF ?aO ?aB ?aS ?aL ?_
              (case aP => exact k28_mkM _ _ _ (⟨(rd_T28 t212 x9_2).f0, (rd_T28 t212 x9_2).f1⟩ : S28))
              (case aB => exact bB)
              (case aF => exact (fun k_ hk => Kd.fresh' (Kd.R_lt (kR HO_8.out)) k_ hk))
              (case aO => exact (kR HO_200000.out))
              (case aS => exact (below_size bB))
              (case aL => have := LMc64.out; omega)
              intro v217 w66 ho hb hg hat
              rw [← Ny216.out] at ho
              have n0_ := Aside0.mk (Kd.R_after (ok := (fun _ => True)) (by (with_reducible repeat (first | apply Kd.R_alloc | apply Kd.R_drewN | apply Kd.R_drew)); exact Kd.R_mono HO_8.out (fun _ hk => ⟨trivial, hk⟩)) hg hat)
              have n1_ := Aside0.mk (blk_grown (g := gb197) (o := .cells #[.int .u64 x198000_1, .int .u64 x198001_1] 45 (0, 0)) (kB BK197.out) hg (Kd.R_ne HO_200000.out BK197.out (by decide)))
              have n2_ := Aside0.mk (blk_grown (g := gb198) (o := .cells #[.slice none 0 0, .int .u64 0, .int .u64 0, .int .i64 0, .int .i64 0] 39 (0, 0)) (kB BK198.out) hg (Kd.R_ne HO_200000.out BK198.out (by decide)))
              have n3_ := Aside0.mk (blk_grown (g := gb199) (o := .cells #[u200000, .int .u64 0, .int .u64 0, .int .i64 (x200000_1.length : Int), .int .i64 (wrap64 ((x200000_1.length : Int) + (t212.length : Int)))] 39 (0, 0)) (kB BK199.out) hg (Kd.R_ne HO_200000.out BK199.out (by decide)))
              have n4_ := Aside0.mk (blk_grown (g := gb201) (o := .cells #[.int .u64 ((rd_T45 l1 x12_1).f0), .int .u64 ((rd_T45 l1 x12_1).f1)] 45 (0, 0)) (kB BK201.out) hg (Kd.R_ne HO_200000.out BK201.out (by decide)))
              have n5_ := Aside0.mk (hb)
              have n6_ := Aside0.mk (ho)
              clear HO_8
              clear BK197
              clear BK198
              clear BK199
              clear BK201
              clear HB
              clear HO_200000
              have HO_8 := n0_
              have BK197 := n1_
              have BK198 := n2_
              have BK199 := n3_
              have BK201 := n4_
              have HB := n5_
              have HO218 := n6_
              clear n0_ n1_ n2_ n3_ n4_ n5_ n6_
              clear ho hb hg hat
              obtain ⟨Ao67, co67, eo67⟩ := Kd.R_slice HO218.out
              (first | subst eo67 | (injection eo67 with f1_ f2_ f3_; have f4_ := f1_.symm; have f5_ := f3_.symm; clear f1_ f2_ f3_; subst f4_; subst f5_))
              refine hK.out _ _ ?_
              clear hK K
              refine norm_ (a' := ?_) ?_ ?_
              rotate_left
              ·show Act.put _ (some 76) _ = _
               simp only [Act.put, List.setIfInBounds_toArray, List.set_cons_zero, List.set_cons_succ, i64_w, i32_w]
               rfl
              refine pure_ (i := 8) (N := some 77) (v := ?_) (a' := ?_) #[true, true, true, true, true, true, true, true, true, false] rfl rfl (any_of HT_.out (by kernel_rfl)) (fun _ _ _ h => h) (Or.inl ⟨by rfl, ?_⟩) ?_ ?_
              rotate_left
              ·intro w'
               go_simp
               with_reducible rfl
              rotate_left
              ·simp only [Act.put, List.setIfInBounds_toArray, List.set_cons_zero, List.set_cons_succ, i64_w, i32_w]
               rfl
              refine last_ (i := 9) (N := none) #[true, true, true, true, true, true, true, true, true, true] rfl rfl (one_of HT_.out (by kernel_rfl)) (by decide) (fun K hK => ?_)
              have hs68 : w66.cell? ⟨gb199, 0, none⟩ = some (u200000) := (blk_cell BK199.out 0).trans rfl
              have hfs68 := blk_frozen BK199.out 0
              have hns68_0 := NB197_199.out
              have hns68_1 := NB198_199.out
              have hns68_3 := NB201_199.out
              have hms68_0 := NB199_197.out
              have hms68_1 := NB199_198.out
              have hms68_3 := NB199_201.out
              refine skip_ (w1 := ?_) (by rfl) rfl ?_ ?_
              rotate_left
              ·go_simp
               rfl
              refine hK.out _ _ ?_
              clear hK K
              refine done_ (done_of HT_.out (by kernel_rfl)) ?_
              try go_wp2
              go_roundg k2
              case measure => have := HK1.out; have := HK2.out; omega
              case rel => exact ⟨(wrap64 (x9_2 - 1)), (y216), (.slice Ao67 y216.length co67), (by first | rfl | (simp; done) | (simp [*]; done)), H', ⟨by have := HK1.out; have := HK2.out; omega⟩, ⟨by (with_reducible repeat (first | apply Kd.R_alloc | apply Kd.R_drewN | apply Kd.R_drew)); exact Kd.R_mono (Kd.R_far (p := ⟨gb199, 0, none⟩) (Kd.R_types HO_8.out BK199.out (by decide)) (fun _ hk => hk.2) (.slice Ao67 y216.length co67)) (fun _ hk => hk.1.2)⟩, ⟨by (with_reducible repeat (first | apply Kd.R_alloc | apply Kd.R_drewN | apply Kd.R_drew)); exact Kd.R_mono (Kd.R_far (p := ⟨gb199, 0, none⟩) (Kd.R_types HO218.out BK199.out (by decide)) (fun _ hk => hk.2) (.slice Ao67 y216.length co67)) (fun _ hk => hk.1)⟩, ⟨by (with_reducible repeat (first | refine blk_drewN ?_ _ | refine blk_drew ?_ | refine blk_alloc ?_ _)); refine blk_far ?_ NB197_199.out _; (with_reducible repeat (first | refine blk_drewN ?_ _ | refine blk_drew ?_ | refine blk_alloc ?_ _)); exact BK197.out⟩, ⟨by (with_reducible repeat (first | refine blk_drewN ?_ _ | refine blk_drew ?_ | refine blk_alloc ?_ _)); refine blk_far ?_ NB198_199.out _; (with_reducible repeat (first | refine blk_drewN ?_ _ | refine blk_drew ?_ | refine blk_alloc ?_ _)); exact BK198.out⟩, ⟨by (with_reducible repeat (first | refine blk_drewN ?_ _ | refine blk_drew ?_ | refine blk_alloc ?_ _)); refine blk_put (cs := #[u200000, .int .u64 0, .int .u64 0, .int .i64 (x200000_1.length : Int), .int .i64 (wrap64 ((x200000_1.length : Int) + (t212.length : Int)))]) ?_ 0 _ rfl; (with_reducible repeat (first | refine blk_drewN ?_ _ | refine blk_drew ?_ | refine blk_alloc ?_ _)); exact BK199.out⟩, ⟨by (with_reducible repeat (first | refine blk_drewN ?_ _ | refine blk_drew ?_ | refine blk_alloc ?_ _)); refine blk_far ?_ NB201_199.out _; (with_reducible repeat (first | refine blk_drewN ?_ _ | refine blk_drew ?_ | refine blk_alloc ?_ _)); exact BK201.out⟩, ⟨bB⟩⟩
             ·rw [if_neg c64] at H
              exact absurd H (by simp)
            ·rw [if_neg c63] at H
             exact absurd H (by simp)
           ·rw [if_neg c62] at H
            exact absurd H (by simp)
          ·rw [if_neg c61] at H
           have c61b0 : decide (0 ≤ x9_2) = false := decide_eq_false c61
           clear c61
           have H' := Aside0.mk H
           clear H
           have hnb69 := NB201_197.out
           have hnc69 := NB197_201.out
           have hnb70 := NB201_198.out
           have hnc70 := NB198_201.out
           have hnb71 := NB201_199.out
           have hnc71 := NB199_201.out
           have hcz72_0 : wr.cell? ⟨gb201, 0, none⟩ = some (.int .u64 ((rd_T45 l1 x12_1).f0)) := (blk_cell BK201.out 0).trans rfl
           have hcz72_1 : wr.cell? ⟨gb201, 1, none⟩ = some (.int .u64 ((rd_T45 l1 x12_1).f1)) := (blk_cell BK201.out 1).trans rfl
           have hfz72_0 := blk_frozen BK201.out 0
           have hfz72_1 := blk_frozen BK201.out 1
           have hnb73 := NB197_198.out
           have hnc73 := NB198_197.out
           have hnb74 := NB197_199.out
           have hnc74 := NB199_197.out
           have hcz75_0 : wr.cell? ⟨gb197, 0, none⟩ = some (.int .u64 x198000_1) := (blk_cell BK197.out 0).trans rfl
           have hcz75_1 : wr.cell? ⟨gb197, 1, none⟩ = some (.int .u64 x198001_1) := (blk_cell BK197.out 1).trans rfl
           have hfz75_0 := blk_frozen BK197.out 0
           have hfz75_1 := blk_frozen BK197.out 1
           go_wp2
           go_roundg k2
           case measure => have := HK1.out; have := HK2.out; omega
           case rel => exact ⟨(wrap64 (x12_1 + 1)), (x198000_1), (((rd_T45 l1 x12_1).f1)), (x200000_2), ((x200000_1.length : Int)), ((wrap64 ((x200000_1.length : Int) + (t212.length : Int)))), (u200000), (by first | rfl | (simp; done) | (simp [*]; done)), H', ⟨by have := HK1.out; have := HK2.out; omega⟩, ⟨by (with_reducible repeat (first | apply Kd.R_alloc | apply Kd.R_drewN | apply Kd.R_drew)); exact Kd.R_mono (Kd.R_far (p := ⟨gb197, 1, none⟩) (Kd.R_types HO_200000.out BK197.out (by decide)) (fun _ hk => hk.2) (.int .u64 ((rd_T45 l1 x12_1).f1))) (fun _ hk => trivial)⟩, ⟨by (with_reducible repeat (first | refine blk_drewN ?_ _ | refine blk_drew ?_ | refine blk_alloc ?_ _)); refine blk_put (cs := #[.int .u64 x198000_1, .int .u64 x198001_1]) ?_ 1 _ rfl; (with_reducible repeat (first | refine blk_drewN ?_ _ | refine blk_drew ?_ | refine blk_alloc ?_ _)); exact BK197.out⟩, ⟨by (with_reducible repeat (first | refine blk_drewN ?_ _ | refine blk_drew ?_ | refine blk_alloc ?_ _)); refine blk_far ?_ NB198_197.out _; (with_reducible repeat (first | refine blk_drewN ?_ _ | refine blk_drew ?_ | refine blk_alloc ?_ _)); exact BK198.out⟩, ⟨by (with_reducible repeat (first | refine blk_drewN ?_ _ | refine blk_drew ?_ | refine blk_alloc ?_ _)); refine blk_far ?_ NB199_197.out _; (with_reducible repeat (first | refine blk_drewN ?_ _ | refine blk_drew ?_ | refine blk_alloc ?_ _)); exact BK199.out⟩, ⟨bB⟩⟩
     ·rw [if_neg c8] at H
      exact absurd H (by simp)
    ·rw [if_neg c7] at H
     exact absurd H (by simp)
   ·rw [if_neg c6] at H
    have c6b0 : decide (x12_1 < (l1.length : Int)) = false := decide_eq_false c6
    clear c6
    simp only [Option.some.injEq, Prod.mk.injEq] at H
    obtain ⟨rfl, rfl, rfl, rfl, rfl⟩ := H
    have hnb76 := NB199_197.out
    have hnc76 := NB197_199.out
    have hnb77 := NB199_198.out
    have hnc77 := NB198_199.out
    have hcz78_0 : wr.cell? ⟨gb199, 0, none⟩ = some (u200000) := (blk_cell BK199.out 0).trans rfl
    have hcz78_1 : wr.cell? ⟨gb199, 1, none⟩ = some (.int .u64 0) := (blk_cell BK199.out 1).trans rfl
    have hcz78_2 : wr.cell? ⟨gb199, 2, none⟩ = some (.int .u64 0) := (blk_cell BK199.out 2).trans rfl
    have hcz78_3 : wr.cell? ⟨gb199, 3, none⟩ = some (.int .i64 x200003_1) := (blk_cell BK199.out 3).trans rfl
    have hcz78_4 : wr.cell? ⟨gb199, 4, none⟩ = some (.int .i64 x200004_1) := (blk_cell BK199.out 4).trans rfl
    have hfz78_0 := blk_frozen BK199.out 0
    have hfz78_1 := blk_frozen BK199.out 1
    have hfz78_2 := blk_frozen BK199.out 2
    have hfz78_3 := blk_frozen BK199.out 3
    have hfz78_4 := blk_frozen BK199.out 4
    obtain ⟨Ao79, co79, eo79⟩ := Kd.R_slice HO_200000.out
    subst eo79
    have hnb80 := NB198_197.out
    have hnc80 := NB197_198.out
    have hcz81_0 : wr.cell? ⟨gb198, 0, none⟩ = some (.slice none 0 0) := (blk_cell BK198.out 0).trans rfl
    have hcz81_1 : wr.cell? ⟨gb198, 1, none⟩ = some (.int .u64 0) := (blk_cell BK198.out 1).trans rfl
    have hcz81_2 : wr.cell? ⟨gb198, 2, none⟩ = some (.int .u64 0) := (blk_cell BK198.out 2).trans rfl
    have hcz81_3 : wr.cell? ⟨gb198, 3, none⟩ = some (.int .i64 0) := (blk_cell BK198.out 3).trans rfl
    have hcz81_4 : wr.cell? ⟨gb198, 4, none⟩ = some (.int .i64 0) := (blk_cell BK198.out 4).trans rfl
    have hfz81_0 := blk_frozen BK198.out 0
    have hfz81_1 := blk_frozen BK198.out 1
    have hfz81_2 := blk_frozen BK198.out 2
    have hfz81_3 := blk_frozen BK198.out 3
    have hfz81_4 := blk_frozen BK198.out 4
    go_wp2
    refine bodyPost_ret (results_cell_row rfl _ _ gb198 39 #[.slice Ao79 x200000_1.length co79, .int .u64 0, .int .u64 0, .int .i64 x200003_1, .int .i64 x200004_1] (0, 0) _ rfl (by (with_reducible repeat (first | refine blk_drewN ?_ _ | refine blk_drew ?_ | refine blk_alloc ?_ _)); refine blk_put (cs := #[.slice Ao79 x200000_1.length co79, .int .u64 0, .int .u64 0, .int .i64 x200003_1, .int .i64 0]) ?_ 4 _ rfl; (with_reducible repeat (first | refine blk_drewN ?_ _ | refine blk_drew ?_ | refine blk_alloc ?_ _)); refine blk_put (cs := #[.slice Ao79 x200000_1.length co79, .int .u64 0, .int .u64 0, .int .i64 0, .int .i64 0]) ?_ 3 _ rfl; (with_reducible repeat (first | refine blk_drewN ?_ _ | refine blk_drew ?_ | refine blk_alloc ?_ _)); refine blk_put (cs := #[.slice Ao79 x200000_1.length co79, .int .u64 0, .int .u64 0, .int .i64 0, .int .i64 0]) ?_ 2 _ rfl; (with_reducible repeat (first | refine blk_drewN ?_ _ | refine blk_drew ?_ | refine blk_alloc ?_ _)); refine blk_put (cs := #[.slice Ao79 x200000_1.length co79, .int .u64 0, .int .u64 0, .int .i64 0, .int .i64 0]) ?_ 1 _ rfl; (with_reducible repeat (first | refine blk_drewN ?_ _ | refine blk_drew ?_ | refine blk_alloc ?_ _)); refine blk_put (cs := #[.slice none 0 0, .int .u64 0, .int .u64 0, .int .i64 0, .int .i64 0]) ?_ 0 _ rfl; (with_reducible repeat (first | refine blk_drewN ?_ _ | refine blk_drew ?_ | refine blk_alloc ?_ _)); exact BK198.out) Tryd.underlying39 rfl (by kernel_rfl)) rfl ?_
    exact ⟨_, by first | rfl | (simp [errW_none, errW_some] <;> rfl) | (simp [*, errW_none, errW_some] <;> rfl), by (with_reducible repeat (first | apply Kd.R_alloc | apply Kd.R_drewN | apply Kd.R_drew)); exact Kd.R_mono (Kd.R_far (p := ⟨gb198, 4, none⟩) (Kd.R_far (p := ⟨gb198, 3, none⟩) (Kd.R_far (p := ⟨gb198, 2, none⟩) (Kd.R_far (p := ⟨gb198, 1, none⟩) (Kd.R_far (p := ⟨gb198, 0, none⟩) (Kd.R_types HO_200000.out BK198.out (by decide)) (fun _ hk => hk.2) (.slice Ao79 x200000_1.length co79)) (fun _ hk => hk.2) (.int .u64 0)) (fun _ hk => hk.2) (.int .u64 0)) (fun _ hk => hk.2) (.int .i64 x200003_1)) (fun _ hk => hk.2) (.int .i64 x200004_1)) (fun _ hk => trivial), bB⟩

end Go.Proofs.YtkkkaegocinkeaaDoor.M

