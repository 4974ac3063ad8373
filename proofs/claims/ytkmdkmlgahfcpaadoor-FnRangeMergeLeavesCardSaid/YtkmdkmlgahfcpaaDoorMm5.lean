-- Written by a program of ours (wip/xp) out of the translation; Lean checks it.
import Derived.Test.YtkmdkmlgahfcpaaDoorSq
import Derived.Test.YtkmdkmlgahfcpaaDoorMm1
namespace Go.Proofs.YtkmdkmlgahfcpaaDoor.M
open Go.RowKit Go.Proofs.YtkmdkmlgahfcpaaDoorW.PrintWords Go.Proofs.YtkmdkmlgahfcpaaDoorW.PrintLast Go.Proofs.YtkmdkmlgahfcpaaDoorW.PrintMore
attribute [local go_sem] max2_int min2_int max_two min_two max_three min_three max_four min_four   -- for this text's walks alone
set_option linter.unusedVariables false
set_option linter.unusedSimpArgs false

/-! ### spec_Leaves: function 30 -/
def spec_Leaves.f (a0_0 : Int) (a0_1 : Int) : Option (Int × Int) := if 0 ≤ a0_0 then (some (shl .u64 a0_1 a0_0, shl .u64 (IntKind.u64.wrap (a0_1 + 1)) a0_0)) else (none)
set_option maxHeartbeats 8000000 in
set_option maxRecDepth 100000 in
theorem spec_Leaves.calls (a0_0 : Int) (a0_1 : Int) (r1 : Int) (r2 : Int) (w : World) (h : spec_Leaves.f a0_0 a0_1 = some (r1, r2)) :
  Calls Tryd.prog 30 #[.agg #[.int .u64 a0_0, .int .u64 a0_1]] w fun e w' => e = .returned (.agg #[.int .u64 r1, .int .u64 r2]) ∧ Below w.heap.size w w' := by
 have hu54 := Tryd.underlying54
 have hu57 := Tryd.underlying57
 have HB := Aside0.mk (Below.refl w.heap.size w)
 have H : (if 0 ≤ a0_0 then (some (shl .u64 a0_1 a0_0, shl .u64 (IntKind.u64.wrap (a0_1 + 1)) a0_0)) else (none)) = some (r1, r2) := h
 clear h
 by_cases c2 : 0 ≤ a0_0
 ·rw [if_pos c2] at H
  have c2b0 := eq_true c2
  have c2b1 : decide (0 ≤ a0_0) = true := decide_eq_true c2
  clear c2
  obtain ⟨ji3, hji3⟩ : ∃ j_ : Int, (shl .u64 a0_1 a0_0) = j_ := ⟨_, rfl⟩
  replace H : (some (ji3, shl .u64 (IntKind.u64.wrap (a0_1 + 1)) a0_0)) = some (r1, r2) := by first | (rw [hji3] at H; exact H) | (simp only [hji3] at H ⊢; exact H)
  have hji3_ : (IntKind.u64.wrap (a0_1 * 2 ^ min a0_0.toNat 64)) = ji3 := hji3
  have hji3z : a0_0 ≤ 64 → (IntKind.u64.wrap (a0_1 * 2 ^ a0_0.toNat)) = ji3 := shl_small hji3
  have c4b0 := eq_true (dA : 0 ≤ a0_0)
  obtain ⟨ji5, hji5⟩ : ∃ j_ : Int, (shl .u64 (IntKind.u64.wrap (a0_1 + 1)) a0_0) = j_ := ⟨_, rfl⟩
  replace H : (some (ji3, ji5)) = some (r1, r2) := by first | (rw [hji5] at H; exact H) | (simp only [hji5] at H ⊢; exact H)
  have hji5_ : (IntKind.u64.wrap ((IntKind.u64.wrap (a0_1 + 1)) * 2 ^ min a0_0.toNat 64)) = ji5 := hji5
  have hji5z : a0_0 ≤ 64 → (IntKind.u64.wrap ((IntKind.u64.wrap (a0_1 + 1)) * 2 ^ a0_0.toNat)) = ji5 := shl_small hji5
  simp only [Option.some.injEq, Prod.mk.injEq] at H
  obtain ⟨rfl, rfl⟩ := H
  go_enter Tryd.func30, Tryd.ntmps30
  go_wp2_with (first | ((with_reducible refine gate_dst (N := 1) rfl ?_); refine box_event ?hg (N := 1) ?hd (cs := #[.int .u64 a0_0, .int .u64 a0_1]) (t := 54) ?hr ?_; (case hd => rfl); (case hg => rfl); (case hr => first | (go_simp; done) | (go_simp; rfl)); intro gb130 hg w6 hbox hb; have n0_ := Aside0.mk (below_step bB hb); have n1_ := Aside0.mk (hbox); have n2_ := Aside0.mk ((by rw [hg]; exact (below_size bB) : w.heap.size ≤ gb130)); have n3_ := Aside0.mk ((by rw [hg]; exact (below_size bB) : w.heap.size ≤ gb130)); clear HB; have HB := n0_; have BK130 := n1_; have GW130 := n2_; have GE130 := n3_; clear n0_ n1_ n2_ n3_; clear hb hbox hg) | ((with_reducible refine gate_dst (N := 2) rfl ?_); refine box_event ?hg (N := 2) ?hd (cs := #[.int .u64 0, .int .u64 0]) (t := 57) ?hr ?_; (case hd => rfl); (case hg => rfl); (case hr => first | (go_simp; done) | (go_simp; rfl)); intro gb131 hg w7 hbox hb; have n0_ := Aside0.mk (blk_below (g := gb130) (o := .cells #[.int .u64 a0_0, .int .u64 a0_1] 54 (0, 0)) (kB BK130.out) hb); have n1_ := Aside0.mk (below_step bB hb); have n2_ := Aside0.mk (hbox); have n3_ := Aside0.mk ((by rw [hg]; exact (below_size bB) : w.heap.size ≤ gb131)); have n4_ := Aside0.mk ((by rw [hg]; exact (below_size bB) : w.heap.size ≤ gb131)); have n5_ := Aside0.mk ((by rw [hg]; exact Nat.ne_of_lt (blk_lt (g := gb130) (o := .cells #[.int .u64 a0_0, .int .u64 a0_1] 54 (0, 0)) (kB BK130.out)) : gb130 ≠ gb131)); have n6_ := Aside0.mk ((by rw [hg]; exact Nat.ne_of_gt (blk_lt (g := gb130) (o := .cells #[.int .u64 a0_0, .int .u64 a0_1] 54 (0, 0)) (kB BK130.out)) : gb131 ≠ gb130)); clear BK130; clear HB; have BK130 := n0_; have HB := n1_; have BK131 := n2_; have GW131 := n3_; have GE131 := n4_; have NB130_131 := n5_; have NB131_130 := n6_; clear n0_ n1_ n2_ n3_ n4_ n5_ n6_; clear hb hbox hg; have hnb8 := NB130_131.out; have hnc8 := NB131_130.out; have hcz9_0 : w7.cell? ⟨gb130, 0, none⟩ = some (.int .u64 a0_0) := (blk_cell BK130.out 0).trans rfl; have hcz9_1 : w7.cell? ⟨gb130, 1, none⟩ = some (.int .u64 a0_1) := (blk_cell BK130.out 1).trans rfl; have hfz9_0 := blk_frozen BK130.out 0; have hfz9_1 := blk_frozen BK130.out 1; have hcz10_0 : w7.cell? ⟨gb131, 0, none⟩ = some (.int .u64 0) := (blk_cell BK131.out 0).trans rfl; have hcz10_1 : w7.cell? ⟨gb131, 1, none⟩ = some (.int .u64 0) := (blk_cell BK131.out 1).trans rfl; have hfz10_0 := blk_frozen BK131.out 0; have hfz10_1 := blk_frozen BK131.out 1))
  refine bodyPost_ret (results_cell_row rfl _ _ gb131 57 #[.int .u64 ji3, .int .u64 ji5] (0, 0) _ rfl (by (with_reducible repeat (first | refine blk_drewN ?_ _ | refine blk_drew ?_ | refine blk_alloc ?_ _)); refine blk_put (cs := #[.int .u64 ji3, .int .u64 0]) ?_ 1 _ rfl; (with_reducible repeat (first | refine blk_drewN ?_ _ | refine blk_drew ?_ | refine blk_alloc ?_ _)); refine blk_put (cs := #[.int .u64 0, .int .u64 0]) ?_ 0 _ rfl; (with_reducible repeat (first | refine blk_drewN ?_ _ | refine blk_drew ?_ | refine blk_alloc ?_ _)); exact BK131.out) Tryd.underlying57 rfl (by kernel_rfl)) rfl ?_
  exact ⟨by first | rfl | (simp [errW_none, errW_some] <;> rfl) | (simp only [← hji3, ← hji5]; first | rfl | (simp [errW_none, errW_some] <;> rfl)) | (simp [*, errW_none, errW_some] <;> rfl), bB⟩
 ·rw [if_neg c2] at H
  exact absurd H (by simp)


/-! ### spec_Nodes: function 63 -/
mutual
def spec_Nodes.l0 : Nat → List (S54) → Int → Int → Option ((List (S54)))
 | 0, _, _, _ => none
 | k + 1, x3, x133000, x133001 => if x133000 < x133001 then (spec_Nodes.l1 k x3 0 x133000 x133001) else (some x3)
def spec_Nodes.l1 : Nat → List (S54) → Int → Int → Int → Option ((List (S54)))
 | 0, _, _, _, _ => none
 | k + 1, x3, x4, x133000, x133001 => if x4 < 63 then (if 0 ≤ x4 then (if (Go.bits .and .u64 (shr .u64 x133000 x4) 1) = 0 then (if 0 ≤ (IntKind.u64.wrap (x4 + 1)) then (if (shl .u64 1 (IntKind.u64.wrap (x4 + 1))) ≤ (IntKind.u64.wrap (x133001 - x133000)) then (spec_Nodes.l1 k x3 (IntKind.u64.wrap (x4 + 1)) x133000 x133001) else (if x3.length < 8796093022208 then (spec_Nodes.l0 k (x3 ++ [(⟨x4, shr .u64 x133000 x4⟩ : S54)]) (IntKind.u64.wrap (x133000 + (shl .u64 1 x4))) x133001) else (none))) else (none)) else (if x3.length < 8796093022208 then (spec_Nodes.l0 k (x3 ++ [(⟨x4, shr .u64 x133000 x4⟩ : S54)]) (IntKind.u64.wrap (x133000 + (shl .u64 1 x4))) x133001) else (none))) else (none)) else (if 0 ≤ x4 then (if x3.length < 8796093022208 then (spec_Nodes.l0 k (x3 ++ [(⟨x4, shr .u64 x133000 x4⟩ : S54)]) (IntKind.u64.wrap (x133000 + (shl .u64 1 x4))) x133001) else (none)) else (none))
end
def spec_Nodes.f (k : Nat) (a0_0 : Int) (a0_1 : Int) : Option ((List (S54))) := spec_Nodes.l0 k ([] : List (S54)) a0_0 a0_1
theorem spec_Nodes.mono_l : ∀ k, (∀ y0 y1 y2, LeO (spec_Nodes.l0 k y0 y1 y2) (spec_Nodes.l0 (k + 1) y0 y1 y2)) ∧ (∀ y0 y1 y2 y3, LeO (spec_Nodes.l1 k y0 y1 y2 y3) (spec_Nodes.l1 (k + 1) y0 y1 y2 y3))
 | 0 => ⟨fun _ _ _ r h => by simp [spec_Nodes.l0] at h, fun _ _ _ _ r h => by simp [spec_Nodes.l1] at h⟩
 | k + 1 => by
  obtain ⟨ih0, ih1⟩ := spec_Nodes.mono_l k
  refine ⟨?_, ?_⟩
  ·intro y0 y1 y2
   unfold spec_Nodes.l0
   repeat' first
   | (with_reducible exact ih0 _ _ _)
   | (with_reducible exact ih1 _ _ _ _)
   | (with_reducible exact LeO.refl _)
   | (with_reducible exact LeO.none _)
   | (with_reducible refine LeO.ite ?_ ?_)
   | (with_reducible refine LeO.bind ?_ (fun _ => ?_))
   | exact ih0 _ _ _
   | exact ih1 _ _ _ _
   | exact LeO.none _
   | refine LeO.ite ?_ ?_
   | refine LeO.bind ?_ (fun _ => ?_)
  ·intro y0 y1 y2 y3
   unfold spec_Nodes.l1
   repeat' first
   | (with_reducible exact ih0 _ _ _)
   | (with_reducible exact ih1 _ _ _ _)
   | (with_reducible exact LeO.refl _)
   | (with_reducible exact LeO.none _)
   | (with_reducible refine LeO.ite ?_ ?_)
   | (with_reducible refine LeO.bind ?_ (fun _ => ?_))
   | exact ih0 _ _ _
   | exact ih1 _ _ _ _
   | exact LeO.none _
   | refine LeO.ite ?_ ?_
   | refine LeO.bind ?_ (fun _ => ?_)
theorem spec_Nodes.mono : ∀ a0 a1 k, LeO (spec_Nodes.f k a0 a1) (spec_Nodes.f (k + 1) a0 a1) := by
 intro a0 a1 k
 obtain ⟨ih0, ih1⟩ := spec_Nodes.mono_l k
 unfold spec_Nodes.f
 repeat' first
   | (with_reducible exact ih0 _ _ _)
   | (with_reducible exact ih1 _ _ _ _)
   | (with_reducible exact LeO.refl _)
   | (with_reducible exact LeO.none _)
   | (with_reducible refine LeO.ite ?_ ?_)
   | (with_reducible refine LeO.bind ?_ (fun _ => ?_))
   | exact ih0 _ _ _
   | exact ih1 _ _ _ _
   | exact LeO.none _
   | refine LeO.ite ?_ ?_
   | refine LeO.bind ?_ (fun _ => ?_)
set_option maxHeartbeats 8000000 in
set_option maxRecDepth 100000 in
theorem spec_Nodes.calls (k : Nat) (a0_0 : Int) (a0_1 : Int) (r : List (S54)) (w : World) (h : spec_Nodes.f k a0_0 a0_1 = some r) :
  Calls Tryd.prog 63 #[.agg #[.int .u64 a0_0, .int .u64 a0_1]] w fun e w' => ∃ v0_ : Value, e = .returned (v0_) ∧ Kd.R k54 54 w' w.heap.size (fun _ => True) v0_ r ∧ Below w.heap.size w w' := by
 have hu57 := Tryd.underlying57
 have hu54 := Tryd.underlying54
 have HB := Aside0.mk (Below.refl w.heap.size w)
 have H : (spec_Nodes.l0 k ([] : List (S54)) a0_0 a0_1) = some r := h
 clear h
 have H' := Aside0.mk H
 clear H
 go_enter Tryd.func63, Tryd.ntmps63
 go_wp2_with (first | ((with_reducible refine gate_dst (N := 1) rfl ?_); refine box_event ?hg (N := 1) ?hd (cs := #[.int .u64 a0_0, .int .u64 a0_1]) (t := 57) ?hr ?_; (case hd => rfl); (case hg => rfl); (case hr => first | (go_simp; done) | (go_simp; rfl)); intro gb132 hg w2 hbox hb; have n0_ := Aside0.mk (below_step bB hb); have n1_ := Aside0.mk (hbox); have n2_ := Aside0.mk ((by rw [hg]; exact (below_size bB) : w.heap.size ≤ gb132)); have n3_ := Aside0.mk ((by rw [hg]; exact (below_size bB) : w.heap.size ≤ gb132)); clear HB; have HB := n0_; have BK132 := n1_; have GW132 := n2_; have GE132 := n3_; clear n0_ n1_ n2_ n3_; clear hb hbox hg))
 go_loopg [3] k (fun kq v3 w' => ∃ (x3_1 : List (S54)) (x133000_1 : Int), Aside0 (spec_Nodes.l0 kq x3_1 x133000_1 a0_1 = some r) ∧ Aside0 (kq ≤ k) ∧ Aside0 (Kd.R k54 54 w' w.heap.size (fun _ => True) v3 x3_1) ∧ Aside0 (w'.heap[gb132]? = some (.cells #[.int .u64 x133000_1, .int .u64 a0_1] 57 (0, 0))) ∧ Aside0 (Below w.heap.size w w'))
 case atStart => exact ⟨(([] : List (S54))), (a0_0), H', ⟨Nat.le_refl _⟩, ⟨by first | exact Kd.R_nil _ _ _ _ _ | exact Kd.N_nil _ _ _ _ _ | exact Kd.V_nil _ _ _ _ _ | exact Kd.Q_nil _ _ _ _ _ | exact Kd.S_nil _ _ _ _ _⟩, ⟨by (with_reducible repeat (first | refine blk_drewN ?_ _ | refine blk_drew ?_ | refine blk_alloc ?_ _)); exact BK132.out⟩, ⟨bB⟩⟩
 case round =>
  clear H'
  try clear p2
  obtain ⟨x3_1, x133000_1, HA, HK1, HO_3, BK132, HB⟩ := hrel
  cases gk with
  | zero => exact absurd HA.out (by simp [spec_Nodes.l0])
  | succ k1 =>
   have H := HA.out
   clear HA
   simp only [spec_Nodes.l0] at H
   by_cases c3 : x133000_1 < a0_1
   ·rw [if_pos c3] at H
    have c3b0 : decide (x133000_1 < a0_1) = true := decide_eq_true c3
    clear c3
    have H' := Aside0.mk H
    clear H
    have hcz4_0 : wr.cell? ⟨gb132, 0, none⟩ = some (.int .u64 x133000_1) := (blk_cell BK132.out 0).trans rfl
    have hcz4_1 : wr.cell? ⟨gb132, 1, none⟩ = some (.int .u64 a0_1) := (blk_cell BK132.out 1).trans rfl
    have hfz4_0 := blk_frozen BK132.out 0
    have hfz4_1 := blk_frozen BK132.out 1
    go_wp2
    go_loopg [4] k1 (fun kq v4 w' => ∃ (x4_2 : Int), v4 = .int .u64 x4_2 ∧ Aside0 (spec_Nodes.l1 kq x3_1 x4_2 x133000_1 a0_1 = some r) ∧ Aside0 (kq ≤ k1) ∧ Aside0 (Kd.R k54 54 w' w.heap.size (fun _ => True) u3 x3_1) ∧ Aside0 (w'.heap[gb132]? = some (.cells #[.int .u64 x133000_1, .int .u64 a0_1] 57 (0, 0))) ∧ Aside0 (Below w.heap.size w w'))
    case atStart => exact ⟨(0), (by first | rfl | (simp; done) | (simp [*]; done)), H', ⟨Nat.le_refl _⟩, ⟨kR HO_3.out⟩, ⟨by (with_reducible repeat (first | refine blk_drewN ?_ _ | refine blk_drew ?_ | refine blk_alloc ?_ _)); exact BK132.out⟩, ⟨bB⟩⟩
    case round =>
     clear H'
     try clear p2
     try clear c3
     try clear c3b0
     try clear hcz4_0
     try clear hcz4_1
     try clear hfz4_0
     try clear hfz4_1
     try clear p2
     obtain ⟨x4_2, rfl, HA, HK2, HO_3, BK132, HB⟩ := hrel
     cases gk with
     | zero => exact absurd HA.out (by simp [spec_Nodes.l1])
     | succ k2 =>
      have H := HA.out
      clear HA
      simp only [spec_Nodes.l1] at H
      by_cases c5 : x4_2 < 63
      ·rw [if_pos c5] at H
       have c5b0 : decide (x4_2 < 63) = true := decide_eq_true c5
       clear c5
       by_cases c6 : 0 ≤ x4_2
       ·rw [if_pos c6] at H
        have c6b0 := eq_true c6
        have c6b1 : decide (0 ≤ x4_2) = true := decide_eq_true c6
        clear c6
        obtain ⟨ji7, hji7⟩ : ∃ j_ : Int, (shr .u64 x133000_1 x4_2) = j_ := ⟨_, rfl⟩
        replace H : (if (Go.bits .and .u64 (ji7) 1) = 0 then (if 0 ≤ (IntKind.u64.wrap (x4_2 + 1)) then (if (shl .u64 1 (IntKind.u64.wrap (x4_2 + 1))) ≤ (IntKind.u64.wrap (a0_1 - x133000_1)) then (spec_Nodes.l1 k2 x3_1 (IntKind.u64.wrap (x4_2 + 1)) x133000_1 a0_1) else (if x3_1.length < 8796093022208 then (spec_Nodes.l0 k2 (x3_1 ++ [(⟨x4_2, ji7⟩ : S54)]) (IntKind.u64.wrap (x133000_1 + (shl .u64 1 x4_2))) a0_1) else (none))) else (none)) else (if x3_1.length < 8796093022208 then (spec_Nodes.l0 k2 (x3_1 ++ [(⟨x4_2, ji7⟩ : S54)]) (IntKind.u64.wrap (x133000_1 + (shl .u64 1 x4_2))) a0_1) else (none))) = some r := by first | (rw [hji7] at H; exact H) | (simp only [hji7] at H ⊢; exact H)
        have hji7_ : (x133000_1 / 2 ^ min x4_2.toNat 64) = ji7 := hji7
        have hji7z : x4_2 ≤ 64 → (x133000_1 / 2 ^ x4_2.toNat) = ji7 := shr_small hji7
        by_cases c8 : (Go.bits .and .u64 (ji7) 1) = 0
        ·rw [if_pos c8] at H
         have c8b0 : ((Go.bits .and .u64 (ji7) 1) == 0) = true := beq_iff_eq.mpr c8
         have c8b1 : ((Go.bits .and .u64 (ji7) 1) != 0) = false := bne_eq_false_iff_eq.mpr c8
         clear c8
         obtain ⟨ji9, hji9⟩ : ∃ j_ : Int, (IntKind.u64.wrap (x4_2 + 1)) = j_ := ⟨_, rfl⟩
         replace H : (if 0 ≤ (ji9) then (if (shl .u64 1 (ji9)) ≤ (IntKind.u64.wrap (a0_1 - x133000_1)) then (spec_Nodes.l1 k2 x3_1 ji9 x133000_1 a0_1) else (if x3_1.length < 8796093022208 then (spec_Nodes.l0 k2 (x3_1 ++ [(⟨x4_2, ji7⟩ : S54)]) (IntKind.u64.wrap (x133000_1 + (shl .u64 1 x4_2))) a0_1) else (none))) else (none)) = some r := by first | (rw [hji9] at H; exact H) | (simp only [hji9] at H ⊢; exact H)
         by_cases c10 : 0 ≤ (ji9)
         ·rw [if_pos c10] at H
          have c10b0 := eq_true c10
          have c10b1 : decide (0 ≤ (ji9)) = true := decide_eq_true c10
          clear c10
          obtain ⟨ji11, hji11⟩ : ∃ j_ : Int, (shl .u64 1 (ji9)) = j_ := ⟨_, rfl⟩
          replace H : (if (ji11) ≤ (IntKind.u64.wrap (a0_1 - x133000_1)) then (spec_Nodes.l1 k2 x3_1 ji9 x133000_1 a0_1) else (if x3_1.length < 8796093022208 then (spec_Nodes.l0 k2 (x3_1 ++ [(⟨x4_2, ji7⟩ : S54)]) (IntKind.u64.wrap (x133000_1 + (shl .u64 1 x4_2))) a0_1) else (none))) = some r := by first | (rw [hji11] at H; exact H) | (simp only [hji11] at H ⊢; exact H)
          have hji11_ : (IntKind.u64.wrap (1 * 2 ^ min (ji9).toNat 64)) = ji11 := hji11
          have hji11z : (ji9) ≤ 64 → (IntKind.u64.wrap (1 * 2 ^ (ji9).toNat)) = ji11 := shl_small hji11
          have hji11u : (IntKind.u64.wrap (2 ^ min (ji9).toNat 64)) = ji11 := by have h_ := hji11_; rw [Int.one_mul] at h_; exact h_
          have hji11v : (ji9) ≤ 64 → (IntKind.u64.wrap (2 ^ (ji9).toNat)) = ji11 := fun hle_ => by have h_ := hji11z hle_; rw [Int.one_mul] at h_; exact h_
          by_cases c12 : (ji11) ≤ (IntKind.u64.wrap (a0_1 - x133000_1))
          ·rw [if_pos c12] at H
           have c12b0 : decide ((ji11) ≤ (IntKind.u64.wrap (a0_1 - x133000_1))) = true := decide_eq_true c12
           clear c12
           have H' := Aside0.mk H
           clear H
           have hcz13_0 : wr.cell? ⟨gb132, 0, none⟩ = some (.int .u64 x133000_1) := (blk_cell BK132.out 0).trans rfl
           have hcz13_1 : wr.cell? ⟨gb132, 1, none⟩ = some (.int .u64 a0_1) := (blk_cell BK132.out 1).trans rfl
           have hfz13_0 := blk_frozen BK132.out 0
           have hfz13_1 := blk_frozen BK132.out 1
           go_wp2
           go_roundg k2
           case measure => have := HK1.out; have := HK2.out; omega
           case rel => exact ⟨(ji9), (by first | rfl | (simp; done) | (simp only [← hji9] <;> (first | rfl | simp)) | (simp [*]; done)), H', ⟨by have := HK1.out; have := HK2.out; omega⟩, ⟨kR HO_3.out⟩, ⟨by (with_reducible repeat (first | refine blk_drewN ?_ _ | refine blk_drew ?_ | refine blk_alloc ?_ _)); exact BK132.out⟩, ⟨bB⟩⟩
          ·rw [if_neg c12] at H
           have c12b0 : decide ((ji11) ≤ (IntKind.u64.wrap (a0_1 - x133000_1))) = false := decide_eq_false c12
           clear c12
           have c14b0 := eq_true (dA : 0 ≤ x4_2)
           by_cases c15 : x3_1.length < 8796093022208
           ·rw [if_pos c15] at H
            have LMc15 := Aside0.mk c15
            clear c15
            obtain ⟨y133, hy133⟩ : ∃ y_ : List (S54), y_ = (x3_1 ++ [(⟨x4_2, ji7⟩ : S54)]) := ⟨_, rfl⟩
            replace H : (spec_Nodes.l0 k2 y133 (IntKind.u64.wrap (x133000_1 + (shl .u64 1 x4_2))) a0_1) = some r := by first | (rw [hy133]; with_reducible exact H) | (have H2_ := (Option.bind_some _ _).symm.trans H; rw [hy133]; with_reducible exact H2_) | (have H2_ := (Option.bind_some _ _).symm.trans H; with_reducible exact H2_) | with_reducible exact H | (rw [hy133]; exact H) | exact H
            have Ny133 := Aside0.mk hy133
            clear hy133
            have c16b0 := eq_true (dA : 0 ≤ x4_2)
            obtain ⟨ji17, hji17⟩ : ∃ j_ : Int, (shl .u64 1 x4_2) = j_ := ⟨_, rfl⟩
            replace H : (spec_Nodes.l0 k2 y133 (IntKind.u64.wrap (x133000_1 + (ji17))) a0_1) = some r := by first | (rw [hji17] at H; exact H) | (simp only [hji17] at H ⊢; exact H)
            have hji17_ : (IntKind.u64.wrap (1 * 2 ^ min x4_2.toNat 64)) = ji17 := hji17
            have hji17z : x4_2 ≤ 64 → (IntKind.u64.wrap (1 * 2 ^ x4_2.toNat)) = ji17 := shl_small hji17
            have hji17u : (IntKind.u64.wrap (2 ^ min x4_2.toNat 64)) = ji17 := by have h_ := hji17_; rw [Int.one_mul] at h_; exact h_
            have hji17v : x4_2 ≤ 64 → (IntKind.u64.wrap (2 ^ x4_2.toNat)) = ji17 := fun hle_ => by have h_ := hji17z hle_; rw [Int.one_mul] at h_; exact h_
            have H' := Aside0.mk H
            clear H
            have hcz18_0 : wr.cell? ⟨gb132, 0, none⟩ = some (.int .u64 x133000_1) := (blk_cell BK132.out 0).trans rfl
            have hcz18_1 : wr.cell? ⟨gb132, 1, none⟩ = some (.int .u64 a0_1) := (blk_cell BK132.out 1).trans rfl
            have hfz18_0 := blk_frozen BK132.out 0
            have hfz18_1 := blk_frozen BK132.out 1
            go_wp2_with (first | ((with_reducible refine gate_builtin (b := .append) (xs := #[.tmp 33, .tmp 40]) rfl ?_); at_builtin; refine Kd.R_append k54 (w0 := w) w.heap.size rfl (.tmp 33) (.tmp 40) 66 54 (.agg #[(.int .u64 0), (.int .u64 0)]) 16 rfl Tryd.underlying66 info54 rfl (by decide) (by omega) u3 x3_1 (⟨x4_2, ji7⟩ : S54) [.int .u64 x4_2, .int .u64 ji7] (fun _ => True) (fun _ => False) rfl rfl ?aP (fun _ hk => hk.elim) ?aF ?aO ?aB ?aS ?aL ?_; (case aP => exact k54_mkM _ _ _ (⟨x4_2, ji7⟩ : S54)); (case aB => exact bB); (case aF => exact (fun _ _ => trivial)); (case aO => exact (kR HO_3.out)); (case aS => exact (below_size bB)); (case aL => have := LMc15.out; omega); intro v134 w19 ho hb hg hat; rw [← Ny133.out] at ho; have n0_ := Aside0.mk (blk_grown (g := gb132) (o := .cells #[.int .u64 x133000_1, .int .u64 a0_1] 57 (0, 0)) (kB BK132.out) hg (Kd.R_ne HO_3.out BK132.out (by decide))); have n1_ := Aside0.mk (hb); have n2_ := Aside0.mk (ho); clear BK132; clear HB; clear HO_3; have BK132 := n0_; have HB := n1_; have HO135 := n2_; clear n0_ n1_ n2_; clear ho hb hg hat; have hcz20_0 : w19.cell? ⟨gb132, 0, none⟩ = some (.int .u64 x133000_1) := (blk_cell BK132.out 0).trans rfl; have hcz20_1 : w19.cell? ⟨gb132, 1, none⟩ = some (.int .u64 a0_1) := (blk_cell BK132.out 1).trans rfl; have hfz20_0 := blk_frozen BK132.out 0; have hfz20_1 := blk_frozen BK132.out 1))
            go_roundg k2
            case measure => have := HK1.out; have := HK2.out; omega
            case rel => exact ⟨(y133), (IntKind.u64.wrap (x133000_1 + (ji17))), H', ⟨by have := HK1.out; have := HK2.out; omega⟩, ⟨by (with_reducible repeat (first | apply Kd.R_alloc | apply Kd.R_drewN | apply Kd.R_drew)); exact Kd.R_mono (Kd.R_far (p := ⟨gb132, 0, none⟩) (Kd.R_types HO135.out BK132.out (by decide)) (fun _ hk => hk.2) (.int .u64 (IntKind.u64.wrap (x133000_1 + (ji17))))) (fun _ hk => trivial)⟩, ⟨by (with_reducible repeat (first | refine blk_drewN ?_ _ | refine blk_drew ?_ | refine blk_alloc ?_ _)); refine blk_put (cs := #[.int .u64 x133000_1, .int .u64 a0_1]) ?_ 0 _ rfl; (with_reducible repeat (first | refine blk_drewN ?_ _ | refine blk_drew ?_ | refine blk_alloc ?_ _)); exact BK132.out⟩, ⟨bB⟩⟩
           ·rw [if_neg c15] at H
            exact absurd H (by simp)
         ·rw [if_neg c10] at H
          exact absurd H (by simp)
        ·rw [if_neg c8] at H
         have c8b0 : ((Go.bits .and .u64 (ji7) 1) == 0) = false := beq_eq_false_iff_ne.mpr c8
         have c8b1 : ((Go.bits .and .u64 (ji7) 1) != 0) = true := bne_iff_ne.mpr c8
         have c21b0 := eq_true (dA : 0 ≤ x4_2)
         by_cases c22 : x3_1.length < 8796093022208
         ·rw [if_pos c22] at H
          have LMc22 := Aside0.mk c22
          clear c22
          obtain ⟨y136, hy136⟩ : ∃ y_ : List (S54), y_ = (x3_1 ++ [(⟨x4_2, ji7⟩ : S54)]) := ⟨_, rfl⟩
          replace H : (spec_Nodes.l0 k2 y136 (IntKind.u64.wrap (x133000_1 + (shl .u64 1 x4_2))) a0_1) = some r := by first | (rw [hy136]; with_reducible exact H) | (have H2_ := (Option.bind_some _ _).symm.trans H; rw [hy136]; with_reducible exact H2_) | (have H2_ := (Option.bind_some _ _).symm.trans H; with_reducible exact H2_) | with_reducible exact H | (rw [hy136]; exact H) | exact H
          have Ny136 := Aside0.mk hy136
          clear hy136
          have c23b0 := eq_true (dA : 0 ≤ x4_2)
          obtain ⟨ji24, hji24⟩ : ∃ j_ : Int, (shl .u64 1 x4_2) = j_ := ⟨_, rfl⟩
          replace H : (spec_Nodes.l0 k2 y136 (IntKind.u64.wrap (x133000_1 + (ji24))) a0_1) = some r := by first | (rw [hji24] at H; exact H) | (simp only [hji24] at H ⊢; exact H)
          have hji24_ : (IntKind.u64.wrap (1 * 2 ^ min x4_2.toNat 64)) = ji24 := hji24
          have hji24z : x4_2 ≤ 64 → (IntKind.u64.wrap (1 * 2 ^ x4_2.toNat)) = ji24 := shl_small hji24
          have hji24u : (IntKind.u64.wrap (2 ^ min x4_2.toNat 64)) = ji24 := by have h_ := hji24_; rw [Int.one_mul] at h_; exact h_
          have hji24v : x4_2 ≤ 64 → (IntKind.u64.wrap (2 ^ x4_2.toNat)) = ji24 := fun hle_ => by have h_ := hji24z hle_; rw [Int.one_mul] at h_; exact h_
          have H' := Aside0.mk H
          clear H
          have hcz25_0 : wr.cell? ⟨gb132, 0, none⟩ = some (.int .u64 x133000_1) := (blk_cell BK132.out 0).trans rfl
          have hcz25_1 : wr.cell? ⟨gb132, 1, none⟩ = some (.int .u64 a0_1) := (blk_cell BK132.out 1).trans rfl
          have hfz25_0 := blk_frozen BK132.out 0
          have hfz25_1 := blk_frozen BK132.out 1
          go_wp2_with (first | ((with_reducible refine gate_builtin (b := .append) (xs := #[.tmp 33, .tmp 40]) rfl ?_); at_builtin; refine Kd.R_append k54 (w0 := w) w.heap.size rfl (.tmp 33) (.tmp 40) 66 54 (.agg #[(.int .u64 0), (.int .u64 0)]) 16 rfl Tryd.underlying66 info54 rfl (by decide) (by omega) u3 x3_1 (⟨x4_2, ji7⟩ : S54) [.int .u64 x4_2, .int .u64 ji7] (fun _ => True) (fun _ => False) rfl rfl ?aP (fun _ hk => hk.elim) ?aF ?aO ?aB ?aS ?aL ?_; (case aP => exact k54_mkM _ _ _ (⟨x4_2, ji7⟩ : S54)); (case aB => exact bB); (case aF => exact (fun _ _ => trivial)); (case aO => exact (kR HO_3.out)); (case aS => exact (below_size bB)); (case aL => have := LMc22.out; omega); intro v137 w26 ho hb hg hat; rw [← Ny136.out] at ho; have n0_ := Aside0.mk (blk_grown (g := gb132) (o := .cells #[.int .u64 x133000_1, .int .u64 a0_1] 57 (0, 0)) (kB BK132.out) hg (Kd.R_ne HO_3.out BK132.out (by decide))); have n1_ := Aside0.mk (hb); have n2_ := Aside0.mk (ho); clear BK132; clear HB; clear HO_3; have BK132 := n0_; have HB := n1_; have HO138 := n2_; clear n0_ n1_ n2_; clear ho hb hg hat; have hcz27_0 : w26.cell? ⟨gb132, 0, none⟩ = some (.int .u64 x133000_1) := (blk_cell BK132.out 0).trans rfl; have hcz27_1 : w26.cell? ⟨gb132, 1, none⟩ = some (.int .u64 a0_1) := (blk_cell BK132.out 1).trans rfl; have hfz27_0 := blk_frozen BK132.out 0; have hfz27_1 := blk_frozen BK132.out 1))
          go_roundg k2
          case measure => have := HK1.out; have := HK2.out; omega
          case rel => exact ⟨(y136), (IntKind.u64.wrap (x133000_1 + (ji24))), H', ⟨by have := HK1.out; have := HK2.out; omega⟩, ⟨by (with_reducible repeat (first | apply Kd.R_alloc | apply Kd.R_drewN | apply Kd.R_drew)); exact Kd.R_mono (Kd.R_far (p := ⟨gb132, 0, none⟩) (Kd.R_types HO138.out BK132.out (by decide)) (fun _ hk => hk.2) (.int .u64 (IntKind.u64.wrap (x133000_1 + (ji24))))) (fun _ hk => trivial)⟩, ⟨by (with_reducible repeat (first | refine blk_drewN ?_ _ | refine blk_drew ?_ | refine blk_alloc ?_ _)); refine blk_put (cs := #[.int .u64 x133000_1, .int .u64 a0_1]) ?_ 0 _ rfl; (with_reducible repeat (first | refine blk_drewN ?_ _ | refine blk_drew ?_ | refine blk_alloc ?_ _)); exact BK132.out⟩, ⟨bB⟩⟩
         ·rw [if_neg c22] at H
          exact absurd H (by simp)
       ·rw [if_neg c6] at H
        exact absurd H (by simp)
      ·rw [if_neg c5] at H
       have c5b0 : decide (x4_2 < 63) = false := decide_eq_false c5
       clear c5
       by_cases c28 : 0 ≤ x4_2
       ·rw [if_pos c28] at H
        have c28b0 := eq_true c28
        have c28b1 : decide (0 ≤ x4_2) = true := decide_eq_true c28
        clear c28
        obtain ⟨ji29, hji29⟩ : ∃ j_ : Int, (shr .u64 x133000_1 x4_2) = j_ := ⟨_, rfl⟩
        replace H : (if x3_1.length < 8796093022208 then (spec_Nodes.l0 k2 (x3_1 ++ [(⟨x4_2, ji29⟩ : S54)]) (IntKind.u64.wrap (x133000_1 + (shl .u64 1 x4_2))) a0_1) else (none)) = some r := by first | (rw [hji29] at H; exact H) | (simp only [hji29] at H ⊢; exact H)
        have hji29_ : (x133000_1 / 2 ^ min x4_2.toNat 64) = ji29 := hji29
        have hji29z : x4_2 ≤ 64 → (x133000_1 / 2 ^ x4_2.toNat) = ji29 := shr_small hji29
        by_cases c30 : x3_1.length < 8796093022208
        ·rw [if_pos c30] at H
         have LMc30 := Aside0.mk c30
         clear c30
         obtain ⟨y139, hy139⟩ : ∃ y_ : List (S54), y_ = (x3_1 ++ [(⟨x4_2, ji29⟩ : S54)]) := ⟨_, rfl⟩
         replace H : (spec_Nodes.l0 k2 y139 (IntKind.u64.wrap (x133000_1 + (shl .u64 1 x4_2))) a0_1) = some r := by first | (rw [hy139]; with_reducible exact H) | (have H2_ := (Option.bind_some _ _).symm.trans H; rw [hy139]; with_reducible exact H2_) | (have H2_ := (Option.bind_some _ _).symm.trans H; with_reducible exact H2_) | with_reducible exact H | (rw [hy139]; exact H) | exact H
         have Ny139 := Aside0.mk hy139
         clear hy139
         have c31b0 := eq_true (dA : 0 ≤ x4_2)
         obtain ⟨ji32, hji32⟩ : ∃ j_ : Int, (shl .u64 1 x4_2) = j_ := ⟨_, rfl⟩
         replace H : (spec_Nodes.l0 k2 y139 (IntKind.u64.wrap (x133000_1 + (ji32))) a0_1) = some r := by first | (rw [hji32] at H; exact H) | (simp only [hji32] at H ⊢; exact H)
         have hji32_ : (IntKind.u64.wrap (1 * 2 ^ min x4_2.toNat 64)) = ji32 := hji32
         have hji32z : x4_2 ≤ 64 → (IntKind.u64.wrap (1 * 2 ^ x4_2.toNat)) = ji32 := shl_small hji32
         have hji32u : (IntKind.u64.wrap (2 ^ min x4_2.toNat 64)) = ji32 := by have h_ := hji32_; rw [Int.one_mul] at h_; exact h_
         have hji32v : x4_2 ≤ 64 → (IntKind.u64.wrap (2 ^ x4_2.toNat)) = ji32 := fun hle_ => by have h_ := hji32z hle_; rw [Int.one_mul] at h_; exact h_
         have H' := Aside0.mk H
         clear H
         have hcz33_0 : wr.cell? ⟨gb132, 0, none⟩ = some (.int .u64 x133000_1) := (blk_cell BK132.out 0).trans rfl
         have hcz33_1 : wr.cell? ⟨gb132, 1, none⟩ = some (.int .u64 a0_1) := (blk_cell BK132.out 1).trans rfl
         have hfz33_0 := blk_frozen BK132.out 0
         have hfz33_1 := blk_frozen BK132.out 1
         go_wp2_with (first | ((with_reducible refine gate_builtin (b := .append) (xs := #[.tmp 33, .tmp 40]) rfl ?_); at_builtin; refine Kd.R_append k54 (w0 := w) w.heap.size rfl (.tmp 33) (.tmp 40) 66 54 (.agg #[(.int .u64 0), (.int .u64 0)]) 16 rfl Tryd.underlying66 info54 rfl (by decide) (by omega) u3 x3_1 (⟨x4_2, ji29⟩ : S54) [.int .u64 x4_2, .int .u64 ji29] (fun _ => True) (fun _ => False) rfl rfl ?aP (fun _ hk => hk.elim) ?aF ?aO ?aB ?aS ?aL ?_; (case aP => exact k54_mkM _ _ _ (⟨x4_2, ji29⟩ : S54)); (case aB => exact bB); (case aF => exact (fun _ _ => trivial)); (case aO => exact (kR HO_3.out)); (case aS => exact (below_size bB)); (case aL => have := LMc30.out; omega); intro v140 w34 ho hb hg hat; rw [← Ny139.out] at ho; have n0_ := Aside0.mk (blk_grown (g := gb132) (o := .cells #[.int .u64 x133000_1, .int .u64 a0_1] 57 (0, 0)) (kB BK132.out) hg (Kd.R_ne HO_3.out BK132.out (by decide))); have n1_ := Aside0.mk (hb); have n2_ := Aside0.mk (ho); clear BK132; clear HB; clear HO_3; have BK132 := n0_; have HB := n1_; have HO141 := n2_; clear n0_ n1_ n2_; clear ho hb hg hat; have hcz35_0 : w34.cell? ⟨gb132, 0, none⟩ = some (.int .u64 x133000_1) := (blk_cell BK132.out 0).trans rfl; have hcz35_1 : w34.cell? ⟨gb132, 1, none⟩ = some (.int .u64 a0_1) := (blk_cell BK132.out 1).trans rfl; have hfz35_0 := blk_frozen BK132.out 0; have hfz35_1 := blk_frozen BK132.out 1))
         go_roundg k2
         case measure => have := HK1.out; have := HK2.out; omega
         case rel => exact ⟨(y139), (IntKind.u64.wrap (x133000_1 + (ji32))), H', ⟨by have := HK1.out; have := HK2.out; omega⟩, ⟨by (with_reducible repeat (first | apply Kd.R_alloc | apply Kd.R_drewN | apply Kd.R_drew)); exact Kd.R_mono (Kd.R_far (p := ⟨gb132, 0, none⟩) (Kd.R_types HO141.out BK132.out (by decide)) (fun _ hk => hk.2) (.int .u64 (IntKind.u64.wrap (x133000_1 + (ji32))))) (fun _ hk => trivial)⟩, ⟨by (with_reducible repeat (first | refine blk_drewN ?_ _ | refine blk_drew ?_ | refine blk_alloc ?_ _)); refine blk_put (cs := #[.int .u64 x133000_1, .int .u64 a0_1]) ?_ 0 _ rfl; (with_reducible repeat (first | refine blk_drewN ?_ _ | refine blk_drew ?_ | refine blk_alloc ?_ _)); exact BK132.out⟩, ⟨bB⟩⟩
        ·rw [if_neg c30] at H
         exact absurd H (by simp)
       ·rw [if_neg c28] at H
        exact absurd H (by simp)
   ·rw [if_neg c3] at H
    have c3b0 : decide (x133000_1 < a0_1) = false := decide_eq_false c3
    clear c3
    obtain rfl := Option.some.inj H
    have hcz36_0 : wr.cell? ⟨gb132, 0, none⟩ = some (.int .u64 x133000_1) := (blk_cell BK132.out 0).trans rfl
    have hcz36_1 : wr.cell? ⟨gb132, 1, none⟩ = some (.int .u64 a0_1) := (blk_cell BK132.out 1).trans rfl
    have hfz36_0 := blk_frozen BK132.out 0
    have hfz36_1 := blk_frozen BK132.out 1
    go_wp2
    go_ret
    exact ⟨_, by first | rfl | (simp [errW_none, errW_some] <;> rfl) | (simp [*, errW_none, errW_some] <;> rfl), by (with_reducible repeat (first | apply Kd.R_alloc | apply Kd.R_drewN | apply Kd.R_drew)); exact HO_3.out, bB⟩

end Go.Proofs.YtkmdkmlgahfcpaaDoor.M

