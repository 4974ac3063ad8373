-- Written by a program of ours (wip/xp) out of the translation; Lean checks it.
import Derived.Test.YtkkkaegocinkeaaDoorSq
import Derived.Test.YtkkkaegocinkeaaDoorMm1
namespace Go.Proofs.YtkkkaegocinkeaaDoor.M
open Go.RowKit Go.Proofs.YtkkkaegocinkeaaDoorW.PrintWords Go.Proofs.YtkkkaegocinkeaaDoorW.PrintLast Go.Proofs.YtkkkaegocinkeaaDoorW.PrintMore
attribute [local go_sem] max2_int min2_int max_two min_two max_three min_three max_four min_four   -- for this text's walks alone
set_option linter.unusedVariables false
set_option linter.unusedSimpArgs false

/-! ### spec_NodeOf: function 42 -/
def spec_NodeOf.l0 : Nat → Int → Int → Int → Int → Option (Int × Int)
 | 0, _, _, _, _ => none
 | k + 1, x195000, x195001, x197000, x197001 => if 0 ≤ x197000 then (if (shr .u64 (IntKind.u64.wrap (x195001 - x195000)) x197000) > 1 then (spec_NodeOf.l0 k x195000 x195001 (IntKind.u64.wrap (x197000 + 1)) x197001) else (some (x197000, shr .u64 x195000 x197000))) else (none)
def spec_NodeOf.f (k : Nat) (a0_0 : Int) (a0_1 : Int) : Option (Int × Int) := spec_NodeOf.l0 k a0_0 a0_1 0 0
theorem spec_NodeOf.mono_l : ∀ k, (∀ y0 y1 y2 y3, LeO (spec_NodeOf.l0 k y0 y1 y2 y3) (spec_NodeOf.l0 (k + 1) y0 y1 y2 y3))
 | 0 => fun _ _ _ _ r h => by simp [spec_NodeOf.l0] at h
 | k + 1 => by
  have ih0 := spec_NodeOf.mono_l k
  ·intro y0 y1 y2 y3
   unfold spec_NodeOf.l0
   repeat' first
   | (with_reducible exact ih0 _ _ _ _)
   | (with_reducible exact LeO.refl _)
   | (with_reducible exact LeO.none _)
   | (with_reducible refine LeO.ite ?_ ?_)
   | (with_reducible refine LeO.bind ?_ (fun _ => ?_))
   | exact ih0 _ _ _ _
   | exact LeO.none _
   | refine LeO.ite ?_ ?_
   | refine LeO.bind ?_ (fun _ => ?_)
theorem spec_NodeOf.mono : ∀ a0 a1 k, LeO (spec_NodeOf.f k a0 a1) (spec_NodeOf.f (k + 1) a0 a1) := by
 intro a0 a1 k
 have ih0 := spec_NodeOf.mono_l k
 unfold spec_NodeOf.f
 repeat' first
   | (with_reducible exact ih0 _ _ _ _)
   | (with_reducible exact LeO.refl _)
   | (with_reducible exact LeO.none _)
   | (with_reducible refine LeO.ite ?_ ?_)
   | (with_reducible refine LeO.bind ?_ (fun _ => ?_))
   | exact ih0 _ _ _ _
   | exact LeO.none _
   | refine LeO.ite ?_ ?_
   | refine LeO.bind ?_ (fun _ => ?_)
set_option maxHeartbeats 8000000 in
set_option maxRecDepth 100000 in
theorem spec_NodeOf.calls (k : Nat) (a0_0 : Int) (a0_1 : Int) (r1 : Int) (r2 : Int) (w : World) (h : spec_NodeOf.f k a0_0 a0_1 = some (r1, r2)) :
  Calls Tryd.prog 42 #[.agg #[.int .u64 a0_0, .int .u64 a0_1]] w fun e w' => e = .returned (.agg #[.int .u64 r1, .int .u64 r2]) ∧ Below w.heap.size w w' := by
 have hu45 := Tryd.underlying45
 have hu28 := Tryd.underlying28
 have HB := Aside0.mk (Below.refl w.heap.size w)
 have H : (spec_NodeOf.l0 k a0_0 a0_1 0 0) = some (r1, r2) := h
 clear h
 have H' := Aside0.mk H
 clear H
 go_enter Tryd.func42, Tryd.ntmps42
 go_wp2_with (first | ((with_reducible refine gate_dst (N := 1) rfl ?_); refine box_event ?hg (N := 1) ?hd (cs := #[.int .u64 a0_0, .int .u64 a0_1]) (t := 45) ?hr ?_; (case hd => rfl); (case hg => rfl); (case hr => first | (go_simp; done) | (go_simp; rfl)); intro gb194 hg w2 hbox hb; have n0_ := Aside0.mk (below_step bB hb); have n1_ := Aside0.mk (hbox); have n2_ := Aside0.mk ((by rw [hg]; exact (below_size bB) : w.heap.size ≤ gb194)); have n3_ := Aside0.mk ((by rw [hg]; exact (below_size bB) : w.heap.size ≤ gb194)); clear HB; have HB := n0_; have BK194 := n1_; have GW194 := n2_; have GE194 := n3_; clear n0_ n1_ n2_ n3_; clear hb hbox hg) | ((with_reducible refine gate_dst (N := 2) rfl ?_); refine box_event ?hg (N := 2) ?hd (cs := #[.int .u64 0, .int .u64 0]) (t := 28) ?hr ?_; (case hd => rfl); (case hg => rfl); (case hr => first | (go_simp; done) | (go_simp; rfl)); intro gb195 hg w3 hbox hb; have n0_ := Aside0.mk (blk_below (g := gb194) (o := .cells #[.int .u64 a0_0, .int .u64 a0_1] 45 (0, 0)) (kB BK194.out) hb); have n1_ := Aside0.mk (below_step bB hb); have n2_ := Aside0.mk (hbox); have n3_ := Aside0.mk ((by rw [hg]; exact (below_size bB) : w.heap.size ≤ gb195)); have n4_ := Aside0.mk ((by rw [hg]; exact (below_size bB) : w.heap.size ≤ gb195)); have n5_ := Aside0.mk ((by rw [hg]; exact Nat.ne_of_lt (blk_lt (g := gb194) (o := .cells #[.int .u64 a0_0, .int .u64 a0_1] 45 (0, 0)) (kB BK194.out)) : gb194 ≠ gb195)); have n6_ := Aside0.mk ((by rw [hg]; exact Nat.ne_of_gt (blk_lt (g := gb194) (o := .cells #[.int .u64 a0_0, .int .u64 a0_1] 45 (0, 0)) (kB BK194.out)) : gb195 ≠ gb194)); clear BK194; clear HB; have BK194 := n0_; have HB := n1_; have BK195 := n2_; have GW195 := n3_; have GE195 := n4_; have NB194_195 := n5_; have NB195_194 := n6_; clear n0_ n1_ n2_ n3_ n4_ n5_ n6_; clear hb hbox hg) | ((with_reducible refine gate_dst (N := 3) rfl ?_); refine box_event ?hg (N := 3) ?hd (cs := #[.int .u64 0, .int .u64 0]) (t := 28) ?hr ?_; (case hd => rfl); (case hg => rfl); (case hr => first | (go_simp; done) | (go_simp; rfl)); intro gb196 hg w4 hbox hb; have n0_ := Aside0.mk (blk_below (g := gb194) (o := .cells #[.int .u64 a0_0, .int .u64 a0_1] 45 (0, 0)) (kB BK194.out) hb); have n1_ := Aside0.mk (blk_below (g := gb195) (o := .cells #[.int .u64 0, .int .u64 0] 28 (0, 0)) (kB BK195.out) hb); have n2_ := Aside0.mk (below_step bB hb); have n3_ := Aside0.mk (hbox); have n4_ := Aside0.mk ((by rw [hg]; exact (below_size bB) : w.heap.size ≤ gb196)); have n5_ := Aside0.mk ((by rw [hg]; exact (below_size bB) : w.heap.size ≤ gb196)); have n6_ := Aside0.mk ((by rw [hg]; exact Nat.ne_of_lt (blk_lt (g := gb194) (o := .cells #[.int .u64 a0_0, .int .u64 a0_1] 45 (0, 0)) (kB BK194.out)) : gb194 ≠ gb196)); have n7_ := Aside0.mk ((by rw [hg]; exact Nat.ne_of_gt (blk_lt (g := gb194) (o := .cells #[.int .u64 a0_0, .int .u64 a0_1] 45 (0, 0)) (kB BK194.out)) : gb196 ≠ gb194)); have n8_ := Aside0.mk ((by rw [hg]; exact Nat.ne_of_lt (blk_lt (g := gb195) (o := .cells #[.int .u64 0, .int .u64 0] 28 (0, 0)) (kB BK195.out)) : gb195 ≠ gb196)); have n9_ := Aside0.mk ((by rw [hg]; exact Nat.ne_of_gt (blk_lt (g := gb195) (o := .cells #[.int .u64 0, .int .u64 0] 28 (0, 0)) (kB BK195.out)) : gb196 ≠ gb195)); clear BK194; clear BK195; clear HB; have BK194 := n0_; have BK195 := n1_; have HB := n2_; have BK196 := n3_; have GW196 := n4_; have GE196 := n5_; have NB194_196 := n6_; have NB196_194 := n7_; have NB195_196 := n8_; have NB196_195 := n9_; clear n0_ n1_ n2_ n3_ n4_ n5_ n6_ n7_ n8_ n9_; clear hb hbox hg; have hnb5 := NB196_194.out; have hnc5 := NB194_196.out; have hnb6 := NB196_195.out; have hnc6 := NB195_196.out; have hcz7_0 : w4.cell? ⟨gb196, 0, none⟩ = some (.int .u64 0) := (blk_cell BK196.out 0).trans rfl; have hcz7_1 : w4.cell? ⟨gb196, 1, none⟩ = some (.int .u64 0) := (blk_cell BK196.out 1).trans rfl; have hfz7_0 := blk_frozen BK196.out 0; have hfz7_1 := blk_frozen BK196.out 1))
 try simp only [Act.put, List.setIfInBounds_toArray, List.set_cons_zero, List.set_cons_succ]
 go_loopg [] k (fun kq w' => ∃ (x197000_1 : Int), Aside0 (spec_NodeOf.l0 kq a0_0 a0_1 x197000_1 0 = some (r1, r2)) ∧ Aside0 (kq ≤ k) ∧ Aside0 (w'.heap[gb194]? = some (.cells #[.int .u64 a0_0, .int .u64 a0_1] 45 (0, 0))) ∧ Aside0 (w'.heap[gb195]? = some (.cells #[.int .u64 0, .int .u64 0] 28 (0, 0))) ∧ Aside0 (w'.heap[gb196]? = some (.cells #[.int .u64 x197000_1, .int .u64 0] 28 (0, 0))) ∧ Aside0 (Below w.heap.size w w'))
 case atStart => exact ⟨(0), H', ⟨Nat.le_refl _⟩, ⟨by (with_reducible repeat (first | refine blk_drewN ?_ _ | refine blk_drew ?_ | refine blk_alloc ?_ _)); refine blk_far ?_ NB194_196.out _; (with_reducible repeat (first | refine blk_drewN ?_ _ | refine blk_drew ?_ | refine blk_alloc ?_ _)); refine blk_far ?_ NB194_196.out _; (with_reducible repeat (first | refine blk_drewN ?_ _ | refine blk_drew ?_ | refine blk_alloc ?_ _)); exact BK194.out⟩, ⟨by (with_reducible repeat (first | refine blk_drewN ?_ _ | refine blk_drew ?_ | refine blk_alloc ?_ _)); refine blk_far ?_ NB195_196.out _; (with_reducible repeat (first | refine blk_drewN ?_ _ | refine blk_drew ?_ | refine blk_alloc ?_ _)); refine blk_far ?_ NB195_196.out _; (with_reducible repeat (first | refine blk_drewN ?_ _ | refine blk_drew ?_ | refine blk_alloc ?_ _)); exact BK195.out⟩, ⟨by (with_reducible repeat (first | refine blk_drewN ?_ _ | refine blk_drew ?_ | refine blk_alloc ?_ _)); refine blk_put (cs := #[.int .u64 0, .int .u64 0]) ?_ 1 _ rfl; (with_reducible repeat (first | refine blk_drewN ?_ _ | refine blk_drew ?_ | refine blk_alloc ?_ _)); refine blk_put (cs := #[.int .u64 0, .int .u64 0]) ?_ 0 _ rfl; (with_reducible repeat (first | refine blk_drewN ?_ _ | refine blk_drew ?_ | refine blk_alloc ?_ _)); exact BK196.out⟩, ⟨bB⟩⟩
 case round =>
  clear H'
  try clear p2
  try clear c4
  try clear c5
  try clear c6
  try clear hcz7_0
  try clear hcz7_1
  try clear hfz7_0
  try clear hfz7_1
  obtain ⟨x197000_1, HA, HK1, BK194, BK195, BK196, HB⟩ := hrel
  cases gk with
  | zero => exact absurd HA.out (by simp [spec_NodeOf.l0])
  | succ k1 =>
   have H := HA.out
   clear HA
   simp only [spec_NodeOf.l0] at H
   by_cases c8 : 0 ≤ x197000_1
   ·rw [if_pos c8] at H
    have c8b0 := eq_true c8
    have c8b1 : decide (0 ≤ x197000_1) = true := decide_eq_true c8
    clear c8
    obtain ⟨ji9, hji9⟩ : ∃ j_ : Int, (shr .u64 (IntKind.u64.wrap (a0_1 - a0_0)) x197000_1) = j_ := ⟨_, rfl⟩
    replace H : (if (ji9) > 1 then (spec_NodeOf.l0 k1 a0_0 a0_1 (IntKind.u64.wrap (x197000_1 + 1)) 0) else (some (x197000_1, shr .u64 a0_0 x197000_1))) = some (r1, r2) := by first | (rw [hji9] at H; exact H) | (simp only [hji9] at H ⊢; exact H)
    have hji9_ : ((IntKind.u64.wrap (a0_1 - a0_0)) / 2 ^ min x197000_1.toNat 64) = ji9 := hji9
    have hji9z : x197000_1 ≤ 64 → ((IntKind.u64.wrap (a0_1 - a0_0)) / 2 ^ x197000_1.toNat) = ji9 := shr_small hji9
    by_cases c10 : (ji9) > 1
    ·rw [if_pos c10] at H
     have c10b0 : decide (1 < (ji9)) = true := decide_eq_true c10
     clear c10
     have H' := Aside0.mk H
     clear H
     have hnb11 := NB194_195.out
     have hnc11 := NB195_194.out
     have hnb12 := NB194_196.out
     have hnc12 := NB196_194.out
     have hcz13_0 : wr.cell? ⟨gb194, 0, none⟩ = some (.int .u64 a0_0) := (blk_cell BK194.out 0).trans rfl
     have hcz13_1 : wr.cell? ⟨gb194, 1, none⟩ = some (.int .u64 a0_1) := (blk_cell BK194.out 1).trans rfl
     have hfz13_0 := blk_frozen BK194.out 0
     have hfz13_1 := blk_frozen BK194.out 1
     have hnb14 := NB196_195.out
     have hnc14 := NB195_196.out
     have hcz15_0 : wr.cell? ⟨gb196, 0, none⟩ = some (.int .u64 x197000_1) := (blk_cell BK196.out 0).trans rfl
     have hcz15_1 : wr.cell? ⟨gb196, 1, none⟩ = some (.int .u64 0) := (blk_cell BK196.out 1).trans rfl
     have hfz15_0 := blk_frozen BK196.out 0
     have hfz15_1 := blk_frozen BK196.out 1
     go_wp2
     go_roundg k1
     case measure => have := HK1.out; omega
     case rel => exact ⟨(IntKind.u64.wrap (x197000_1 + 1)), H', ⟨by have := HK1.out; omega⟩, ⟨by (with_reducible repeat (first | refine blk_drewN ?_ _ | refine blk_drew ?_ | refine blk_alloc ?_ _)); refine blk_far ?_ NB194_196.out _; (with_reducible repeat (first | refine blk_drewN ?_ _ | refine blk_drew ?_ | refine blk_alloc ?_ _)); exact BK194.out⟩, ⟨by (with_reducible repeat (first | refine blk_drewN ?_ _ | refine blk_drew ?_ | refine blk_alloc ?_ _)); refine blk_far ?_ NB195_196.out _; (with_reducible repeat (first | refine blk_drewN ?_ _ | refine blk_drew ?_ | refine blk_alloc ?_ _)); exact BK195.out⟩, ⟨by (with_reducible repeat (first | refine blk_drewN ?_ _ | refine blk_drew ?_ | refine blk_alloc ?_ _)); refine blk_put (cs := #[.int .u64 x197000_1, .int .u64 0]) ?_ 0 _ rfl; (with_reducible repeat (first | refine blk_drewN ?_ _ | refine blk_drew ?_ | refine blk_alloc ?_ _)); exact BK196.out⟩, ⟨bB⟩⟩
    ·rw [if_neg c10] at H
     have c10b0 : decide (1 < (ji9)) = false := decide_eq_false c10
     clear c10
     have c16b0 := eq_true (dA : 0 ≤ x197000_1)
     obtain ⟨ji17, hji17⟩ : ∃ j_ : Int, (shr .u64 a0_0 x197000_1) = j_ := ⟨_, rfl⟩
     replace H : (some (x197000_1, ji17)) = some (r1, r2) := by first | (rw [hji17] at H; exact H) | (simp only [hji17] at H ⊢; exact H)
     have hji17_ : (a0_0 / 2 ^ min x197000_1.toNat 64) = ji17 := hji17
     have hji17z : x197000_1 ≤ 64 → (a0_0 / 2 ^ x197000_1.toNat) = ji17 := shr_small hji17
     simp only [Option.some.injEq, Prod.mk.injEq] at H
     obtain ⟨rfl, rfl⟩ := H
     have hnb18 := NB194_195.out
     have hnc18 := NB195_194.out
     have hnb19 := NB194_196.out
     have hnc19 := NB196_194.out
     have hcz20_0 : wr.cell? ⟨gb194, 0, none⟩ = some (.int .u64 a0_0) := (blk_cell BK194.out 0).trans rfl
     have hcz20_1 : wr.cell? ⟨gb194, 1, none⟩ = some (.int .u64 a0_1) := (blk_cell BK194.out 1).trans rfl
     have hfz20_0 := blk_frozen BK194.out 0
     have hfz20_1 := blk_frozen BK194.out 1
     have hnb21 := NB196_195.out
     have hnc21 := NB195_196.out
     have hcz22_0 : wr.cell? ⟨gb196, 0, none⟩ = some (.int .u64 x197000_1) := (blk_cell BK196.out 0).trans rfl
     have hcz22_1 : wr.cell? ⟨gb196, 1, none⟩ = some (.int .u64 0) := (blk_cell BK196.out 1).trans rfl
     have hfz22_0 := blk_frozen BK196.out 0
     have hfz22_1 := blk_frozen BK196.out 1
     have hcz23_0 : wr.cell? ⟨gb195, 0, none⟩ = some (.int .u64 0) := (blk_cell BK195.out 0).trans rfl
     have hcz23_1 : wr.cell? ⟨gb195, 1, none⟩ = some (.int .u64 0) := (blk_cell BK195.out 1).trans rfl
     have hfz23_0 := blk_frozen BK195.out 0
     have hfz23_1 := blk_frozen BK195.out 1
     go_wp2
     refine bodyPost_ret (results_cell_row rfl _ _ gb195 28 #[.int .u64 x197000_1, .int .u64 ji17] (0, 0) _ rfl (by (with_reducible repeat (first | refine blk_drewN ?_ _ | refine blk_drew ?_ | refine blk_alloc ?_ _)); refine blk_put (cs := #[.int .u64 x197000_1, .int .u64 0]) ?_ 1 _ rfl; (with_reducible repeat (first | refine blk_drewN ?_ _ | refine blk_drew ?_ | refine blk_alloc ?_ _)); refine blk_put (cs := #[.int .u64 0, .int .u64 0]) ?_ 0 _ rfl; (with_reducible repeat (first | refine blk_drewN ?_ _ | refine blk_drew ?_ | refine blk_alloc ?_ _)); refine blk_far ?_ NB195_196.out _; (with_reducible repeat (first | refine blk_drewN ?_ _ | refine blk_drew ?_ | refine blk_alloc ?_ _)); exact BK195.out) Tryd.underlying28 rfl (by kernel_rfl)) rfl ?_
     exact ⟨by first | rfl | (simp [errW_none, errW_some] <;> rfl) | (simp only [← hji9, ← hji17]; first | rfl | (simp [errW_none, errW_some] <;> rfl)) | (simp [*, errW_none, errW_some] <;> rfl), bB⟩
   ·rw [if_neg c8] at H
    exact absurd H (by simp)

end Go.Proofs.YtkkkaegocinkeaaDoor.M

