-- Written by a program of ours (wip/xp) out of the translation; Lean checks it.
import Derived.Test.YtkmdkmlgahfcpaaDoorSq
import Derived.Test.YtkmdkmlgahfcpaaDoorMm1
import Derived.Test.YtkmdkmlgahfcpaaDoorMm5
import Derived.Test.YtkmdkmlgahfcpaaDoorMm7
namespace Go.Proofs.YtkmdkmlgahfcpaaDoor.M
open Go.RowKit Go.Proofs.YtkmdkmlgahfcpaaDoorW.PrintWords Go.Proofs.YtkmdkmlgahfcpaaDoorW.PrintLast Go.Proofs.YtkmdkmlgahfcpaaDoorW.PrintMore
attribute [local go_sem] max2_int min2_int max_two min_two max_three min_three max_four min_four   -- for this text's walks alone
set_option linter.unusedVariables false
set_option linter.unusedSimpArgs false

/-! ### spec_RangeOf: function 28 -/
def spec_RangeOf.l0 : Nat → Int → List (List Int) → List (S54) → Int → Int → Int → Int → Int → Int → Int → Int → Int → Int → List (List Int) → Option (Int × Int × (List (List Int)))
 | 0, _, _, _, _, _, _, _, _, _, _, _, _, _, _ => none
 | k + 1, x1, x2, x23, x24, x25, x217000, x217001, x217002, x217003, x217004, x217005, x219000, x219001, x219002 => if x25 < x24 then (if 0 ≤ x25 then (if x25 < (x23.length : Int) then ((spec_Leaves.f ((rd_T54 x23 x25).f0) ((rd_T54 x23 x25).f1)).bind fun bt224 => (if 0 ≤ (IntKind.u64.wrap (bt224.1 - x1)) then (if (IntKind.u64.wrap (bt224.1 - x1)) ≤ (IntKind.u64.wrap (bt224.2 - x1)) then (if (IntKind.u64.wrap (bt224.2 - x1)) ≤ (x2.length : Int) then ((spec_Root.f k x217000 x217001 x217002 x217003 x217004 x217005 ((x2.take ((IntKind.u64.wrap (bt224.2 - x1)) : Int).toNat).drop ((IntKind.u64.wrap (bt224.1 - x1)) : Int).toNat)).bind fun t232 => (if x219002.length < 5864062014805 then (spec_RangeOf.l0 k x1 x2 x23 x24 (wrap64 (x25 + 1)) x217000 x217001 x217002 x217003 x217004 x217005 x219000 x219001 (x219002 ++ [t232])) else (none))) else (none)) else (none)) else (none))) else (none)) else (none)) else (some (x219000, x219001, x219002))
def spec_RangeOf.f (k : Nat) (a0_0 : Int) (a0_1 : Int) (a0_2 : Int) (a0_3 : Int) (a0_4 : Int) (a0_5 : Int) (a1 : Int) (l2 : List (List Int)) : Option (Int × Int × (List (List Int))) := (spec_Nodes.f k a1 (IntKind.u64.wrap (a1 + (IntKind.u64.wrap ((l2.length : Int)))))).bind fun t219 => (spec_RangeOf.l0 k a1 l2 t219 (t219.length : Int) 0 a0_0 a0_1 a0_2 a0_3 a0_4 a0_5 a1 (IntKind.u64.wrap (a1 + (IntKind.u64.wrap ((l2.length : Int))))) ([] : List (List Int)))
theorem spec_RangeOf.mono_l : ∀ k, (∀ y0 y1 y2 y3 y4 y5 y6 y7 y8 y9 y10 y11 y12 y13, LeO (spec_RangeOf.l0 k y0 y1 y2 y3 y4 y5 y6 y7 y8 y9 y10 y11 y12 y13) (spec_RangeOf.l0 (k + 1) y0 y1 y2 y3 y4 y5 y6 y7 y8 y9 y10 y11 y12 y13))
 | 0 => fun _ _ _ _ _ _ _ _ _ _ _ _ _ _ r h => by simp [spec_RangeOf.l0] at h
 | k + 1 => by
  have ih0 := spec_RangeOf.mono_l k
  ·intro y0 y1 y2 y3 y4 y5 y6 y7 y8 y9 y10 y11 y12 y13
   unfold spec_RangeOf.l0
   repeat' first
   | (with_reducible exact ih0 _ _ _ _ _ _ _ _ _ _ _ _ _ _)
   | (with_reducible exact spec_Nodes.mono _ _ _)
   | (with_reducible exact spec_Root.mono _ _ _ _ _ _ _ _)
   | (with_reducible exact LeO.refl _)
   | (with_reducible exact LeO.none _)
   | (with_reducible refine LeO.ite ?_ ?_)
   | (with_reducible refine LeO.bind ?_ (fun _ => ?_))
   | exact ih0 _ _ _ _ _ _ _ _ _ _ _ _ _ _
   | exact spec_Nodes.mono _ _ _
   | exact spec_Root.mono _ _ _ _ _ _ _ _
   | exact LeO.none _
   | refine LeO.ite ?_ ?_
   | refine LeO.bind ?_ (fun _ => ?_)
theorem spec_RangeOf.mono : ∀ a0 a1 a2 a3 a4 a5 a6 a7 k, LeO (spec_RangeOf.f k a0 a1 a2 a3 a4 a5 a6 a7) (spec_RangeOf.f (k + 1) a0 a1 a2 a3 a4 a5 a6 a7) := by
 intro a0 a1 a2 a3 a4 a5 a6 a7 k
 have ih0 := spec_RangeOf.mono_l k
 unfold spec_RangeOf.f
 repeat' first
   | (with_reducible exact ih0 _ _ _ _ _ _ _ _ _ _ _ _ _ _)
   | (with_reducible exact spec_Nodes.mono _ _ _)
   | (with_reducible exact spec_Root.mono _ _ _ _ _ _ _ _)
   | (with_reducible exact LeO.refl _)
   | (with_reducible exact LeO.none _)
   | (with_reducible refine LeO.ite ?_ ?_)
   | (with_reducible refine LeO.bind ?_ (fun _ => ?_))
   | exact ih0 _ _ _ _ _ _ _ _ _ _ _ _ _ _
   | exact spec_Nodes.mono _ _ _
   | exact spec_Root.mono _ _ _ _ _ _ _ _
   | exact LeO.none _
   | refine LeO.ite ?_ ?_
   | refine LeO.bind ?_ (fun _ => ?_)
def spec_RangeOf.T6 : Bool × List (List Nat × List Nat) := (true, [([], []), ([0], [0]), ([], []), ([], []), ([], []), ([4], [4]), ([], []), ([5, 6], [5, 6]), ([], []), ([8], [8]), ([], []), ([9, 10], [9, 10]), ([3, 7, 11], [3, 7, 11]), ([2, 12], [2, 12]), ([13], [13]), ([1, 14, 13], [1, 14]), ([0, 1, 2, 3, 4, 5, 6, 7, 8, 9, 10, 11, 12, 13, 14, 15], []), ([16, 15, 15, 0, 1, 2, 3, 4, 5, 6, 7, 8, 9, 10, 11, 12, 13, 14, 15], [15, 16])])
def spec_RangeOf.B6 : List Nat := [0, 1, 0, 0, 0, 16, 0, 112, 0, 256, 0, 1792, 4088, 8188, 16380, 32767, 65535, 131071]
theorem spec_RangeOf.tab6 : rtab .any (opsOf Tryd.f28 6) = spec_RangeOf.T6 := by kernel_rfl
theorem spec_RangeOf.bits6 : waitsOk spec_RangeOf.T6.2 spec_RangeOf.B6 = true := by kernel_rfl
set_option maxHeartbeats 8000000 in
set_option maxRecDepth 100000 in
theorem spec_RangeOf.calls (k : Nat) (a0_0 : Int) (a0_1 : Int) (a0_2 : Int) (a0_3 : Int) (a0_4 : Int) (a0_5 : Int) (a1 : Int) (P2_ : Nat → Prop) (A2 : Option Addr) (c2 : Nat) (l2 : List (List Int)) (r1 : Int) (r2 : Int) (r3 : List (List Int)) (w : World) (hs2 : Kd.V (Kd.slice 5 (Kd.int .u8)) 27 w w.heap.size (fun k_ => P2_ k_) (.slice A2 l2.length c2) l2) (h : spec_RangeOf.f k a0_0 a0_1 a0_2 a0_3 a0_4 a0_5 a1 l2 = some (r1, r2, r3)) :
  Calls Tryd.prog 28 #[.agg #[.int .i64 a0_0, .int .i64 a0_1, .int .i64 a0_2, .int .u64 a0_3, .int .u64 a0_4, .int .u64 a0_5], .int .u64 a1, .slice A2 l2.length c2] w fun e w' => ∃ v2_ : Value, e = .returned (.agg #[.int .u64 r1, .int .u64 r2, v2_]) ∧ Kd.N (Kd.slice 5 (Kd.int .u8)) 27 w' w.heap.size (fun k_ => (P2_ k_ ∨ w.heap.size ≤ k_)) v2_ r3 ∧ Below w.heap.size w w' := by
 have hu24 := Tryd.underlying24
 have hu39 := Tryd.underlying39
 have hu57 := Tryd.underlying57
 have hu54 := Tryd.underlying54
 have HO2 := Aside0.mk (show Kd.V (Kd.slice 5 (Kd.int .u8)) 27 w w.heap.size (fun k_ => (P2_ k_ ∨ w.heap.size ≤ k_)) (.slice A2 l2.length c2) l2 from Kd.V_mono hs2 (fun k_ hk => .inl hk))
 have HB := Aside0.mk (Below.refl w.heap.size w)
 have H : ((spec_Nodes.f k a1 (IntKind.u64.wrap (a1 + (IntKind.u64.wrap ((l2.length : Int)))))).bind fun t219 => (spec_RangeOf.l0 k a1 l2 t219 (t219.length : Int) 0 a0_0 a0_1 a0_2 a0_3 a0_4 a0_5 a1 (IntKind.u64.wrap (a1 + (IntKind.u64.wrap ((l2.length : Int))))) ([] : List (List Int)))) = some (r1, r2, r3) := h
 clear h
 replace H := Option.bind_eq_some_iff.mp H
 obtain ⟨t219, A40, H⟩ := H
 replace H : (spec_RangeOf.l0 k a1 l2 t219 (t219.length : Int) 0 a0_0 a0_1 a0_2 a0_3 a0_4 a0_5 a1 (IntKind.u64.wrap (a1 + (IntKind.u64.wrap ((l2.length : Int))))) ([] : List (List Int))) = some (r1, r2, r3) := H
 have A4 := Aside0.mk A40
 clear A40
 have H' := Aside0.mk H
 clear H
 go_enter Tryd.func28, Tryd.ntmps28
 go_wp2_with (first | ((with_reducible refine gate_dst (N := 3) rfl ?_); refine box_event ?hg (N := 3) ?hd (cs := #[.int .i64 a0_0, .int .i64 a0_1, .int .i64 a0_2, .int .u64 a0_3, .int .u64 a0_4, .int .u64 a0_5]) (t := 24) ?hr ?_; (case hd => rfl); (case hg => rfl); (case hr => first | (go_simp; done) | (go_simp; rfl)); intro gb216 hg w5 hbox hb; have n0_ := Aside0.mk (Kd.V_below (Kd.V_elderB (kV HO2.out) gb216 (Nat.le_of_eq hg.symm)) hb); have n1_ := Aside0.mk (below_step bB hb); have n2_ := Aside0.mk (hbox); have n3_ := Aside0.mk ((by rw [hg]; exact (below_size bB) : w.heap.size ≤ gb216)); have n4_ := Aside0.mk ((by rw [hg]; exact (below_size bB) : w.heap.size ≤ gb216)); clear HO2; clear HB; have HO2 := n0_; have HB := n1_; have BK216 := n2_; have GW216 := n3_; have GE216 := n4_; clear n0_ n1_ n2_ n3_ n4_; clear hb hbox hg) | ((with_reducible refine gate_dst (N := 6) rfl ?_); refine box_event ?hg (N := 6) ?hd (cs := #[.int .u64 0, .int .u64 0, .slice none 0 0]) (t := 39) ?hr ?_; (case hd => rfl); (case hg => rfl); (case hr => first | (go_simp; done) | (go_simp; rfl)); intro gb217 hg w6 hbox hb; have n0_ := Aside0.mk (Kd.V_below (Kd.V_elderB (kV HO2.out) gb217 (Nat.le_of_eq hg.symm)) hb); have n1_ := Aside0.mk (blk_below (g := gb216) (o := .cells #[.int .i64 a0_0, .int .i64 a0_1, .int .i64 a0_2, .int .u64 a0_3, .int .u64 a0_4, .int .u64 a0_5] 24 (0, 0)) (kB BK216.out) hb); have n2_ := Aside0.mk (below_step bB hb); have n3_ := Aside0.mk (hbox); have n4_ := Aside0.mk ((by rw [hg]; exact (below_size bB) : w.heap.size ≤ gb217)); have n5_ := Aside0.mk ((by rw [hg]; exact (below_size bB) : w.heap.size ≤ gb217)); have n6_ := Aside0.mk ((by rw [hg]; exact Nat.ne_of_lt (blk_lt (g := gb216) (o := .cells #[.int .i64 a0_0, .int .i64 a0_1, .int .i64 a0_2, .int .u64 a0_3, .int .u64 a0_4, .int .u64 a0_5] 24 (0, 0)) (kB BK216.out)) : gb216 ≠ gb217)); have n7_ := Aside0.mk ((by rw [hg]; exact Nat.ne_of_gt (blk_lt (g := gb216) (o := .cells #[.int .i64 a0_0, .int .i64 a0_1, .int .i64 a0_2, .int .u64 a0_3, .int .u64 a0_4, .int .u64 a0_5] 24 (0, 0)) (kB BK216.out)) : gb217 ≠ gb216)); clear HO2; clear BK216; clear HB; have HO2 := n0_; have BK216 := n1_; have HB := n2_; have BK217 := n3_; have GW217 := n4_; have GE217 := n5_; have NB216_217 := n6_; have NB217_216 := n7_; clear n0_ n1_ n2_ n3_ n4_ n5_ n6_ n7_; clear hb hbox hg) | ((with_reducible refine gate_dst (N := 7) rfl ?_); refine box_event ?hg (N := 7) ?hd (cs := #[.int .u64 0, .int .u64 0, .slice none 0 0]) (t := 39) ?hr ?_; (case hd => rfl); (case hg => rfl); (case hr => first | (go_simp; done) | (go_simp; rfl)); intro gb218 hg w7 hbox hb; have n0_ := Aside0.mk (Kd.V_below (Kd.V_elderB (kV HO2.out) gb218 (Nat.le_of_eq hg.symm)) hb); have n1_ := Aside0.mk (blk_below (g := gb216) (o := .cells #[.int .i64 a0_0, .int .i64 a0_1, .int .i64 a0_2, .int .u64 a0_3, .int .u64 a0_4, .int .u64 a0_5] 24 (0, 0)) (kB BK216.out) hb); have n2_ := Aside0.mk (blk_below (g := gb217) (o := .cells #[.int .u64 0, .int .u64 0, .slice none 0 0] 39 (0, 0)) (kB BK217.out) hb); have n3_ := Aside0.mk (below_step bB hb); have n4_ := Aside0.mk (hbox); have n5_ := Aside0.mk ((by rw [hg]; exact (below_size bB) : w.heap.size ≤ gb218)); have n6_ := Aside0.mk ((by rw [hg]; exact (below_size bB) : w.heap.size ≤ gb218)); have n7_ := Aside0.mk ((by rw [hg]; exact Nat.ne_of_lt (blk_lt (g := gb216) (o := .cells #[.int .i64 a0_0, .int .i64 a0_1, .int .i64 a0_2, .int .u64 a0_3, .int .u64 a0_4, .int .u64 a0_5] 24 (0, 0)) (kB BK216.out)) : gb216 ≠ gb218)); have n8_ := Aside0.mk ((by rw [hg]; exact Nat.ne_of_gt (blk_lt (g := gb216) (o := .cells #[.int .i64 a0_0, .int .i64 a0_1, .int .i64 a0_2, .int .u64 a0_3, .int .u64 a0_4, .int .u64 a0_5] 24 (0, 0)) (kB BK216.out)) : gb218 ≠ gb216)); have n9_ := Aside0.mk ((by rw [hg]; exact Nat.ne_of_lt (blk_lt (g := gb217) (o := .cells #[.int .u64 0, .int .u64 0, .slice none 0 0] 39 (0, 0)) (kB BK217.out)) : gb217 ≠ gb218)); have n10_ := Aside0.mk ((by rw [hg]; exact Nat.ne_of_gt (blk_lt (g := gb217) (o := .cells #[.int .u64 0, .int .u64 0, .slice none 0 0] 39 (0, 0)) (kB BK217.out)) : gb218 ≠ gb217)); clear HO2; clear BK216; clear BK217; clear HB; have HO2 := n0_; have BK216 := n1_; have BK217 := n2_; have HB := n3_; have BK218 := n4_; have GW218 := n5_; have GE218 := n6_; have NB216_218 := n7_; have NB218_216 := n8_; have NB217_218 := n9_; have NB218_217 := n10_; clear n0_ n1_ n2_ n3_ n4_ n5_ n6_ n7_ n8_ n9_ n10_; clear hb hbox hg; have hnb8 := NB218_216.out; have hnc8 := NB216_218.out; have hnb9 := NB218_217.out; have hnc9 := NB217_218.out; have hcz10_0 : w7.cell? ⟨gb218, 0, none⟩ = some (.int .u64 0) := (blk_cell BK218.out 0).trans rfl; have hcz10_1 : w7.cell? ⟨gb218, 1, none⟩ = some (.int .u64 0) := (blk_cell BK218.out 1).trans rfl; have hcz10_2 : w7.cell? ⟨gb218, 2, none⟩ = some (.slice none 0 0) := (blk_cell BK218.out 2).trans rfl; have hfz10_0 := blk_frozen BK218.out 0; have hfz10_1 := blk_frozen BK218.out 1; have hfz10_2 := blk_frozen BK218.out 2) | ((with_reducible refine gate_callee (f := 63) rfl ?_); refine goesL_ (some 23) rfl rfl Tryd.func63 (by kernel_rfl) rfl #[.agg #[.int .u64 a1, .int .u64 (IntKind.u64.wrap (a1 + (IntKind.u64.wrap ((l2.length : Int)))))]] rfl aV ?_; (with_reducible refine (spec_Nodes.calls k a1 (IntKind.u64.wrap (a1 + (IntKind.u64.wrap ((l2.length : Int))))) t219 _ A4.out).mono ?_); rintro e w11 ⟨v220, rfl, ho0, hb⟩; refine ⟨_, rfl, ?_⟩; have n0_ := Aside0.mk (Kd.V_elder' (by (with_reducible repeat (first | apply Kd.V_alloc | apply Kd.V_drewN | apply Kd.V_drew)); exact (Kd.V_mono (Kd.V_far (p := ⟨gb218, 2, none⟩) (Kd.V_far (p := ⟨gb218, 1, none⟩) (Kd.V_far (p := ⟨gb218, 0, none⟩) (Kd.V_mono HO2.out (fun k_ hk => (⟨hk, hk.2⟩ : _ ∧ k_ ≠ gb218))) (fun _ hk => hk.2) (.int .u64 a1)) (fun _ hk => hk.2) (.int .u64 (IntKind.u64.wrap (a1 + (IntKind.u64.wrap ((l2.length : Int))))))) (fun _ hk => hk.2) (.slice none 0 0)) (fun _ h_ => h_.1))) (Kd.R_base ho0) hb); have n1_ := Aside0.mk (Kd.R_lower (Kd.R_newM (M := fun k_ => (w.heap.size ≤ k_)) ho0 (below_size bB) (fun k_ h_ => h_)) (below_size bB)); have n2_ := Aside0.mk (blk_below (g := gb216) (o := .cells #[.int .i64 a0_0, .int .i64 a0_1, .int .i64 a0_2, .int .u64 a0_3, .int .u64 a0_4, .int .u64 a0_5] 24 (0, 0)) (by (with_reducible repeat (first | refine blk_drewN ?_ _ | refine blk_drew ?_ | refine blk_alloc ?_ _)); refine blk_far ?_ NB216_218.out _; (with_reducible repeat (first | refine blk_drewN ?_ _ | refine blk_drew ?_ | refine blk_alloc ?_ _)); refine blk_far ?_ NB216_218.out _; (with_reducible repeat (first | refine blk_drewN ?_ _ | refine blk_drew ?_ | refine blk_alloc ?_ _)); refine blk_far ?_ NB216_218.out _; (with_reducible repeat (first | refine blk_drewN ?_ _ | refine blk_drew ?_ | refine blk_alloc ?_ _)); exact BK216.out) hb); have n3_ := Aside0.mk (blk_below (g := gb217) (o := .cells #[.int .u64 0, .int .u64 0, .slice none 0 0] 39 (0, 0)) (by (with_reducible repeat (first | refine blk_drewN ?_ _ | refine blk_drew ?_ | refine blk_alloc ?_ _)); refine blk_far ?_ NB217_218.out _; (with_reducible repeat (first | refine blk_drewN ?_ _ | refine blk_drew ?_ | refine blk_alloc ?_ _)); refine blk_far ?_ NB217_218.out _; (with_reducible repeat (first | refine blk_drewN ?_ _ | refine blk_drew ?_ | refine blk_alloc ?_ _)); refine blk_far ?_ NB217_218.out _; (with_reducible repeat (first | refine blk_drewN ?_ _ | refine blk_drew ?_ | refine blk_alloc ?_ _)); exact BK217.out) hb); have n4_ := Aside0.mk (blk_below (g := gb218) (o := .cells #[.int .u64 a1, .int .u64 (IntKind.u64.wrap (a1 + (IntKind.u64.wrap ((l2.length : Int))))), .slice none 0 0] 39 (0, 0)) (by (with_reducible repeat (first | refine blk_drewN ?_ _ | refine blk_drew ?_ | refine blk_alloc ?_ _)); refine blk_put (cs := #[.int .u64 a1, .int .u64 (IntKind.u64.wrap (a1 + (IntKind.u64.wrap ((l2.length : Int))))), .slice none 0 0]) ?_ 2 _ rfl; (with_reducible repeat (first | refine blk_drewN ?_ _ | refine blk_drew ?_ | refine blk_alloc ?_ _)); refine blk_put (cs := #[.int .u64 a1, .int .u64 0, .slice none 0 0]) ?_ 1 _ rfl; (with_reducible repeat (first | refine blk_drewN ?_ _ | refine blk_drew ?_ | refine blk_alloc ?_ _)); refine blk_put (cs := #[.int .u64 0, .int .u64 0, .slice none 0 0]) ?_ 0 _ rfl; (with_reducible repeat (first | refine blk_drewN ?_ _ | refine blk_drew ?_ | refine blk_alloc ?_ _)); exact BK218.out) hb); have n5_ := Aside0.mk (below_step bB hb); clear HO2; clear BK216; clear BK217; clear BK218; clear HB; have HO2 := n0_; have HO221 := n1_; have BK216 := n2_; have BK217 := n3_; have BK218 := n4_; have HB := n5_; clear n0_ n1_ n2_ n3_ n4_ n5_; (try clear hb); (try clear hb2); (try clear hk); (try clear hi); (try clear ho0); obtain ⟨Ao12, co12, eo12⟩ := Kd.R_slice HO221.out; subst eo12))
 go_loopg [25] k (fun kq v25 w' => ∃ (x25_1 : Int) (x219002_1 : List (List Int)) (u219002 : Value), v25 = .int .i64 x25_1 ∧ Aside0 (spec_RangeOf.l0 kq a1 l2 t219 (t219.length : Int) x25_1 a0_0 a0_1 a0_2 a0_3 a0_4 a0_5 a1 (IntKind.u64.wrap (a1 + (IntKind.u64.wrap ((l2.length : Int))))) x219002_1 = some (r1, r2, r3)) ∧ Aside0 (kq ≤ k) ∧ Aside0 (Kd.V (Kd.slice 5 (Kd.int .u8)) 27 w' w.heap.size (fun k_ => (P2_ k_ ∨ w.heap.size ≤ k_) ∧ some k_ ≠ ((.slice Ao12 t219.length co12) : Value).ownBlock ∧ some k_ ≠ (u219002 : Value).ownBlock ∧ k_ ≠ gb216 ∧ k_ ≠ gb217 ∧ k_ ≠ gb218) (.slice A2 l2.length c2) l2) ∧ Aside0 (Kd.R k54 54 w' w.heap.size (fun k_ => (w.heap.size ≤ k_)) (.slice Ao12 t219.length co12) t219) ∧ Aside0 (Kd.N (Kd.slice 5 (Kd.int .u8)) 27 w' w.heap.size (fun k_ => (P2_ k_ ∨ w.heap.size ≤ k_) ∧ some k_ ≠ ((.slice Ao12 t219.length co12) : Value).ownBlock ∧ k_ ≠ gb216 ∧ k_ ≠ gb217 ∧ k_ ≠ gb218) u219002 x219002_1) ∧ Aside0 (w'.heap[gb216]? = some (.cells #[.int .i64 a0_0, .int .i64 a0_1, .int .i64 a0_2, .int .u64 a0_3, .int .u64 a0_4, .int .u64 a0_5] 24 (0, 0))) ∧ Aside0 (w'.heap[gb217]? = some (.cells #[.int .u64 0, .int .u64 0, (.slice none 0 0)] 39 (0, 0))) ∧ Aside0 (w'.heap[gb218]? = some (.cells #[.int .u64 a1, .int .u64 (IntKind.u64.wrap (a1 + (IntKind.u64.wrap ((l2.length : Int))))), u219002] 39 (0, 0))) ∧ Aside0 (Below w.heap.size w w'))
 case atStart => exact ⟨(0), (([] : List (List Int))), (.slice none 0 0), (by first | rfl | (simp; done) | (simp [*]; done)), H', ⟨Nat.le_refl _⟩, ⟨by (with_reducible repeat (first | apply Kd.V_alloc | apply Kd.V_drewN | apply Kd.V_drew)); exact Kd.V_mono HO2.out (fun _ hk => ⟨hk.1.1.1.1, ⟨hk.2, ⟨(by simp [Value.ownBlock]), ⟨hk.1.1.1.2, ⟨hk.1.1.2, hk.1.2⟩⟩⟩⟩⟩)⟩, ⟨by (with_reducible repeat (first | apply Kd.R_alloc | apply Kd.R_drewN | apply Kd.R_drew)); exact Kd.R_mono HO221.out (fun _ hk => hk.1)⟩, ⟨by first | exact Kd.S_nil _ _ _ _ _ | exact Kd.N_nil _ _ _ _ _ | exact Kd.V_nil _ _ _ _ _ | exact Kd.Q_nil _ _ _ _ _ | exact Kd.R_nil _ _ _ _ _⟩, ⟨by (with_reducible repeat (first | refine blk_drewN ?_ _ | refine blk_drew ?_ | refine blk_alloc ?_ _)); exact BK216.out⟩, ⟨by (with_reducible repeat (first | refine blk_drewN ?_ _ | refine blk_drew ?_ | refine blk_alloc ?_ _)); exact BK217.out⟩, ⟨by (with_reducible repeat (first | refine blk_drewN ?_ _ | refine blk_drew ?_ | refine blk_alloc ?_ _)); exact BK218.out⟩, ⟨bB⟩⟩
 case round =>
  clear H'
  try clear c2
  try clear p2
  try clear c6
  try clear c8
  try clear c9
  try clear hcz10_0
  try clear hcz10_1
  try clear hcz10_2
  try clear hfz10_0
  try clear hfz10_1
  try clear hfz10_2
  obtain ⟨x25_1, x219002_1, u219002, rfl, HA, HK1, HO_2, HO_23, HO_219002, BK216, BK217, BK218, HB⟩ := hrel
  cases gk with
  | zero => exact absurd HA.out (by simp [spec_RangeOf.l0])
  | succ k1 =>
   have H := HA.out
   clear HA
   simp only [spec_RangeOf.l0] at H
   by_cases c13 : x25_1 < (t219.length : Int)
   ·rw [if_pos c13] at H
    have c13b0 : decide (x25_1 < (t219.length : Int)) = true := decide_eq_true c13
    clear c13
    by_cases c14 : 0 ≤ x25_1
    ·rw [if_pos c14] at H
     have c14b0 : decide (0 ≤ x25_1) = true := decide_eq_true c14
     clear c14
     by_cases c15 : x25_1 < (t219.length : Int)
     ·rw [if_pos c15] at H
      have c15b0 : decide (x25_1 < (t219.length : Int)) = true := decide_eq_true c15
      clear c15
      replace H := Option.bind_eq_some_iff.mp H
      obtain ⟨⟨t224, t225⟩, A160, H⟩ := H
      replace H : (if 0 ≤ (IntKind.u64.wrap (t224 - a1)) then (if (IntKind.u64.wrap (t224 - a1)) ≤ (IntKind.u64.wrap (t225 - a1)) then (if (IntKind.u64.wrap (t225 - a1)) ≤ (l2.length : Int) then ((spec_Root.f k1 a0_0 a0_1 a0_2 a0_3 a0_4 a0_5 ((l2.take ((IntKind.u64.wrap (t225 - a1)) : Int).toNat).drop ((IntKind.u64.wrap (t224 - a1)) : Int).toNat)).bind fun t232 => (if x219002_1.length < 5864062014805 then (spec_RangeOf.l0 k1 a1 l2 t219 (t219.length : Int) (wrap64 (x25_1 + 1)) a0_0 a0_1 a0_2 a0_3 a0_4 a0_5 a1 (IntKind.u64.wrap (a1 + (IntKind.u64.wrap ((l2.length : Int))))) (x219002_1 ++ [t232])) else (none))) else (none)) else (none)) else (none)) = some (r1, r2, r3) := H
      have A16 := Aside0.mk A160
      clear A160
      obtain ⟨ji17, hji17⟩ : ∃ j_ : Int, (IntKind.u64.wrap (t224 - a1)) = j_ := ⟨_, rfl⟩
      replace H : (if 0 ≤ (ji17) then (if (ji17) ≤ (IntKind.u64.wrap (t225 - a1)) then (if (IntKind.u64.wrap (t225 - a1)) ≤ (l2.length : Int) then ((spec_Root.f k1 a0_0 a0_1 a0_2 a0_3 a0_4 a0_5 ((l2.take ((IntKind.u64.wrap (t225 - a1)) : Int).toNat).drop ((ji17) : Int).toNat)).bind fun t232 => (if x219002_1.length < 5864062014805 then (spec_RangeOf.l0 k1 a1 l2 t219 (t219.length : Int) (wrap64 (x25_1 + 1)) a0_0 a0_1 a0_2 a0_3 a0_4 a0_5 a1 (IntKind.u64.wrap (a1 + (IntKind.u64.wrap ((l2.length : Int))))) (x219002_1 ++ [t232])) else (none))) else (none)) else (none)) else (none)) = some (r1, r2, r3) := by first | (rw [hji17] at H; exact H) | (simp only [hji17] at H ⊢; exact H)
      (try rw [hji17] at A16)
      by_cases c18 : 0 ≤ (ji17)
      ·rw [if_pos c18] at H
       have c18b0 := eq_true c18
       have c18b1 : decide (0 ≤ (ji17)) = true := decide_eq_true c18
       clear c18
       by_cases c19 : (ji17) ≤ (IntKind.u64.wrap (t225 - a1))
       ·rw [if_pos c19] at H
        have c19b0 := eq_true c19
        have c19b1 : decide ((ji17) ≤ (IntKind.u64.wrap (t225 - a1))) = true := decide_eq_true c19
        clear c19
        by_cases c20 : (IntKind.u64.wrap (t225 - a1)) ≤ (l2.length : Int)
        ·rw [if_pos c20] at H
         have c20b0 := eq_true c20
         have c20b1 : decide ((IntKind.u64.wrap (t225 - a1)) ≤ (l2.length : Int)) = true := decide_eq_true c20
         clear c20
         obtain ⟨y227, hy227⟩ : ∃ y_ : List (List Int), y_ = ((l2.take ((IntKind.u64.wrap (t225 - a1)) : Int).toNat).drop ((ji17) : Int).toNat) := ⟨_, rfl⟩
         replace H : ((spec_Root.f k1 a0_0 a0_1 a0_2 a0_3 a0_4 a0_5 y227).bind fun t232 => (if x219002_1.length < 5864062014805 then (spec_RangeOf.l0 k1 a1 l2 t219 (t219.length : Int) (wrap64 (x25_1 + 1)) a0_0 a0_1 a0_2 a0_3 a0_4 a0_5 a1 (IntKind.u64.wrap (a1 + (IntKind.u64.wrap ((l2.length : Int))))) (x219002_1 ++ [t232])) else (none))) = some (r1, r2, r3) := by first | (rw [hy227]; with_reducible exact H) | (have H2_ := (Option.bind_some _ _).symm.trans H; rw [hy227]; with_reducible exact H2_) | (have H2_ := (Option.bind_some _ _).symm.trans H; with_reducible exact H2_) | with_reducible exact H | (rw [hy227]; exact H) | exact H
         have Ny227 := Aside0.mk hy227
         clear hy227
         replace H := Option.bind_eq_some_iff.mp H
         obtain ⟨t232, A210, H⟩ := H
         replace H : (if x219002_1.length < 5864062014805 then (spec_RangeOf.l0 k1 a1 l2 t219 (t219.length : Int) (wrap64 (x25_1 + 1)) a0_0 a0_1 a0_2 a0_3 a0_4 a0_5 a1 (IntKind.u64.wrap (a1 + (IntKind.u64.wrap ((l2.length : Int))))) (x219002_1 ++ [t232])) else (none)) = some (r1, r2, r3) := H
         have A21 := Aside0.mk A210
         clear A210
         by_cases c22 : x219002_1.length < 5864062014805
         ·rw [if_pos c22] at H
          have LMc22 := Aside0.mk c22
          clear c22
          obtain ⟨y235, hy235⟩ : ∃ y_ : List (List Int), y_ = (x219002_1 ++ [t232]) := ⟨_, rfl⟩
          replace H : (spec_RangeOf.l0 k1 a1 l2 t219 (t219.length : Int) (wrap64 (x25_1 + 1)) a0_0 a0_1 a0_2 a0_3 a0_4 a0_5 a1 (IntKind.u64.wrap (a1 + (IntKind.u64.wrap ((l2.length : Int))))) y235) = some (r1, r2, r3) := by first | (rw [hy235]; with_reducible exact H) | (have H2_ := (Option.bind_some _ _).symm.trans H; rw [hy235]; with_reducible exact H2_) | (have H2_ := (Option.bind_some _ _).symm.trans H; with_reducible exact H2_) | with_reducible exact H | (rw [hy235]; exact H) | exact H
          have Ny235 := Aside0.mk hy235
          clear hy235
          have H' := Aside0.mk H
          clear H
          have p222 : 0 ≤ (x25_1 : Int) := dA
          have q222 : x25_1 < (t219.length : Int) := dA
          obtain ⟨ad222, e222, hx222_0, hx222_1⟩ := at_T54 (Kd.R_reads' HO_23.out).2.2 x25_1 p222 q222
          cases e222
          replace p222 := eq_true p222
          replace q222 := eq_true q222
          try go_wp2_with (first | ((with_reducible refine gate_dst (N := 9) rfl ?_); refine box_event ?hg (N := 9) ?hd (cs := #[.int .u64 0, .int .u64 0]) (t := 54) ?hr ?_; (case hd => rfl); (case hg => rfl); (case hr => first | (go_simp; done) | (go_simp; rfl)); intro gb223 hg w23 hbox hb; have n0_ := Aside0.mk (Kd.V_below (Kd.V_elderB (kV HO_2.out) gb223 (Nat.le_of_eq hg.symm)) hb); have n1_ := Aside0.mk (Kd.R_below (Kd.R_elderB (kR HO_23.out) gb223 (Nat.le_of_eq hg.symm)) hb); have n2_ := Aside0.mk (Kd.N_below (Kd.N_elderB (by (with_reducible repeat (first | apply Kd.N_alloc | apply Kd.N_drewN | apply Kd.N_drew)); exact HO_219002.out) gb223 (Nat.le_of_eq hg.symm)) hb); have n3_ := Aside0.mk (blk_below (g := gb216) (o := .cells #[.int .i64 a0_0, .int .i64 a0_1, .int .i64 a0_2, .int .u64 a0_3, .int .u64 a0_4, .int .u64 a0_5] 24 (0, 0)) (kB BK216.out) hb); have n4_ := Aside0.mk (blk_below (g := gb217) (o := .cells #[.int .u64 0, .int .u64 0, .slice none 0 0] 39 (0, 0)) (kB BK217.out) hb); have n5_ := Aside0.mk (blk_below (g := gb218) (o := .cells #[.int .u64 a1, .int .u64 (IntKind.u64.wrap (a1 + (IntKind.u64.wrap ((l2.length : Int))))), u219002] 39 (0, 0)) (kB BK218.out) hb); have n6_ := Aside0.mk (below_step bB hb); have n7_ := Aside0.mk (hbox); have n8_ := Aside0.mk ((by rw [hg]; exact (below_size bB) : w.heap.size ≤ gb223)); have n9_ := Aside0.mk ((by rw [hg]; exact (below_size bB) : w.heap.size ≤ gb223)); have n10_ := Aside0.mk ((by rw [hg]; exact Nat.ne_of_lt (blk_lt (g := gb216) (o := .cells #[.int .i64 a0_0, .int .i64 a0_1, .int .i64 a0_2, .int .u64 a0_3, .int .u64 a0_4, .int .u64 a0_5] 24 (0, 0)) (kB BK216.out)) : gb216 ≠ gb223)); have n11_ := Aside0.mk ((by rw [hg]; exact Nat.ne_of_gt (blk_lt (g := gb216) (o := .cells #[.int .i64 a0_0, .int .i64 a0_1, .int .i64 a0_2, .int .u64 a0_3, .int .u64 a0_4, .int .u64 a0_5] 24 (0, 0)) (kB BK216.out)) : gb223 ≠ gb216)); have n12_ := Aside0.mk ((by rw [hg]; exact Nat.ne_of_lt (blk_lt (g := gb217) (o := .cells #[.int .u64 0, .int .u64 0, .slice none 0 0] 39 (0, 0)) (kB BK217.out)) : gb217 ≠ gb223)); have n13_ := Aside0.mk ((by rw [hg]; exact Nat.ne_of_gt (blk_lt (g := gb217) (o := .cells #[.int .u64 0, .int .u64 0, .slice none 0 0] 39 (0, 0)) (kB BK217.out)) : gb223 ≠ gb217)); have n14_ := Aside0.mk ((by rw [hg]; exact Nat.ne_of_lt (blk_lt (g := gb218) (o := .cells #[.int .u64 a1, .int .u64 (IntKind.u64.wrap (a1 + (IntKind.u64.wrap ((l2.length : Int))))), u219002] 39 (0, 0)) (kB BK218.out)) : gb218 ≠ gb223)); have n15_ := Aside0.mk ((by rw [hg]; exact Nat.ne_of_gt (blk_lt (g := gb218) (o := .cells #[.int .u64 a1, .int .u64 (IntKind.u64.wrap (a1 + (IntKind.u64.wrap ((l2.length : Int))))), u219002] 39 (0, 0)) (kB BK218.out)) : gb223 ≠ gb218)); clear HO_2; clear HO_23; clear HO_219002; clear BK216; clear BK217; clear BK218; clear HB; have HO_2 := n0_; have HO_23 := n1_; have HO_219002 := n2_; have BK216 := n3_; have BK217 := n4_; have BK218 := n5_; have HB := n6_; have BK223 := n7_; have GW223 := n8_; have GE223 := n9_; have NB216_223 := n10_; have NB223_216 := n11_; have NB217_223 := n12_; have NB223_217 := n13_; have NB218_223 := n14_; have NB223_218 := n15_; clear n0_ n1_ n2_ n3_ n4_ n5_ n6_ n7_ n8_ n9_ n10_ n11_ n12_ n13_ n14_ n15_; clear hb hbox hg; have hnb24 := NB223_216.out; have hnc24 := NB216_223.out; have hnb25 := NB223_217.out; have hnc25 := NB217_223.out; have hnb26 := NB223_218.out; have hnc26 := NB218_223.out; have hcz27_0 : w23.cell? ⟨gb223, 0, none⟩ = some (.int .u64 0) := (blk_cell BK223.out 0).trans rfl; have hcz27_1 : w23.cell? ⟨gb223, 1, none⟩ = some (.int .u64 0) := (blk_cell BK223.out 1).trans rfl; have hfz27_0 := blk_frozen BK223.out 0; have hfz27_1 := blk_frozen BK223.out 1) | ((with_reducible refine gate_callee (f := 30) rfl ?_); refine goesL_ (some 30) rfl rfl Tryd.func30 (by kernel_rfl) rfl #[.agg #[.int .u64 ((rd_T54 t219 x25_1).f0), .int .u64 ((rd_T54 t219 x25_1).f1)]] rfl aV ?_; (with_reducible refine (spec_Leaves.calls ((rd_T54 t219 x25_1).f0) ((rd_T54 t219 x25_1).f1) t224 t225 _ A16.out).mono ?_); rintro e w28 ⟨rfl, hb⟩; refine ⟨_, rfl, ?_⟩; have n0_ := Aside0.mk (Kd.V_below (by (with_reducible repeat (first | apply Kd.V_alloc | apply Kd.V_drewN | apply Kd.V_drew)); exact (Kd.V_mono (Kd.V_far (p := ⟨gb223, 1, none⟩) (Kd.V_far (p := ⟨gb223, 0, none⟩) (Kd.V_mono HO_2.out (fun k_ hk => (⟨hk, hk.2⟩ : _ ∧ k_ ≠ gb223))) (fun _ hk => hk.2) (.int .u64 ((rd_T54 t219 x25_1).f0))) (fun _ hk => hk.2) (.int .u64 ((rd_T54 t219 x25_1).f1))) (fun _ h_ => h_.1))) hb); have n1_ := Aside0.mk (Kd.R_below (by (with_reducible repeat (first | apply Kd.R_alloc | apply Kd.R_drewN | apply Kd.R_drew)); exact (Kd.R_mono (Kd.R_far (p := ⟨gb223, 1, none⟩) (Kd.R_far (p := ⟨gb223, 0, none⟩) (Kd.R_mono HO_23.out (fun k_ hk => (⟨hk, hk.2⟩ : _ ∧ k_ ≠ gb223))) (fun _ hk => hk.2) (.int .u64 ((rd_T54 t219 x25_1).f0))) (fun _ hk => hk.2) (.int .u64 ((rd_T54 t219 x25_1).f1))) (fun _ h_ => h_.1))) hb); have n2_ := Aside0.mk (Kd.N_below (by (with_reducible repeat (first | apply Kd.N_alloc | apply Kd.N_drewN | apply Kd.N_drew)); exact (Kd.N_mono (Kd.N_far (p := ⟨gb223, 1, none⟩) (Kd.N_far (p := ⟨gb223, 0, none⟩) (Kd.N_mono HO_219002.out (fun k_ hk => (⟨hk, hk.2⟩ : _ ∧ k_ ≠ gb223))) (fun _ hk => hk.2) (.int .u64 ((rd_T54 t219 x25_1).f0))) (fun _ hk => hk.2) (.int .u64 ((rd_T54 t219 x25_1).f1))) (fun _ h_ => h_.1))) hb); have n3_ := Aside0.mk (blk_below (g := gb216) (o := .cells #[.int .i64 a0_0, .int .i64 a0_1, .int .i64 a0_2, .int .u64 a0_3, .int .u64 a0_4, .int .u64 a0_5] 24 (0, 0)) (by (with_reducible repeat (first | refine blk_drewN ?_ _ | refine blk_drew ?_ | refine blk_alloc ?_ _)); refine blk_far ?_ NB216_223.out _; (with_reducible repeat (first | refine blk_drewN ?_ _ | refine blk_drew ?_ | refine blk_alloc ?_ _)); refine blk_far ?_ NB216_223.out _; (with_reducible repeat (first | refine blk_drewN ?_ _ | refine blk_drew ?_ | refine blk_alloc ?_ _)); exact BK216.out) hb); have n4_ := Aside0.mk (blk_below (g := gb217) (o := .cells #[.int .u64 0, .int .u64 0, .slice none 0 0] 39 (0, 0)) (by (with_reducible repeat (first | refine blk_drewN ?_ _ | refine blk_drew ?_ | refine blk_alloc ?_ _)); refine blk_far ?_ NB217_223.out _; (with_reducible repeat (first | refine blk_drewN ?_ _ | refine blk_drew ?_ | refine blk_alloc ?_ _)); refine blk_far ?_ NB217_223.out _; (with_reducible repeat (first | refine blk_drewN ?_ _ | refine blk_drew ?_ | refine blk_alloc ?_ _)); exact BK217.out) hb); have n5_ := Aside0.mk (blk_below (g := gb218) (o := .cells #[.int .u64 a1, .int .u64 (IntKind.u64.wrap (a1 + (IntKind.u64.wrap ((l2.length : Int))))), u219002] 39 (0, 0)) (by (with_reducible repeat (first | refine blk_drewN ?_ _ | refine blk_drew ?_ | refine blk_alloc ?_ _)); refine blk_far ?_ NB218_223.out _; (with_reducible repeat (first | refine blk_drewN ?_ _ | refine blk_drew ?_ | refine blk_alloc ?_ _)); refine blk_far ?_ NB218_223.out _; (with_reducible repeat (first | refine blk_drewN ?_ _ | refine blk_drew ?_ | refine blk_alloc ?_ _)); exact BK218.out) hb); have n6_ := Aside0.mk (blk_below (g := gb223) (o := .cells #[.int .u64 ((rd_T54 t219 x25_1).f0), .int .u64 ((rd_T54 t219 x25_1).f1)] 54 (0, 0)) (by (with_reducible repeat (first | refine blk_drewN ?_ _ | refine blk_drew ?_ | refine blk_alloc ?_ _)); refine blk_put (cs := #[.int .u64 ((rd_T54 t219 x25_1).f0), .int .u64 0]) ?_ 1 _ rfl; (with_reducible repeat (first | refine blk_drewN ?_ _ | refine blk_drew ?_ | refine blk_alloc ?_ _)); refine blk_put (cs := #[.int .u64 0, .int .u64 0]) ?_ 0 _ rfl; (with_reducible repeat (first | refine blk_drewN ?_ _ | refine blk_drew ?_ | refine blk_alloc ?_ _)); exact BK223.out) hb); have n7_ := Aside0.mk (below_step bB hb); clear HO_2; clear HO_23; clear HO_219002; clear BK216; clear BK217; clear BK218; clear BK223; clear HB; have HO_2 := n0_; have HO_23 := n1_; have HO_219002 := n2_; have BK216 := n3_; have BK217 := n4_; have BK218 := n5_; have BK223 := n6_; have HB := n7_; clear n0_ n1_ n2_ n3_ n4_ n5_ n6_ n7_; (try clear hb); (try clear hb2); (try clear hk); (try clear hi)) | ((with_reducible refine gate_dst (N := 10) rfl ?_); refine box_event ?hg (N := 10) ?hd (cs := #[.int .u64 0, .int .u64 0]) (t := 57) ?hr ?_; (case hd => rfl); (case hg => rfl); (case hr => first | (go_simp; done) | (go_simp; rfl)); intro gb226 hg w29 hbox hb; have n0_ := Aside0.mk (Kd.V_below (Kd.V_elderB (kV HO_2.out) gb226 (Nat.le_of_eq hg.symm)) hb); have n1_ := Aside0.mk (Kd.R_below (kR HO_23.out) hb); have n2_ := Aside0.mk (Kd.N_below (Kd.N_elderB (by (with_reducible repeat (first | apply Kd.N_alloc | apply Kd.N_drewN | apply Kd.N_drew)); exact HO_219002.out) gb226 (Nat.le_of_eq hg.symm)) hb); have n3_ := Aside0.mk (blk_below (g := gb216) (o := .cells #[.int .i64 a0_0, .int .i64 a0_1, .int .i64 a0_2, .int .u64 a0_3, .int .u64 a0_4, .int .u64 a0_5] 24 (0, 0)) (kB BK216.out) hb); have n4_ := Aside0.mk (blk_below (g := gb217) (o := .cells #[.int .u64 0, .int .u64 0, .slice none 0 0] 39 (0, 0)) (kB BK217.out) hb); have n5_ := Aside0.mk (blk_below (g := gb218) (o := .cells #[.int .u64 a1, .int .u64 (IntKind.u64.wrap (a1 + (IntKind.u64.wrap ((l2.length : Int))))), u219002] 39 (0, 0)) (kB BK218.out) hb); have n6_ := Aside0.mk (blk_below (g := gb223) (o := .cells #[.int .u64 ((rd_T54 t219 x25_1).f0), .int .u64 ((rd_T54 t219 x25_1).f1)] 54 (0, 0)) (kB BK223.out) hb); have n7_ := Aside0.mk (below_step bB hb); have n8_ := Aside0.mk (hbox); have n9_ := Aside0.mk ((by rw [hg]; exact (below_size bB) : w.heap.size ≤ gb226)); have n10_ := Aside0.mk ((by rw [hg]; exact (below_size bB) : w.heap.size ≤ gb226)); have n11_ := Aside0.mk ((by rw [hg]; exact Nat.ne_of_lt (blk_lt (g := gb216) (o := .cells #[.int .i64 a0_0, .int .i64 a0_1, .int .i64 a0_2, .int .u64 a0_3, .int .u64 a0_4, .int .u64 a0_5] 24 (0, 0)) (kB BK216.out)) : gb216 ≠ gb226)); have n12_ := Aside0.mk ((by rw [hg]; exact Nat.ne_of_gt (blk_lt (g := gb216) (o := .cells #[.int .i64 a0_0, .int .i64 a0_1, .int .i64 a0_2, .int .u64 a0_3, .int .u64 a0_4, .int .u64 a0_5] 24 (0, 0)) (kB BK216.out)) : gb226 ≠ gb216)); have n13_ := Aside0.mk ((by rw [hg]; exact Nat.ne_of_lt (blk_lt (g := gb217) (o := .cells #[.int .u64 0, .int .u64 0, .slice none 0 0] 39 (0, 0)) (kB BK217.out)) : gb217 ≠ gb226)); have n14_ := Aside0.mk ((by rw [hg]; exact Nat.ne_of_gt (blk_lt (g := gb217) (o := .cells #[.int .u64 0, .int .u64 0, .slice none 0 0] 39 (0, 0)) (kB BK217.out)) : gb226 ≠ gb217)); have n15_ := Aside0.mk ((by rw [hg]; exact Nat.ne_of_lt (blk_lt (g := gb218) (o := .cells #[.int .u64 a1, .int .u64 (IntKind.u64.wrap (a1 + (IntKind.u64.wrap ((l2.length : Int))))), u219002] 39 (0, 0)) (kB BK218.out)) : gb218 ≠ gb226)); have n16_ := Aside0.mk ((by rw [hg]; exact Nat.ne_of_gt (blk_lt (g := gb218) (o := .cells #[.int .u64 a1, .int .u64 (IntKind.u64.wrap (a1 + (IntKind.u64.wrap ((l2.length : Int))))), u219002] 39 (0, 0)) (kB BK218.out)) : gb226 ≠ gb218)); have n17_ := Aside0.mk ((by rw [hg]; exact Nat.ne_of_lt (blk_lt (g := gb223) (o := .cells #[.int .u64 ((rd_T54 t219 x25_1).f0), .int .u64 ((rd_T54 t219 x25_1).f1)] 54 (0, 0)) (kB BK223.out)) : gb223 ≠ gb226)); have n18_ := Aside0.mk ((by rw [hg]; exact Nat.ne_of_gt (blk_lt (g := gb223) (o := .cells #[.int .u64 ((rd_T54 t219 x25_1).f0), .int .u64 ((rd_T54 t219 x25_1).f1)] 54 (0, 0)) (kB BK223.out)) : gb226 ≠ gb223)); clear HO_2; clear HO_23; clear HO_219002; clear BK216; clear BK217; clear BK218; clear BK223; clear HB; have HO_2 := n0_; have HO_23 := n1_; have HO_219002 := n2_; have BK216 := n3_; have BK217 := n4_; have BK218 := n5_; have BK223 := n6_; have HB := n7_; have BK226 := n8_; have GW226 := n9_; have GE226 := n10_; have NB216_226 := n11_; have NB226_216 := n12_; have NB217_226 := n13_; have NB226_217 := n14_; have NB218_226 := n15_; have NB226_218 := n16_; have NB223_226 := n17_; have NB226_223 := n18_; clear n0_ n1_ n2_ n3_ n4_ n5_ n6_ n7_ n8_ n9_ n10_ n11_ n12_ n13_ n14_ n15_ n16_ n17_ n18_; clear hb hbox hg; have hnb30 := NB226_216.out; have hnc30 := NB216_226.out; have hnb31 := NB226_217.out; have hnc31 := NB217_226.out; have hnb32 := NB226_218.out; have hnc32 := NB218_226.out; have hnb33 := NB226_223.out; have hnc33 := NB223_226.out; have hcz34_0 : w29.cell? ⟨gb226, 0, none⟩ = some (.int .u64 0) := (blk_cell BK226.out 0).trans rfl; have hcz34_1 : w29.cell? ⟨gb226, 1, none⟩ = some (.int .u64 0) := (blk_cell BK226.out 1).trans rfl; have hfz34_0 := blk_frozen BK226.out 0; have hfz34_1 := blk_frozen BK226.out 1))
          have n0_ : Aside0 (Kd.V (Kd.slice 5 (Kd.int .u8)) 27 ((w29.setCell ⟨gb226, 0, none⟩ (.int .u64 t224)).setCell ⟨gb226, 1, none⟩ (.int .u64 t225)) w.heap.size (fun k_ => (P2_ k_ ∨ w.heap.size ≤ k_) ∧ some k_ ≠ (.slice (some ad222) t219.length co12 : Value).ownBlock ∧ some k_ ≠ (u219002 : Value).ownBlock ∧ k_ ≠ gb216 ∧ k_ ≠ gb217 ∧ k_ ≠ gb218 ∧ k_ ≠ gb223 ∧ k_ ≠ gb226) (.slice A2 l2.length c2) l2) := ⟨by (with_reducible repeat (first | apply Kd.V_alloc | apply Kd.V_drewN | apply Kd.V_drew)); exact Kd.V_mono (Kd.V_far (p := ⟨gb226, 1, none⟩) (Kd.V_far (p := ⟨gb226, 0, none⟩) (Kd.V_mono HO_2.out (fun k_ hk => (⟨hk, hk.2⟩ : _ ∧ k_ ≠ gb226))) (fun _ hk => hk.2) (.int .u64 t224)) (fun _ hk => hk.2) (.int .u64 t225)) (fun _ hk => ⟨hk.1.1.1.1, ⟨hk.1.1.1.2.1, ⟨hk.1.1.1.2.2.1, ⟨hk.1.1.1.2.2.2.1, ⟨hk.1.1.1.2.2.2.2.1, ⟨hk.1.1.1.2.2.2.2.2, ⟨hk.1.1.2, hk.1.2⟩⟩⟩⟩⟩⟩⟩)⟩
          have n1_ : Aside0 (Kd.R k54 54 ((w29.setCell ⟨gb226, 0, none⟩ (.int .u64 t224)).setCell ⟨gb226, 1, none⟩ (.int .u64 t225)) w.heap.size (fun k_ => (w.heap.size ≤ k_) ∧ k_ ≠ gb223) (.slice (some ad222) t219.length co12) t219) := ⟨by (with_reducible repeat (first | apply Kd.R_alloc | apply Kd.R_drewN | apply Kd.R_drew)); exact Kd.R_mono (Kd.R_far (p := ⟨gb226, 1, none⟩) (Kd.R_far (p := ⟨gb226, 0, none⟩) (Kd.R_types HO_23.out BK226.out (by decide)) (fun _ hk => hk.2) (.int .u64 t224)) (fun _ hk => hk.2) (.int .u64 t225)) (fun _ hk => ⟨hk.1.1, hk.1.2⟩)⟩
          have n2_ : Aside0 (Kd.N (Kd.slice 5 (Kd.int .u8)) 27 ((w29.setCell ⟨gb226, 0, none⟩ (.int .u64 t224)).setCell ⟨gb226, 1, none⟩ (.int .u64 t225)) w.heap.size (fun k_ => (P2_ k_ ∨ w.heap.size ≤ k_) ∧ some k_ ≠ (.slice (some ad222) t219.length co12 : Value).ownBlock ∧ k_ ≠ gb216 ∧ k_ ≠ gb217 ∧ k_ ≠ gb218 ∧ k_ ≠ gb223 ∧ k_ ≠ gb226) u219002 x219002_1) := ⟨by (with_reducible repeat (first | apply Kd.N_alloc | apply Kd.N_drewN | apply Kd.N_drew)); exact Kd.N_mono (Kd.N_far (p := ⟨gb226, 1, none⟩) (Kd.N_far (p := ⟨gb226, 0, none⟩) (Kd.N_mono HO_219002.out (fun k_ hk => (⟨hk, hk.2⟩ : _ ∧ k_ ≠ gb226))) (fun _ hk => hk.2) (.int .u64 t224)) (fun _ hk => hk.2) (.int .u64 t225)) (fun _ hk => ⟨hk.1.1.1.1, ⟨hk.1.1.1.2.1, ⟨hk.1.1.1.2.2.1, ⟨hk.1.1.1.2.2.2.1, ⟨hk.1.1.1.2.2.2.2, ⟨hk.1.1.2, hk.1.2⟩⟩⟩⟩⟩⟩)⟩
          have n3_ : Aside0 (((w29.setCell ⟨gb226, 0, none⟩ (.int .u64 t224)).setCell ⟨gb226, 1, none⟩ (.int .u64 t225)).heap[gb216]? = some (.cells #[.int .i64 a0_0, .int .i64 a0_1, .int .i64 a0_2, .int .u64 a0_3, .int .u64 a0_4, .int .u64 a0_5] 24 (0, 0))) := ⟨by (with_reducible repeat (first | refine blk_drewN ?_ _ | refine blk_drew ?_ | refine blk_alloc ?_ _)); refine blk_far ?_ NB216_226.out _; (with_reducible repeat (first | refine blk_drewN ?_ _ | refine blk_drew ?_ | refine blk_alloc ?_ _)); refine blk_far ?_ NB216_226.out _; (with_reducible repeat (first | refine blk_drewN ?_ _ | refine blk_drew ?_ | refine blk_alloc ?_ _)); exact BK216.out⟩
          have n4_ : Aside0 (((w29.setCell ⟨gb226, 0, none⟩ (.int .u64 t224)).setCell ⟨gb226, 1, none⟩ (.int .u64 t225)).heap[gb217]? = some (.cells #[.int .u64 0, .int .u64 0, .slice none 0 0] 39 (0, 0))) := ⟨by (with_reducible repeat (first | refine blk_drewN ?_ _ | refine blk_drew ?_ | refine blk_alloc ?_ _)); refine blk_far ?_ NB217_226.out _; (with_reducible repeat (first | refine blk_drewN ?_ _ | refine blk_drew ?_ | refine blk_alloc ?_ _)); refine blk_far ?_ NB217_226.out _; (with_reducible repeat (first | refine blk_drewN ?_ _ | refine blk_drew ?_ | refine blk_alloc ?_ _)); exact BK217.out⟩
          have n5_ : Aside0 (((w29.setCell ⟨gb226, 0, none⟩ (.int .u64 t224)).setCell ⟨gb226, 1, none⟩ (.int .u64 t225)).heap[gb218]? = some (.cells #[.int .u64 a1, .int .u64 (IntKind.u64.wrap (a1 + (IntKind.u64.wrap ((l2.length : Int))))), u219002] 39 (0, 0))) := ⟨by (with_reducible repeat (first | refine blk_drewN ?_ _ | refine blk_drew ?_ | refine blk_alloc ?_ _)); refine blk_far ?_ NB218_226.out _; (with_reducible repeat (first | refine blk_drewN ?_ _ | refine blk_drew ?_ | refine blk_alloc ?_ _)); refine blk_far ?_ NB218_226.out _; (with_reducible repeat (first | refine blk_drewN ?_ _ | refine blk_drew ?_ | refine blk_alloc ?_ _)); exact BK218.out⟩
          have n6_ : Aside0 (((w29.setCell ⟨gb226, 0, none⟩ (.int .u64 t224)).setCell ⟨gb226, 1, none⟩ (.int .u64 t225)).heap[gb223]? = some (.cells #[.int .u64 ((rd_T54 t219 x25_1).f0), .int .u64 ((rd_T54 t219 x25_1).f1)] 54 (0, 0))) := ⟨by (with_reducible repeat (first | refine blk_drewN ?_ _ | refine blk_drew ?_ | refine blk_alloc ?_ _)); refine blk_far ?_ NB223_226.out _; (with_reducible repeat (first | refine blk_drewN ?_ _ | refine blk_drew ?_ | refine blk_alloc ?_ _)); refine blk_far ?_ NB223_226.out _; (with_reducible repeat (first | refine blk_drewN ?_ _ | refine blk_drew ?_ | refine blk_alloc ?_ _)); exact BK223.out⟩
          have n7_ : Aside0 (((w29.setCell ⟨gb226, 0, none⟩ (.int .u64 t224)).setCell ⟨gb226, 1, none⟩ (.int .u64 t225)).heap[gb226]? = some (.cells #[.int .u64 t224, .int .u64 t225] 57 (0, 0))) := ⟨by (with_reducible repeat (first | refine blk_drewN ?_ _ | refine blk_drew ?_ | refine blk_alloc ?_ _)); refine blk_put (cs := #[.int .u64 t224, .int .u64 0]) ?_ 1 _ rfl; (with_reducible repeat (first | refine blk_drewN ?_ _ | refine blk_drew ?_ | refine blk_alloc ?_ _)); refine blk_put (cs := #[.int .u64 0, .int .u64 0]) ?_ 0 _ rfl; (with_reducible repeat (first | refine blk_drewN ?_ _ | refine blk_drew ?_ | refine blk_alloc ?_ _)); exact BK226.out⟩
          have n8_ : Aside0 (Below w.heap.size w ((w29.setCell ⟨gb226, 0, none⟩ (.int .u64 t224)).setCell ⟨gb226, 1, none⟩ (.int .u64 t225))) := ⟨bB⟩
          (try clear HO_2)
          (try clear HO_23)
          (try clear HO_219002)
          (try clear BK216)
          (try clear BK217)
          (try clear BK218)
          (try clear BK223)
          (try clear BK226)
          (try clear HB)
          generalize ((w29.setCell ⟨gb226, 0, none⟩ (.int .u64 t224)).setCell ⟨gb226, 1, none⟩ (.int .u64 t225)) = w35 at n0_ n1_ n2_ n3_ n4_ n5_ n6_ n7_ n8_ ⊢
          have HO_2 := n0_
          have HO_23 := n1_
          have HO_219002 := n2_
          have BK216 := n3_
          have BK217 := n4_
          have BK218 := n5_
          have BK223 := n6_
          have BK226 := n7_
          have HB := n8_
          clear n0_ n1_ n2_ n3_ n4_ n5_ n6_ n7_ n8_
          have n0_ := Aside0.mk (Kd.V_drew HO_2.out)
          have n1_ := Aside0.mk (Kd.R_drew HO_23.out)
          have n2_ := Aside0.mk (Kd.N_drew HO_219002.out)
          have n3_ := Aside0.mk (blk_drew BK216.out)
          have n4_ := Aside0.mk (blk_drew BK217.out)
          have n5_ := Aside0.mk (blk_drew BK218.out)
          have n6_ := Aside0.mk (blk_drew BK223.out)
          have n7_ := Aside0.mk (blk_drew BK226.out)
          have n8_ := Aside0.mk (below_drew1 HB.out)
          clear HO_2
          clear HO_23
          clear HO_219002
          clear BK216
          clear BK217
          clear BK218
          clear BK223
          clear BK226
          clear HB
          have HO_2 := n0_
          have HO_23 := n1_
          have HO_219002 := n2_
          have BK216 := n3_
          have BK217 := n4_
          have BK218 := n5_
          have BK223 := n6_
          have BK226 := n7_
          have HB := n8_
          clear n0_ n1_ n2_ n3_ n4_ n5_ n6_ n7_ n8_
          have q37 : ((IntKind.u64.wrap (t225 - a1)) : Int) ≤ ((l2.length : Int) : Int) := dA
          obtain ⟨i037, hi037, _, hsz37, _⟩ := info_parts info27
          have hroom37 : l2.length ≤ c2 := (Kd.V_reads' HO_2.out).2.1
          have hC37 : Kd.F (Kd.slice 5 (Kd.int .u8)) _ _ A2 l2.length l2 := (Kd.V_at (base := w.heap.size) HO_2.out).2.2
          have ql37 : ((ji17) : Int) ≤ ((IntKind.u64.wrap (t225 - a1)) : Int) := dA
          have q037 : (0 : Int) ≤ ((ji17) : Int) := dA
          have hcut37 := cut_mid (P := Tryd.prog) 25 27 .u64 .u64 Tryd.underlying25 hi037 1 hsz37 A2 l2.length c2 (ji17) (IntKind.u64.wrap (t225 - a1)) q037 ql37 q37 hroom37
          have hr37 := Kd.F_mid (lo := ((ji17) : Int).toNat) (hi := ((IntKind.u64.wrap (t225 - a1)) : Int).toNat) (c := c2) hC37 (by omega) (by omega) hroom37
          obtain ⟨A37, hA37⟩ : ∃ Aq_, Aq_ = (if c2 = ((ji17) : Int).toNat then A2 else (A2 : Option Addr).map (·.add (((ji17) : Int).toNat * 1))) := ⟨_, rfl⟩
          obtain ⟨c37, hc37⟩ : ∃ cq_, cq_ = c2 - ((ji17) : Int).toNat := ⟨_, rfl⟩
          have hy37 : y227.length = ((IntKind.u64.wrap (t225 - a1)) : Int).toNat - ((ji17) : Int).toNat := (by rw [Ny227.out, List.length_drop, List.length_take] <;> omega)
          rw [show ((l2).take ((IntKind.u64.wrap (t225 - a1)) : Int).toNat).drop ((ji17) : Int).toNat = y227 from Ny227.out.symm] at hr37
          replace hr37 : Kd.F (Kd.slice 5 (Kd.int .u8)) _ _ A37 y227.length y227 := (by rw [hA37]; exact hr37)
          rw [← hy37, ← hA37, ← hc37] at hcut37
          have HO231 := Aside0.mk (show Kd.V (Kd.slice 5 (Kd.int .u8)) 27 _ w.heap.size _ (.slice A37 y227.length c37) y227 from Kd.V_mk (by rw [hy37, hc37]; exact Nat.sub_le_sub_right (Nat.le_trans (by omega) hroom37) _) hr37)
          have HC231 := Aside0.mk (show y227.length ≤ c37 from by rw [hy37, hc37]; exact Nat.sub_le_sub_right (Nat.le_trans (by omega) hroom37) _)
          clear hr37 hC37 hroom37 hi037 hsz37 hc37
          have KY37 := Aside0.mk hy37
          have KA37 := Aside0.mk hA37
          clear hy37 hA37
          replace q37 := eq_true q37
          refine start_ (n := 18) (S := fun w' => w'.cell? ⟨gb218, 0, none⟩ = some (.int .u64 a1) ∧ w'.cell? ⟨gb218, 1, none⟩ = some (.int .u64 (IntKind.u64.wrap (a1 + (IntKind.u64.wrap ((l2.length : Int)))))) ∧ w'.cell? ⟨gb218, 2, none⟩ = some (u219002) ∧ w'.cell? ⟨gb216, 0, none⟩ = some (.int .i64 a0_0) ∧ w'.cell? ⟨gb216, 1, none⟩ = some (.int .i64 a0_1) ∧ w'.cell? ⟨gb216, 2, none⟩ = some (.int .i64 a0_2) ∧ w'.cell? ⟨gb216, 3, none⟩ = some (.int .u64 a0_3) ∧ w'.cell? ⟨gb216, 4, none⟩ = some (.int .u64 a0_4) ∧ w'.cell? ⟨gb216, 5, none⟩ = some (.int .u64 a0_5) ∧ w'.cell? ⟨gb226, 0, none⟩ = some (.int .u64 t224) ∧ w'.cell? ⟨gb226, 1, none⟩ = some (.int .u64 t225)) (ds := [17]) #[false, false, false, false, false, false, false, false, false, false, false, false, false, false, false, false, false, false] (by kernel_rfl) rfl rfl ⟨(blk_cell BK218.out 0).trans rfl, (blk_cell BK218.out 1).trans rfl, (blk_cell BK218.out 2).trans rfl, (blk_cell BK216.out 0).trans rfl, (blk_cell BK216.out 1).trans rfl, (blk_cell BK216.out 2).trans rfl, (blk_cell BK216.out 3).trans rfl, (blk_cell BK216.out 4).trans rfl, (blk_cell BK216.out 5).trans rfl, (blk_cell BK226.out 0).trans rfl, (blk_cell BK226.out 1).trans rfl⟩ (fun hHeld => ?_); refine with_tabW spec_RangeOf.tab6 spec_RangeOf.bits6 (fun HT_ HW_ => ?_)
          generalize w35.drew = w36 at HO_2 HO_23 HO_219002 BK216 BK217 BK218 BK223 BK226 HB HO231 hHeld ⊢
          refine pure_ (i := 0) (N := some 31) (v := ?_) (a' := ?_) #[true, false, false, false, false, false, false, false, false, false, false, false, false, false, false, false, false, false] rfl rfl (any_of HT_.out (by kernel_rfl)) (fun _ _ _ h => h) (Or.inl ⟨by rfl, ?_⟩) ?_ ?_
          rotate_left
          ·intro w'
           go_simp
           with_reducible rfl
          rotate_left
          ·simp only [Act.put, List.setIfInBounds_toArray, List.set_cons_zero, List.set_cons_succ, i64_w, i32_w]
           rfl
          refine pure_ (i := 3) (N := some 34) (v := ?_) (a' := ?_) #[true, false, false, true, false, false, false, false, false, false, false, false, false, false, false, false, false, false] rfl rfl (any_of HT_.out (by kernel_rfl)) (fun _ _ _ h => h) (Or.inl ⟨by rfl, ?_⟩) ?_ ?_
          rotate_left
          ·intro w'
           go_simp
           with_reducible rfl
          rotate_left
          ·simp only [Act.put, List.setIfInBounds_toArray, List.set_cons_zero, List.set_cons_succ, i64_w, i32_w]
           rfl
          refine pure_ (i := 4) (N := some 35) (v := ?_) (a' := ?_) #[true, false, false, true, true, false, false, false, false, false, false, false, false, false, false, false, false, false] rfl rfl (any_of HT_.out (by kernel_rfl)) (fun _ _ _ h => h) (Or.inl ⟨by rfl, ?_⟩) ?_ ?_
          rotate_left
          ·intro w'
           go_simp
           with_reducible rfl
          rotate_left
          ·simp only [Act.put, List.setIfInBounds_toArray, List.set_cons_zero, List.set_cons_succ, i64_w, i32_w]
           rfl
          refine pure_ (i := 6) (N := some 37) (v := ?_) (a' := ?_) #[true, false, false, true, true, false, true, false, false, false, false, false, false, false, false, false, false, false] rfl rfl (any_of HT_.out (by kernel_rfl)) (fun _ _ _ h => h) (Or.inl ⟨by rfl, ?_⟩) ?_ ?_
          rotate_left
          ·intro w'
           go_simp
           with_reducible rfl
          rotate_left
          ·simp only [Act.put, List.setIfInBounds_toArray, List.set_cons_zero, List.set_cons_succ, i64_w, i32_w]
           rfl
          refine pure_ (i := 8) (N := some 39) (v := ?_) (a' := ?_) #[true, false, false, true, true, false, true, false, true, false, false, false, false, false, false, false, false, false] rfl rfl (any_of HT_.out (by kernel_rfl)) (fun _ _ _ h => h) (Or.inl ⟨by rfl, ?_⟩) ?_ ?_
          rotate_left
          ·intro w'
           go_simp
           with_reducible rfl
          rotate_left
          ·simp only [Act.put, List.setIfInBounds_toArray, List.set_cons_zero, List.set_cons_succ, i64_w, i32_w]
           rfl
          refine pure_ (i := 10) (N := some 41) (v := ?_) (a' := ?_) #[true, false, false, true, true, false, true, false, true, false, true, false, false, false, false, false, false, false] rfl rfl (any_of HT_.out (by kernel_rfl)) (fun _ _ _ h => h) (Or.inl ⟨by rfl, ?_⟩) ?_ ?_
          rotate_left
          ·intro w'
           go_simp
           with_reducible rfl
          rotate_left
          ·simp only [Act.put, List.setIfInBounds_toArray, List.set_cons_zero, List.set_cons_succ, i64_w, i32_w]
           rfl
          refine take_ (i := 1) (N := some 32) (v := ?_) (a' := ?_) #[true, true, false, true, true, false, true, false, true, false, true, false, false, false, false, false, false, false] rfl rfl (take_ofW HT_.out HW_.out (by kernel_rfl)) (fun _ _ _ h => h) (Or.inl ⟨by rfl, ?_⟩) hHeld ?_ ?_
          rotate_left
          ·rintro w' ⟨s0, s1, s2, s3, s4, s5, s6, s7, s8, s9, s10⟩
           go_simp
           with_reducible rfl
          rotate_left
          ·simp only [Act.put, List.setIfInBounds_toArray, List.set_cons_zero, List.set_cons_succ, i64_w, i32_w]
           rfl
          refine take_ (i := 2) (N := some 33) (v := ?_) (a' := ?_) #[true, true, true, true, true, false, true, false, true, false, true, false, false, false, false, false, false, false] rfl rfl (take_ofW HT_.out HW_.out (by kernel_rfl)) (fun _ _ _ h => h) (Or.inl ⟨by rfl, ?_⟩) hHeld ?_ ?_
          rotate_left
          ·rintro w' ⟨s0, s1, s2, s3, s4, s5, s6, s7, s8, s9, s10⟩
           go_simp
           with_reducible rfl
          rotate_left
          ·simp only [Act.put, List.setIfInBounds_toArray, List.set_cons_zero, List.set_cons_succ, i64_w, i32_w]
           rfl
          refine take_ (i := 5) (N := some 36) (v := ?_) (a' := ?_) #[true, true, true, true, true, true, true, false, true, false, true, false, false, false, false, false, false, false] rfl rfl (take_ofW HT_.out HW_.out (by kernel_rfl)) (fun _ _ _ h => h) (Or.inl ⟨by rfl, ?_⟩) hHeld ?_ ?_
          rotate_left
          ·rintro w' ⟨s0, s1, s2, s3, s4, s5, s6, s7, s8, s9, s10⟩
           go_simp
           with_reducible rfl
          rotate_left
          ·simp only [Act.put, List.setIfInBounds_toArray, List.set_cons_zero, List.set_cons_succ, i64_w, i32_w]
           rfl
          refine pure_ (i := 7) (N := some 38) (v := ?_) (a' := ?_) #[true, true, true, true, true, true, true, true, true, false, true, false, false, false, false, false, false, false] rfl rfl (any_of HT_.out (by kernel_rfl)) (fun _ _ _ h => h) (Or.inl ⟨by rfl, ?_⟩) ?_ ?_
          rotate_left
          ·intro w'
           go_simp
           with_reducible rfl
          rotate_left
          ·simp only [Act.put, List.setIfInBounds_toArray, List.set_cons_zero, List.set_cons_succ, i64_w, i32_w]
           rfl
          refine take_ (i := 9) (N := some 40) (v := ?_) (a' := ?_) #[true, true, true, true, true, true, true, true, true, true, true, false, false, false, false, false, false, false] rfl rfl (take_ofW HT_.out HW_.out (by kernel_rfl)) (fun _ _ _ h => h) (Or.inl ⟨by rfl, ?_⟩) hHeld ?_ ?_
          rotate_left
          ·rintro w' ⟨s0, s1, s2, s3, s4, s5, s6, s7, s8, s9, s10⟩
           go_simp
           with_reducible rfl
          rotate_left
          ·simp only [Act.put, List.setIfInBounds_toArray, List.set_cons_zero, List.set_cons_succ, i64_w, i32_w]
           rfl
          refine pure_ (i := 11) (N := some 42) (v := ?_) (a' := ?_) #[true, true, true, true, true, true, true, true, true, true, true, true, false, false, false, false, false, false] rfl rfl (any_of HT_.out (by kernel_rfl)) (fun _ _ _ h => h) (Or.inl ⟨by rfl, ?_⟩) ?_ ?_
          rotate_left
          ·intro w'
           go_simp
           with_reducible rfl
          rotate_left
          ·simp only [Act.put, List.setIfInBounds_toArray, List.set_cons_zero, List.set_cons_succ, i64_w, i32_w]
           rfl
          refine pure_ (i := 12) (N := some 43) (v := ?_) (a' := ?_) #[true, true, true, true, true, true, true, true, true, true, true, true, true, false, false, false, false, false] rfl rfl (any_of HT_.out (by kernel_rfl)) (fun _ _ _ h => h) (Or.inl ⟨by rfl, ?_⟩) ?_ ?_
          rotate_left
          ·intro w'
           go_simp
           with_reducible rfl
          rotate_left
          ·simp only [Act.put, List.setIfInBounds_toArray, List.set_cons_zero, List.set_cons_succ, i64_w, i32_w]
           rfl
          refine one_ (i := 13) (N := some 44) #[true, true, true, true, true, true, true, true, true, true, true, true, true, true, false, false, false, false] rfl rfl (one_of HT_.out (by kernel_rfl)) (by decide) (fun K hK => ?_)
          refine goes_ Tryd.func64 (by kernel_rfl) rfl #[.agg #[.int .i64 a0_0, .int .i64 a0_1, .int .i64 a0_2, .int .u64 a0_3, .int .u64 a0_4, .int .u64 a0_5], .slice A37 y227.length c37] (by rfl) rfl rfl aV ?_
          with_reducible refine (spec_Root.calls k1 a0_0 a0_1 a0_2 a0_3 a0_4 a0_5 (fun k_ => ((P2_ k_ ∨ w.heap.size ≤ k_) ∧ (some k_ ≠ (.slice (some ad222) t219.length co12 : Value).ownBlock ∧ (some k_ ≠ (u219002 : Value).ownBlock ∧ (k_ ≠ gb216 ∧ (k_ ≠ gb217 ∧ (k_ ≠ gb218 ∧ (k_ ≠ gb223 ∧ k_ ≠ gb226)))))))) _ _ y227 t232 _ ?side1 A21.out).mono ?_
          (case side1 => first | exact HO231.out | exact Kd.V_mono HO231.out (fun k_ h_ => by simp only [and_assoc] at h_ ⊢; exact h_))
          rintro e w38 ⟨v233, rfl, ho0, hb⟩
          refine ⟨_, rfl, ?_⟩
          have n0_ := Aside0.mk (Kd.V_below (kV HO_2.out) hb)
          have n1_ := Aside0.mk (Kd.R_below (kR HO_23.out) hb)
          have n2_ := Aside0.mk (Kd.N_below (by (with_reducible repeat (first | apply Kd.N_alloc | apply Kd.N_drewN | apply Kd.N_drew)); exact HO_219002.out) hb)
          have n3_ := Aside0.mk (Kd.V_below (kV HO231.out) hb)
          have n4_ := Aside0.mk (Kd.V_lower (Kd.V_mono (ok' := fun k_ => (P2_ k_ ∨ w.heap.size ≤ k_) ∧ some k_ ≠ (.slice (some ad222) t219.length co12 : Value).ownBlock ∧ some k_ ≠ (u219002 : Value).ownBlock ∧ k_ ≠ gb216 ∧ k_ ≠ gb217 ∧ k_ ≠ gb218 ∧ k_ ≠ gb223 ∧ k_ ≠ gb226) ho0 (fun k_ hk_ => ⟨Or.elim hk_ (fun hs_ => hs_.1) (fun hn_ => (.inr (Nat.le_trans (below_size bB) hn_))), Or.elim hk_ (fun hs_ => hs_.2.1) (fun hn_ => (Kd.fresh' (Kd.R_lt (kR HO_23.out)) k_ hn_)), Or.elim hk_ (fun hs_ => hs_.2.2.1) (fun hn_ => (Kd.fresh' (Kd.N_lt (by (with_reducible repeat (first | apply Kd.N_alloc | apply Kd.N_drewN | apply Kd.N_drew)); exact HO_219002.out)) k_ hn_)), Or.elim hk_ (fun hs_ => hs_.2.2.2.1) (fun hn_ => (Kd.freshB (g := gb216) (o := .cells #[.int .i64 a0_0, .int .i64 a0_1, .int .i64 a0_2, .int .u64 a0_3, .int .u64 a0_4, .int .u64 a0_5] 24 (0, 0)) (kB BK216.out) k_ hn_)), Or.elim hk_ (fun hs_ => hs_.2.2.2.2.1) (fun hn_ => (Kd.freshB (g := gb217) (o := .cells #[.int .u64 0, .int .u64 0, .slice none 0 0] 39 (0, 0)) (kB BK217.out) k_ hn_)), Or.elim hk_ (fun hs_ => hs_.2.2.2.2.2.1) (fun hn_ => (Kd.freshB (g := gb218) (o := .cells #[.int .u64 a1, .int .u64 (IntKind.u64.wrap (a1 + (IntKind.u64.wrap ((l2.length : Int))))), u219002] 39 (0, 0)) (kB BK218.out) k_ hn_)), Or.elim hk_ (fun hs_ => hs_.2.2.2.2.2.2.1) (fun hn_ => (Kd.freshB (g := gb223) (o := .cells #[.int .u64 ((rd_T54 t219 x25_1).f0), .int .u64 ((rd_T54 t219 x25_1).f1)] 54 (0, 0)) (kB BK223.out) k_ hn_)), Or.elim hk_ (fun hs_ => hs_.2.2.2.2.2.2.2) (fun hn_ => (Kd.freshB (g := gb226) (o := .cells #[.int .u64 t224, .int .u64 t225] 57 (0, 0)) (kB BK226.out) k_ hn_))⟩)) (below_size bB))
          have n5_ := Aside0.mk (blk_below (g := gb216) (o := .cells #[.int .i64 a0_0, .int .i64 a0_1, .int .i64 a0_2, .int .u64 a0_3, .int .u64 a0_4, .int .u64 a0_5] 24 (0, 0)) (kB BK216.out) hb)
          have n6_ := Aside0.mk (blk_below (g := gb217) (o := .cells #[.int .u64 0, .int .u64 0, .slice none 0 0] 39 (0, 0)) (kB BK217.out) hb)
          have n7_ := Aside0.mk (blk_below (g := gb218) (o := .cells #[.int .u64 a1, .int .u64 (IntKind.u64.wrap (a1 + (IntKind.u64.wrap ((l2.length : Int))))), u219002] 39 (0, 0)) (kB BK218.out) hb)
          have n8_ := Aside0.mk (blk_below (g := gb223) (o := .cells #[.int .u64 ((rd_T54 t219 x25_1).f0), .int .u64 ((rd_T54 t219 x25_1).f1)] 54 (0, 0)) (kB BK223.out) hb)
          have n9_ := Aside0.mk (blk_below (g := gb226) (o := .cells #[.int .u64 t224, .int .u64 t225] 57 (0, 0)) (kB BK226.out) hb)
          have n10_ := Aside0.mk (below_step bB hb)
          clear HO_2
          clear HO_23
          clear HO_219002
          clear HO231
          clear BK216
          clear BK217
          clear BK218
          clear BK223
          clear BK226
          clear HB
          have HO_2 := n0_
          have HO_23 := n1_
          have HO_219002 := n2_
          have HO231 := n3_
          have HO234 := n4_
          have BK216 := n5_
          have BK217 := n6_
          have BK218 := n7_
          have BK223 := n8_
          have BK226 := n9_
          have HB := n10_
          clear n0_ n1_ n2_ n3_ n4_ n5_ n6_ n7_ n8_ n9_ n10_
          (try clear hb)
          (try clear hb2)
          (try clear hk)
          (try clear hi)
          (try clear ho0)
          obtain ⟨Ao40, co40, eo40⟩ := Kd.V_slice HO234.out
          (first | subst eo40 | (injection eo40 with f1_ f2_ f3_; have f4_ := f1_.symm; have f5_ := f3_.symm; clear f1_ f2_ f3_; subst f4_; subst f5_))
          refine hK.out _ _ ⟨(blk_cell BK218.out 0).trans rfl, (blk_cell BK218.out 1).trans rfl, (blk_cell BK218.out 2).trans rfl, (blk_cell BK216.out 0).trans rfl, (blk_cell BK216.out 1).trans rfl, (blk_cell BK216.out 2).trans rfl, (blk_cell BK216.out 3).trans rfl, (blk_cell BK216.out 4).trans rfl, (blk_cell BK216.out 5).trans rfl, (blk_cell BK226.out 0).trans rfl, (blk_cell BK226.out 1).trans rfl⟩ (fun hHeld => ?_)
          clear hK K
          refine norm_ (a' := ?_) ?_ ?_
          rotate_left
          ·show Act.put _ (some 44) _ = _
           simp only [Act.put, List.setIfInBounds_toArray, List.set_cons_zero, List.set_cons_succ, i64_w, i32_w]
           rfl
          refine one_ (i := 14) (N := some 45) #[true, true, true, true, true, true, true, true, true, true, true, true, true, true, true, false, false, false] rfl rfl (one_of HT_.out (by kernel_rfl)) (by decide) (fun K hK => ?_)
          refine value_ (w1 := ?_) (v := ?_) (by rfl) rfl ?_ ?_
          rotate_left 2
          ·go_simp
           constructor
           ·rfl
           ·rfl
          refine hK.out _ _ ⟨(blk_cell (blk_alloc BK218.out _) 0).trans rfl, (blk_cell (blk_alloc BK218.out _) 1).trans rfl, (blk_cell (blk_alloc BK218.out _) 2).trans rfl, (blk_cell (blk_alloc BK216.out _) 0).trans rfl, (blk_cell (blk_alloc BK216.out _) 1).trans rfl, (blk_cell (blk_alloc BK216.out _) 2).trans rfl, (blk_cell (blk_alloc BK216.out _) 3).trans rfl, (blk_cell (blk_alloc BK216.out _) 4).trans rfl, (blk_cell (blk_alloc BK216.out _) 5).trans rfl, (blk_cell (blk_alloc BK226.out _) 0).trans rfl, (blk_cell (blk_alloc BK226.out _) 1).trans rfl⟩ (fun hHeld => ?_)
          clear hK K
          refine norm_ (a' := ?_) ?_ ?_
          rotate_left
          ·show Act.put _ (some 45) _ = _
           simp only [Act.put, List.setIfInBounds_toArray, List.set_cons_zero, List.set_cons_succ, i64_w, i32_w]
           rfl
          refine one_ (i := 15) (N := some 46) #[true, true, true, true, true, true, true, true, true, true, true, true, true, true, true, true, false, false] rfl rfl (one_of HT_.out (by kernel_rfl)) (by decide) (fun K hK => ?_)
          refine Kd.N_append_step (Kd.slice 5 (Kd.int .u8)) (w0 := w) w.heap.size (by rfl) (.tmp 32) (.tmp 45) 25 27 (.slice none 0 0) 24 rfl Tryd.underlying25 info27 rfl (by decide) (by omega) u219002 x219002_1 t232 [.slice Ao40 t232.length co40] (fun k_ => (P2_ k_ ∨ w.heap.size ≤ k_) ∧ some k_ ≠ (.slice (some ad222) t219.length co12 : Value).ownBlock ∧ k_ ≠ gb216 ∧ k_ ≠ gb217 ∧ k_ ≠ gb218 ∧ k_ ≠ gb223 ∧ k_ ≠ gb226) (fun k_ => ((fun k_ => (P2_ k_ ∨ w.heap.size ≤ k_) ∧ some k_ ≠ (.slice (some ad222) t219.length co12 : Value).ownBlock ∧ k_ ≠ gb216 ∧ k_ ≠ gb217 ∧ k_ ≠ gb218 ∧ k_ ≠ gb223 ∧ k_ ≠ gb226)) k_ ∧ some k_ ≠ (u219002 : Value).ownBlock) rfl rfl ?aP (fun _ hk => hk) ?aF ?aO ?aB ?aS ?aL ?_
          (case aP => exact (Kd.FK_slice_mk (Kd.V_reads' (Kd.V_mono (ok' := (fun k_ => ((fun k_ => (P2_ k_ ∨ w.heap.size ≤ k_) ∧ some k_ ≠ (.slice (some ad222) t219.length co12 : Value).ownBlock ∧ k_ ≠ gb216 ∧ k_ ≠ gb217 ∧ k_ ≠ gb218 ∧ k_ ≠ gb223 ∧ k_ ≠ gb226)) k_ ∧ some k_ ≠ (u219002 : Value).ownBlock)) (HO234.out) (fun k_ hk => ⟨⟨hk.1, ⟨hk.2.1, ⟨hk.2.2.2.1, ⟨hk.2.2.2.2.1, ⟨hk.2.2.2.2.2.1, ⟨hk.2.2.2.2.2.2.1, hk.2.2.2.2.2.2.2⟩⟩⟩⟩⟩⟩, hk.2.2.1⟩))).2.1 (Kd.V_F (Kd.V_mono (ok' := (fun k_ => ((fun k_ => (P2_ k_ ∨ w.heap.size ≤ k_) ∧ some k_ ≠ (.slice (some ad222) t219.length co12 : Value).ownBlock ∧ k_ ≠ gb216 ∧ k_ ≠ gb217 ∧ k_ ≠ gb218 ∧ k_ ≠ gb223 ∧ k_ ≠ gb226)) k_ ∧ some k_ ≠ (u219002 : Value).ownBlock)) (HO234.out) (fun k_ hk => ⟨⟨hk.1, ⟨hk.2.1, ⟨hk.2.2.2.1, ⟨hk.2.2.2.2.1, ⟨hk.2.2.2.2.2.1, ⟨hk.2.2.2.2.2.2.1, hk.2.2.2.2.2.2.2⟩⟩⟩⟩⟩⟩, hk.2.2.1⟩)))))
          (case aB => exact bB)
          (case aF => exact (fun k_ hk => ⟨(.inr (Nat.le_trans (below_size bB) hk)), Kd.fresh' (Kd.R_lt (kR HO_23.out)) k_ hk, Kd.freshB (g := gb216) (o := .cells #[.int .i64 a0_0, .int .i64 a0_1, .int .i64 a0_2, .int .u64 a0_3, .int .u64 a0_4, .int .u64 a0_5] 24 (0, 0)) (kB BK216.out) k_ hk, Kd.freshB (g := gb217) (o := .cells #[.int .u64 0, .int .u64 0, .slice none 0 0] 39 (0, 0)) (kB BK217.out) k_ hk, Kd.freshB (g := gb218) (o := .cells #[.int .u64 a1, .int .u64 (IntKind.u64.wrap (a1 + (IntKind.u64.wrap ((l2.length : Int))))), u219002] 39 (0, 0)) (kB BK218.out) k_ hk, Kd.freshB (g := gb223) (o := .cells #[.int .u64 ((rd_T54 t219 x25_1).f0), .int .u64 ((rd_T54 t219 x25_1).f1)] 54 (0, 0)) (kB BK223.out) k_ hk, Kd.freshB (g := gb226) (o := .cells #[.int .u64 t224, .int .u64 t225] 57 (0, 0)) (kB BK226.out) k_ hk⟩))
          (case aO => exact (by (with_reducible repeat (first | apply Kd.N_alloc | apply Kd.N_drewN | apply Kd.N_drew)); exact HO_219002.out))
          (case aS => exact (below_size bB))
          (case aL => have := LMc22.out; omega)
          intro v236 w39 ho hb hg hat
          rw [← Ny235.out] at ho
          have n0_ := Aside0.mk (Kd.V_afterv (ok := (fun k_ => (P2_ k_ ∨ w.heap.size ≤ k_) ∧ some k_ ≠ (.slice (some ad222) t219.length co12 : Value).ownBlock ∧ k_ ≠ gb216 ∧ k_ ≠ gb217 ∧ k_ ≠ gb218 ∧ k_ ≠ gb223 ∧ k_ ≠ gb226)) (by (with_reducible repeat (first | apply Kd.V_alloc | apply Kd.V_drewN | apply Kd.V_drew)); exact Kd.V_mono HO_2.out (fun _ hk => ⟨⟨hk.1, ⟨hk.2.1, ⟨hk.2.2.2.1, ⟨hk.2.2.2.2.1, ⟨hk.2.2.2.2.2.1, ⟨hk.2.2.2.2.2.2.1, hk.2.2.2.2.2.2.2⟩⟩⟩⟩⟩⟩, hk.2.2.1⟩)) hg hat)
          have n1_ := Aside0.mk (Kd.R_over' (kR HO_23.out) (Kd.N_typed (by (with_reducible repeat (first | apply Kd.N_alloc | apply Kd.N_drewN | apply Kd.N_drew)); exact HO_219002.out)) (by decide) hg)
          have n2_ := Aside0.mk (blk_grown (g := gb216) (o := .cells #[.int .i64 a0_0, .int .i64 a0_1, .int .i64 a0_2, .int .u64 a0_3, .int .u64 a0_4, .int .u64 a0_5] 24 (0, 0)) (kB BK216.out) hg (Kd.N_ne HO_219002.out BK216.out (by decide)))
          have n3_ := Aside0.mk (blk_grown (g := gb217) (o := .cells #[.int .u64 0, .int .u64 0, .slice none 0 0] 39 (0, 0)) (kB BK217.out) hg (Kd.N_ne HO_219002.out BK217.out (by decide)))
          have n4_ := Aside0.mk (blk_grown (g := gb218) (o := .cells #[.int .u64 a1, .int .u64 (IntKind.u64.wrap (a1 + (IntKind.u64.wrap ((l2.length : Int))))), u219002] 39 (0, 0)) (kB BK218.out) hg (Kd.N_ne HO_219002.out BK218.out (by decide)))
          have n5_ := Aside0.mk (blk_grown (g := gb223) (o := .cells #[.int .u64 ((rd_T54 t219 x25_1).f0), .int .u64 ((rd_T54 t219 x25_1).f1)] 54 (0, 0)) (kB BK223.out) hg (Kd.N_ne HO_219002.out BK223.out (by decide)))
          have n6_ := Aside0.mk (blk_grown (g := gb226) (o := .cells #[.int .u64 t224, .int .u64 t225] 57 (0, 0)) (kB BK226.out) hg (Kd.N_ne HO_219002.out BK226.out (by decide)))
          have n7_ := Aside0.mk (Kd.V_afterv (ok := (fun k_ => (P2_ k_ ∨ w.heap.size ≤ k_) ∧ some k_ ≠ (.slice (some ad222) t219.length co12 : Value).ownBlock ∧ k_ ≠ gb216 ∧ k_ ≠ gb217 ∧ k_ ≠ gb218 ∧ k_ ≠ gb223 ∧ k_ ≠ gb226)) (by (with_reducible repeat (first | apply Kd.V_alloc | apply Kd.V_drewN | apply Kd.V_drew)); exact Kd.V_mono HO231.out (fun _ hk => ⟨⟨hk.1, ⟨hk.2.1, ⟨hk.2.2.2.1, ⟨hk.2.2.2.2.1, ⟨hk.2.2.2.2.2.1, ⟨hk.2.2.2.2.2.2.1, hk.2.2.2.2.2.2.2⟩⟩⟩⟩⟩⟩, hk.2.2.1⟩)) hg hat)
          have n8_ := Aside0.mk (Kd.V_afterv (ok := (fun k_ => (P2_ k_ ∨ w.heap.size ≤ k_) ∧ some k_ ≠ (.slice (some ad222) t219.length co12 : Value).ownBlock ∧ k_ ≠ gb216 ∧ k_ ≠ gb217 ∧ k_ ≠ gb218 ∧ k_ ≠ gb223 ∧ k_ ≠ gb226)) (by (with_reducible repeat (first | apply Kd.V_alloc | apply Kd.V_drewN | apply Kd.V_drew)); exact Kd.V_mono HO234.out (fun _ hk => ⟨⟨hk.1, ⟨hk.2.1, ⟨hk.2.2.2.1, ⟨hk.2.2.2.2.1, ⟨hk.2.2.2.2.2.1, ⟨hk.2.2.2.2.2.2.1, hk.2.2.2.2.2.2.2⟩⟩⟩⟩⟩⟩, hk.2.2.1⟩)) hg hat)
          have n9_ := Aside0.mk (hb)
          have n10_ := Aside0.mk (ho)
          clear HO_2
          clear HO_23
          clear BK216
          clear BK217
          clear BK218
          clear BK223
          clear BK226
          clear HO231
          clear HO234
          clear HB
          clear HO_219002
          have HO_2 := n0_
          have HO_23 := n1_
          have BK216 := n2_
          have BK217 := n3_
          have BK218 := n4_
          have BK223 := n5_
          have BK226 := n6_
          have HO231 := n7_
          have HO234 := n8_
          have HB := n9_
          have HO237 := n10_
          clear n0_ n1_ n2_ n3_ n4_ n5_ n6_ n7_ n8_ n9_ n10_
          clear ho hb hg hat
          obtain ⟨Ao41, co41, eo41⟩ := Kd.N_slice HO237.out
          (first | subst eo41 | (injection eo41 with f1_ f2_ f3_; have f4_ := f1_.symm; have f5_ := f3_.symm; clear f1_ f2_ f3_; subst f4_; subst f5_))
          refine hK.out _ _ ⟨(blk_cell BK218.out 0).trans rfl, (blk_cell BK218.out 1).trans rfl, (blk_cell BK218.out 2).trans rfl, (blk_cell BK216.out 0).trans rfl, (blk_cell BK216.out 1).trans rfl, (blk_cell BK216.out 2).trans rfl, (blk_cell BK216.out 3).trans rfl, (blk_cell BK216.out 4).trans rfl, (blk_cell BK216.out 5).trans rfl, (blk_cell BK226.out 0).trans rfl, (blk_cell BK226.out 1).trans rfl⟩ (fun hHeld => ?_)
          clear hK K
          refine norm_ (a' := ?_) ?_ ?_
          rotate_left
          ·show Act.put _ (some 46) _ = _
           simp only [Act.put, List.setIfInBounds_toArray, List.set_cons_zero, List.set_cons_succ, i64_w, i32_w]
           rfl
          refine pure_ (i := 16) (N := some 47) (v := ?_) (a' := ?_) #[true, true, true, true, true, true, true, true, true, true, true, true, true, true, true, true, true, false] rfl rfl (any_of HT_.out (by kernel_rfl)) (fun _ _ _ h => h) (Or.inl ⟨by rfl, ?_⟩) ?_ ?_
          rotate_left
          ·intro w'
           go_simp
           with_reducible rfl
          rotate_left
          ·simp only [Act.put, List.setIfInBounds_toArray, List.set_cons_zero, List.set_cons_succ, i64_w, i32_w]
           rfl
          refine last_ (i := 17) (N := none) #[true, true, true, true, true, true, true, true, true, true, true, true, true, true, true, true, true, true] rfl rfl (one_of HT_.out (by kernel_rfl)) (by decide) (fun K hK => ?_)
          have hs42 : w39.cell? ⟨gb218, 2, none⟩ = some (u219002) := (blk_cell BK218.out 2).trans rfl
          have hfs42 := blk_frozen BK218.out 2
          have hns42_0 := NB216_218.out
          have hns42_1 := NB217_218.out
          have hns42_3 := NB223_218.out
          have hns42_4 := NB226_218.out
          have hms42_0 := NB218_216.out
          have hms42_1 := NB218_217.out
          have hms42_3 := NB218_223.out
          have hms42_4 := NB218_226.out
          refine skip_ (w1 := ?_) (by rfl) rfl ?_ ?_
          rotate_left
          ·go_simp
           rfl
          refine hK.out _ _ ?_
          clear hK K
          refine done_ (done_of HT_.out (by kernel_rfl)) ?_
          try go_wp2
          go_roundg k1
          case measure => have := HK1.out; omega
          case rel => exact ⟨(wrap64 (x25_1 + 1)), (y235), (.slice Ao41 y235.length co41), (by first | rfl | (simp; done) | (simp [*]; done)), H', ⟨by have := HK1.out; omega⟩, ⟨by (with_reducible repeat (first | apply Kd.V_alloc | apply Kd.V_drewN | apply Kd.V_drew)); exact Kd.V_mono (Kd.V_far (p := ⟨gb218, 2, none⟩) (Kd.V_mono HO_2.out (fun k_ hk => (⟨hk, hk.1.2.2.2.2.1⟩ : _ ∧ k_ ≠ gb218))) (fun _ hk => hk.2) (.slice Ao41 y235.length co41)) (fun _ hk => ⟨hk.1.1.1, ⟨hk.1.1.2.1, ⟨hk.1.2, ⟨hk.1.1.2.2.1, ⟨hk.1.1.2.2.2.1, hk.1.1.2.2.2.2.1⟩⟩⟩⟩⟩)⟩, ⟨by (with_reducible repeat (first | apply Kd.R_alloc | apply Kd.R_drewN | apply Kd.R_drew)); exact Kd.R_mono (Kd.R_far (p := ⟨gb218, 2, none⟩) (Kd.R_types HO_23.out BK218.out (by decide)) (fun _ hk => hk.2) (.slice Ao41 y235.length co41)) (fun _ hk => hk.1.1)⟩, ⟨by (with_reducible repeat (first | apply Kd.N_alloc | apply Kd.N_drewN | apply Kd.N_drew)); exact Kd.N_mono (Kd.N_far (p := ⟨gb218, 2, none⟩) (Kd.N_mono HO237.out (fun k_ hk => (⟨hk, hk.2.2.2.2.1⟩ : _ ∧ k_ ≠ gb218))) (fun _ hk => hk.2) (.slice Ao41 y235.length co41)) (fun _ hk => ⟨hk.1.1, ⟨hk.1.2.1, ⟨hk.1.2.2.1, ⟨hk.1.2.2.2.1, hk.1.2.2.2.2.1⟩⟩⟩⟩)⟩, ⟨by (with_reducible repeat (first | refine blk_drewN ?_ _ | refine blk_drew ?_ | refine blk_alloc ?_ _)); refine blk_far ?_ NB216_218.out _; (with_reducible repeat (first | refine blk_drewN ?_ _ | refine blk_drew ?_ | refine blk_alloc ?_ _)); exact BK216.out⟩, ⟨by (with_reducible repeat (first | refine blk_drewN ?_ _ | refine blk_drew ?_ | refine blk_alloc ?_ _)); refine blk_far ?_ NB217_218.out _; (with_reducible repeat (first | refine blk_drewN ?_ _ | refine blk_drew ?_ | refine blk_alloc ?_ _)); exact BK217.out⟩, ⟨by (with_reducible repeat (first | refine blk_drewN ?_ _ | refine blk_drew ?_ | refine blk_alloc ?_ _)); refine blk_put (cs := #[.int .u64 a1, .int .u64 (IntKind.u64.wrap (a1 + (IntKind.u64.wrap ((l2.length : Int))))), u219002]) ?_ 2 _ rfl; (with_reducible repeat (first | refine blk_drewN ?_ _ | refine blk_drew ?_ | refine blk_alloc ?_ _)); exact BK218.out⟩, ⟨bB⟩⟩
         ·rw [if_neg c22] at H
          exact absurd H (by simp)
        ·rw [if_neg c20] at H
         exact absurd H (by simp)
       ·rw [if_neg c19] at H
        exact absurd H (by simp)
      ·rw [if_neg c18] at H
       exact absurd H (by simp)
     ·rw [if_neg c15] at H
      exact absurd H (by simp)
    ·rw [if_neg c14] at H
     exact absurd H (by simp)
   ·rw [if_neg c13] at H
    have c13b0 : decide (x25_1 < (t219.length : Int)) = false := decide_eq_false c13
    clear c13
    simp only [Option.some.injEq, Prod.mk.injEq] at H
    obtain ⟨rfl, rfl, rfl⟩ := H
    have hnb43 := NB218_216.out
    have hnc43 := NB216_218.out
    have hnb44 := NB218_217.out
    have hnc44 := NB217_218.out
    have hcz45_0 : wr.cell? ⟨gb218, 0, none⟩ = some (.int .u64 a1) := (blk_cell BK218.out 0).trans rfl
    have hcz45_1 : wr.cell? ⟨gb218, 1, none⟩ = some (.int .u64 (IntKind.u64.wrap (a1 + (IntKind.u64.wrap ((l2.length : Int)))))) := (blk_cell BK218.out 1).trans rfl
    have hcz45_2 : wr.cell? ⟨gb218, 2, none⟩ = some (u219002) := (blk_cell BK218.out 2).trans rfl
    have hfz45_0 := blk_frozen BK218.out 0
    have hfz45_1 := blk_frozen BK218.out 1
    have hfz45_2 := blk_frozen BK218.out 2
    have hnb46 := NB217_216.out
    have hnc46 := NB216_217.out
    have hcz47_0 : wr.cell? ⟨gb217, 0, none⟩ = some (.int .u64 0) := (blk_cell BK217.out 0).trans rfl
    have hcz47_1 : wr.cell? ⟨gb217, 1, none⟩ = some (.int .u64 0) := (blk_cell BK217.out 1).trans rfl
    have hcz47_2 : wr.cell? ⟨gb217, 2, none⟩ = some (.slice none 0 0) := (blk_cell BK217.out 2).trans rfl
    have hfz47_0 := blk_frozen BK217.out 0
    have hfz47_1 := blk_frozen BK217.out 1
    have hfz47_2 := blk_frozen BK217.out 2
    obtain ⟨Ao48, co48, eo48⟩ := Kd.N_slice HO_219002.out
    subst eo48
    go_wp2
    refine bodyPost_ret (results_cell_row rfl _ _ gb217 39 #[.int .u64 a1, .int .u64 (IntKind.u64.wrap (a1 + (IntKind.u64.wrap ((l2.length : Int))))), .slice Ao48 x219002_1.length co48] (0, 0) _ rfl (by (with_reducible repeat (first | refine blk_drewN ?_ _ | refine blk_drew ?_ | refine blk_alloc ?_ _)); refine blk_put (cs := #[.int .u64 a1, .int .u64 (IntKind.u64.wrap (a1 + (IntKind.u64.wrap ((l2.length : Int))))), .slice none 0 0]) ?_ 2 _ rfl; (with_reducible repeat (first | refine blk_drewN ?_ _ | refine blk_drew ?_ | refine blk_alloc ?_ _)); refine blk_put (cs := #[.int .u64 a1, .int .u64 0, .slice none 0 0]) ?_ 1 _ rfl; (with_reducible repeat (first | refine blk_drewN ?_ _ | refine blk_drew ?_ | refine blk_alloc ?_ _)); refine blk_put (cs := #[.int .u64 0, .int .u64 0, .slice none 0 0]) ?_ 0 _ rfl; (with_reducible repeat (first | refine blk_drewN ?_ _ | refine blk_drew ?_ | refine blk_alloc ?_ _)); exact BK217.out) Tryd.underlying39 rfl (by kernel_rfl)) rfl ?_
    exact ⟨_, by first | rfl | (simp [errW_none, errW_some] <;> rfl) | (simp [*, errW_none, errW_some] <;> rfl), by (with_reducible repeat (first | apply Kd.N_alloc | apply Kd.N_drewN | apply Kd.N_drew)); exact Kd.N_mono (Kd.N_far (p := ⟨gb217, 2, none⟩) (Kd.N_far (p := ⟨gb217, 1, none⟩) (Kd.N_far (p := ⟨gb217, 0, none⟩) (Kd.N_mono HO_219002.out (fun k_ hk => (⟨hk, hk.2.2.2.1⟩ : _ ∧ k_ ≠ gb217))) (fun _ hk => hk.2) (.int .u64 a1)) (fun _ hk => hk.2) (.int .u64 (IntKind.u64.wrap (a1 + (IntKind.u64.wrap ((l2.length : Int))))))) (fun _ hk => hk.2) (.slice Ao48 x219002_1.length co48)) (fun _ hk => hk.1.1), bB⟩

end Go.Proofs.YtkmdkmlgahfcpaaDoor.M

