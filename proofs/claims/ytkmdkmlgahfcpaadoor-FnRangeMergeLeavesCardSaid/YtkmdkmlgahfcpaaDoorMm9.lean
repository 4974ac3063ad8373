-- Written by a program of ours (wip/xp) out of the translation; Lean checks it.
import Derived.Test.YtkmdkmlgahfcpaaDoorSq
import Derived.Test.YtkmdkmlgahfcpaaDoorMm1
import Derived.Test.YtkmdkmlgahfcpaaDoorMm2
import Derived.Test.YtkmdkmlgahfcpaaDoorMm4
import Derived.Test.YtkmdkmlgahfcpaaDoorMm7
namespace Go.Proofs.YtkmdkmlgahfcpaaDoor.M
open Go.RowKit Go.Proofs.YtkmdkmlgahfcpaaDoorW.PrintWords Go.Proofs.YtkmdkmlgahfcpaaDoorW.PrintLast Go.Proofs.YtkmdkmlgahfcpaaDoorW.PrintMore
attribute [local go_sem] max2_int min2_int max_two min_two max_three min_three max_four min_four   -- for this text's walks alone
set_option linter.unusedVariables false
set_option linter.unusedSimpArgs false

/-! ### impl_toNode: function 65 -/
def impl_toNode.f (a0_0 : Int) (a0_1 : Int) : Option (Int × Int) := (compact_NewNodeID.f a0_0 a0_1).bind fun bt242 => (some (bt242.1, bt242.2))
set_option maxHeartbeats 8000000 in
set_option maxRecDepth 100000 in
theorem impl_toNode.calls (a0_0 : Int) (a0_1 : Int) (r1 : Int) (r2 : Int) (w : World) (h : impl_toNode.f a0_0 a0_1 = some (r1, r2)) :
  Calls Tryd.prog 65 #[.agg #[.int .u64 a0_0, .int .u64 a0_1]] w fun e w' => e = .returned (.agg #[.int .u64 r1, .int .u64 r2]) ∧ Below w.heap.size w w' := by
 have hu54 := Tryd.underlying54
 have hu106 := Tryd.underlying106
 have HB := Aside0.mk (Below.refl w.heap.size w)
 have H : ((compact_NewNodeID.f a0_0 a0_1).bind fun bt242 => (some (bt242.1, bt242.2))) = some (r1, r2) := h
 clear h
 replace H := Option.bind_eq_some_iff.mp H
 obtain ⟨⟨t242, t243⟩, A20, H⟩ := H
 replace H : (some (t242, t243)) = some (r1, r2) := H
 have A2 := Aside0.mk A20
 clear A20
 simp only [Option.some.injEq, Prod.mk.injEq] at H
 obtain ⟨rfl, rfl⟩ := H
 go_enter Tryd.func65, Tryd.ntmps65
 go_wp2_with (first | ((with_reducible refine gate_dst (N := 1) rfl ?_); refine box_event ?hg (N := 1) ?hd (cs := #[.int .u64 a0_0, .int .u64 a0_1]) (t := 54) ?hr ?_; (case hd => rfl); (case hg => rfl); (case hr => first | (go_simp; done) | (go_simp; rfl)); intro gb240 hg w3 hbox hb; have n0_ := Aside0.mk (below_step bB hb); have n1_ := Aside0.mk (hbox); have n2_ := Aside0.mk ((by rw [hg]; exact (below_size bB) : w.heap.size ≤ gb240)); have n3_ := Aside0.mk ((by rw [hg]; exact (below_size bB) : w.heap.size ≤ gb240)); clear HB; have HB := n0_; have BK240 := n1_; have GW240 := n2_; have GE240 := n3_; clear n0_ n1_ n2_ n3_; clear hb hbox hg) | ((with_reducible refine gate_dst (N := 2) rfl ?_); refine box_event ?hg (N := 2) ?hd (cs := #[.int .u64 0, .int .u64 0]) (t := 106) ?hr ?_; (case hd => rfl); (case hg => rfl); (case hr => first | (go_simp; done) | (go_simp; rfl)); intro gb241 hg w4 hbox hb; have n0_ := Aside0.mk (blk_below (g := gb240) (o := .cells #[.int .u64 a0_0, .int .u64 a0_1] 54 (0, 0)) (kB BK240.out) hb); have n1_ := Aside0.mk (below_step bB hb); have n2_ := Aside0.mk (hbox); have n3_ := Aside0.mk ((by rw [hg]; exact (below_size bB) : w.heap.size ≤ gb241)); have n4_ := Aside0.mk ((by rw [hg]; exact (below_size bB) : w.heap.size ≤ gb241)); have n5_ := Aside0.mk ((by rw [hg]; exact Nat.ne_of_lt (blk_lt (g := gb240) (o := .cells #[.int .u64 a0_0, .int .u64 a0_1] 54 (0, 0)) (kB BK240.out)) : gb240 ≠ gb241)); have n6_ := Aside0.mk ((by rw [hg]; exact Nat.ne_of_gt (blk_lt (g := gb240) (o := .cells #[.int .u64 a0_0, .int .u64 a0_1] 54 (0, 0)) (kB BK240.out)) : gb241 ≠ gb240)); clear BK240; clear HB; have BK240 := n0_; have HB := n1_; have BK241 := n2_; have GW241 := n3_; have GE241 := n4_; have NB240_241 := n5_; have NB241_240 := n6_; clear n0_ n1_ n2_ n3_ n4_ n5_ n6_; clear hb hbox hg; have hnb5 := NB240_241.out; have hnc5 := NB241_240.out; have hcz6_0 : w4.cell? ⟨gb240, 0, none⟩ = some (.int .u64 a0_0) := (blk_cell BK240.out 0).trans rfl; have hcz6_1 : w4.cell? ⟨gb240, 1, none⟩ = some (.int .u64 a0_1) := (blk_cell BK240.out 1).trans rfl; have hfz6_0 := blk_frozen BK240.out 0; have hfz6_1 := blk_frozen BK240.out 1) | ((with_reducible refine gate_callee (f := 92) rfl ?_); refine goesL_ (some 7) rfl rfl Tryd.func92 (by kernel_rfl) rfl #[.int .u64 a0_0, .int .u64 a0_1] rfl aV ?_; (with_reducible refine (compact_NewNodeID.calls a0_0 a0_1 t242 t243 _ A2.out).mono ?_); rintro e w7 ⟨rfl, hb⟩; refine ⟨_, rfl, ?_⟩; have n0_ := Aside0.mk (blk_below (g := gb240) (o := .cells #[.int .u64 a0_0, .int .u64 a0_1] 54 (0, 0)) (kB BK240.out) hb); have n1_ := Aside0.mk (blk_below (g := gb241) (o := .cells #[.int .u64 0, .int .u64 0] 106 (0, 0)) (kB BK241.out) hb); have n2_ := Aside0.mk (below_step bB hb); clear BK240; clear BK241; clear HB; have BK240 := n0_; have BK241 := n1_; have HB := n2_; clear n0_ n1_ n2_; (try clear hb); (try clear hb2); (try clear hk); (try clear hi); have hcz8_0 : w7.cell? ⟨gb241, 0, none⟩ = some (.int .u64 0) := (blk_cell BK241.out 0).trans rfl; have hcz8_1 : w7.cell? ⟨gb241, 1, none⟩ = some (.int .u64 0) := (blk_cell BK241.out 1).trans rfl; have hfz8_0 := blk_frozen BK241.out 0; have hfz8_1 := blk_frozen BK241.out 1))
 refine bodyPost_ret (results_cell_row rfl _ _ gb241 106 #[.int .u64 t242, .int .u64 t243] (0, 0) _ rfl (by (with_reducible repeat (first | refine blk_drewN ?_ _ | refine blk_drew ?_ | refine blk_alloc ?_ _)); refine blk_put (cs := #[.int .u64 t242, .int .u64 0]) ?_ 1 _ rfl; (with_reducible repeat (first | refine blk_drewN ?_ _ | refine blk_drew ?_ | refine blk_alloc ?_ _)); refine blk_put (cs := #[.int .u64 0, .int .u64 0]) ?_ 0 _ rfl; (with_reducible repeat (first | refine blk_drewN ?_ _ | refine blk_drew ?_ | refine blk_alloc ?_ _)); exact BK241.out) Tryd.underlying106 rfl (by kernel_rfl)) rfl ?_
 exact ⟨by first | rfl | (simp [errW_none, errW_some] <;> rfl) | (simp [*, errW_none, errW_some] <;> rfl), bB⟩


/-! ### compact_NodeID_Parent: function 66 -/
def compact_NodeID_Parent.f (a0_0 : Int) (a0_1 : Int) : Option (Int × Int) := (compact_NewNodeID.f (IntKind.u64.wrap (a0_0 + 1)) (a0_1 / 2)).bind fun bt246 => (some (bt246.1, bt246.2))
set_option maxHeartbeats 8000000 in
set_option maxRecDepth 100000 in
theorem compact_NodeID_Parent.calls (a0_0 : Int) (a0_1 : Int) (r1 : Int) (r2 : Int) (w : World) (h : compact_NodeID_Parent.f a0_0 a0_1 = some (r1, r2)) :
  Calls Tryd.prog 66 #[.agg #[.int .u64 a0_0, .int .u64 a0_1]] w fun e w' => e = .returned (.agg #[.int .u64 r1, .int .u64 r2]) ∧ Below w.heap.size w w' := by
 have hu106 := Tryd.underlying106
 have HB := Aside0.mk (Below.refl w.heap.size w)
 have H : ((compact_NewNodeID.f (IntKind.u64.wrap (a0_0 + 1)) (a0_1 / 2)).bind fun bt246 => (some (bt246.1, bt246.2))) = some (r1, r2) := h
 clear h
 replace H := Option.bind_eq_some_iff.mp H
 obtain ⟨⟨t246, t247⟩, A20, H⟩ := H
 replace H : (some (t246, t247)) = some (r1, r2) := H
 have A2 := Aside0.mk A20
 clear A20
 simp only [Option.some.injEq, Prod.mk.injEq] at H
 obtain ⟨rfl, rfl⟩ := H
 go_enter Tryd.func66, Tryd.ntmps66
 go_wp2_with (first | ((with_reducible refine gate_dst (N := 1) rfl ?_); refine box_event ?hg (N := 1) ?hd (cs := #[.int .u64 a0_0, .int .u64 a0_1]) (t := 106) ?hr ?_; (case hd => rfl); (case hg => rfl); (case hr => first | (go_simp; done) | (go_simp; rfl)); intro gb244 hg w3 hbox hb; have n0_ := Aside0.mk (below_step bB hb); have n1_ := Aside0.mk (hbox); have n2_ := Aside0.mk ((by rw [hg]; exact (below_size bB) : w.heap.size ≤ gb244)); have n3_ := Aside0.mk ((by rw [hg]; exact (below_size bB) : w.heap.size ≤ gb244)); clear HB; have HB := n0_; have BK244 := n1_; have GW244 := n2_; have GE244 := n3_; clear n0_ n1_ n2_ n3_; clear hb hbox hg) | ((with_reducible refine gate_dst (N := 2) rfl ?_); refine box_event ?hg (N := 2) ?hd (cs := #[.int .u64 0, .int .u64 0]) (t := 106) ?hr ?_; (case hd => rfl); (case hg => rfl); (case hr => first | (go_simp; done) | (go_simp; rfl)); intro gb245 hg w4 hbox hb; have n0_ := Aside0.mk (blk_below (g := gb244) (o := .cells #[.int .u64 a0_0, .int .u64 a0_1] 106 (0, 0)) (kB BK244.out) hb); have n1_ := Aside0.mk (below_step bB hb); have n2_ := Aside0.mk (hbox); have n3_ := Aside0.mk ((by rw [hg]; exact (below_size bB) : w.heap.size ≤ gb245)); have n4_ := Aside0.mk ((by rw [hg]; exact (below_size bB) : w.heap.size ≤ gb245)); have n5_ := Aside0.mk ((by rw [hg]; exact Nat.ne_of_lt (blk_lt (g := gb244) (o := .cells #[.int .u64 a0_0, .int .u64 a0_1] 106 (0, 0)) (kB BK244.out)) : gb244 ≠ gb245)); have n6_ := Aside0.mk ((by rw [hg]; exact Nat.ne_of_gt (blk_lt (g := gb244) (o := .cells #[.int .u64 a0_0, .int .u64 a0_1] 106 (0, 0)) (kB BK244.out)) : gb245 ≠ gb244)); clear BK244; clear HB; have BK244 := n0_; have HB := n1_; have BK245 := n2_; have GW245 := n3_; have GE245 := n4_; have NB244_245 := n5_; have NB245_244 := n6_; clear n0_ n1_ n2_ n3_ n4_ n5_ n6_; clear hb hbox hg; have hnb5 := NB244_245.out; have hnc5 := NB245_244.out; have hcz6_0 : w4.cell? ⟨gb244, 0, none⟩ = some (.int .u64 a0_0) := (blk_cell BK244.out 0).trans rfl; have hcz6_1 : w4.cell? ⟨gb244, 1, none⟩ = some (.int .u64 a0_1) := (blk_cell BK244.out 1).trans rfl; have hfz6_0 := blk_frozen BK244.out 0; have hfz6_1 := blk_frozen BK244.out 1) | ((with_reducible refine gate_callee (f := 92) rfl ?_); refine goesL_ (some 9) rfl rfl Tryd.func92 (by kernel_rfl) rfl #[.int .u64 (IntKind.u64.wrap (a0_0 + 1)), .int .u64 (a0_1 / 2)] rfl aV ?_; (with_reducible refine (compact_NewNodeID.calls (IntKind.u64.wrap (a0_0 + 1)) (a0_1 / 2) t246 t247 _ A2.out).mono ?_); rintro e w7 ⟨rfl, hb⟩; refine ⟨_, rfl, ?_⟩; have n0_ := Aside0.mk (blk_below (g := gb244) (o := .cells #[.int .u64 a0_0, .int .u64 a0_1] 106 (0, 0)) (kB BK244.out) hb); have n1_ := Aside0.mk (blk_below (g := gb245) (o := .cells #[.int .u64 0, .int .u64 0] 106 (0, 0)) (kB BK245.out) hb); have n2_ := Aside0.mk (below_step bB hb); clear BK244; clear BK245; clear HB; have BK244 := n0_; have BK245 := n1_; have HB := n2_; clear n0_ n1_ n2_; (try clear hb); (try clear hb2); (try clear hk); (try clear hi); have hcz8_0 : w7.cell? ⟨gb245, 0, none⟩ = some (.int .u64 0) := (blk_cell BK245.out 0).trans rfl; have hcz8_1 : w7.cell? ⟨gb245, 1, none⟩ = some (.int .u64 0) := (blk_cell BK245.out 1).trans rfl; have hfz8_0 := blk_frozen BK245.out 0; have hfz8_1 := blk_frozen BK245.out 1))
 refine bodyPost_ret (results_cell_row rfl _ _ gb245 106 #[.int .u64 t246, .int .u64 t247] (0, 0) _ rfl (by (with_reducible repeat (first | refine blk_drewN ?_ _ | refine blk_drew ?_ | refine blk_alloc ?_ _)); refine blk_put (cs := #[.int .u64 t246, .int .u64 0]) ?_ 1 _ rfl; (with_reducible repeat (first | refine blk_drewN ?_ _ | refine blk_drew ?_ | refine blk_alloc ?_ _)); refine blk_put (cs := #[.int .u64 0, .int .u64 0]) ?_ 0 _ rfl; (with_reducible repeat (first | refine blk_drewN ?_ _ | refine blk_drew ?_ | refine blk_alloc ?_ _)); exact BK245.out) Tryd.underlying106 rfl (by kernel_rfl)) rfl ?_
 exact ⟨by first | rfl | (simp [errW_none, errW_some] <;> rfl) | (simp [*, errW_none, errW_some] <;> rfl), bB⟩


/-! ### impl_Parent: function 29 -/
def impl_Parent.f (a0_0 : Int) (a0_1 : Int) : Option (Int × Int) := (impl_toNode.f a0_0 a0_1).bind fun bt250 => ((compact_NodeID_Parent.f bt250.1 bt250.2).bind fun bt252 => ((impl_fromNode.f bt252.1 bt252.2).bind fun bt254 => (some (bt254.1, bt254.2))))
set_option maxHeartbeats 8000000 in
set_option maxRecDepth 100000 in
theorem impl_Parent.calls (a0_0 : Int) (a0_1 : Int) (r1 : Int) (r2 : Int) (w : World) (h : impl_Parent.f a0_0 a0_1 = some (r1, r2)) :
  Calls Tryd.prog 29 #[.agg #[.int .u64 a0_0, .int .u64 a0_1]] w fun e w' => e = .returned (.agg #[.int .u64 r1, .int .u64 r2]) ∧ Below w.heap.size w w' := by
 have hu54 := Tryd.underlying54
 have HB := Aside0.mk (Below.refl w.heap.size w)
 have H : ((impl_toNode.f a0_0 a0_1).bind fun bt250 => ((compact_NodeID_Parent.f bt250.1 bt250.2).bind fun bt252 => ((impl_fromNode.f bt252.1 bt252.2).bind fun bt254 => (some (bt254.1, bt254.2))))) = some (r1, r2) := h
 clear h
 replace H := Option.bind_eq_some_iff.mp H
 obtain ⟨⟨t250, t251⟩, A20, H⟩ := H
 replace H : ((compact_NodeID_Parent.f t250 t251).bind fun bt252 => ((impl_fromNode.f bt252.1 bt252.2).bind fun bt254 => (some (bt254.1, bt254.2)))) = some (r1, r2) := H
 have A2 := Aside0.mk A20
 clear A20
 replace H := Option.bind_eq_some_iff.mp H
 obtain ⟨⟨t252, t253⟩, A30, H⟩ := H
 replace H : ((impl_fromNode.f t252 t253).bind fun bt254 => (some (bt254.1, bt254.2))) = some (r1, r2) := H
 have A3 := Aside0.mk A30
 clear A30
 replace H := Option.bind_eq_some_iff.mp H
 obtain ⟨⟨t254, t255⟩, A40, H⟩ := H
 replace H : (some (t254, t255)) = some (r1, r2) := H
 have A4 := Aside0.mk A40
 clear A40
 simp only [Option.some.injEq, Prod.mk.injEq] at H
 obtain ⟨rfl, rfl⟩ := H
 go_enter Tryd.func29, Tryd.ntmps29
 go_wp2_with (first | ((with_reducible refine gate_dst (N := 1) rfl ?_); refine box_event ?hg (N := 1) ?hd (cs := #[.int .u64 a0_0, .int .u64 a0_1]) (t := 54) ?hr ?_; (case hd => rfl); (case hg => rfl); (case hr => first | (go_simp; done) | (go_simp; rfl)); intro gb248 hg w5 hbox hb; have n0_ := Aside0.mk (below_step bB hb); have n1_ := Aside0.mk (hbox); have n2_ := Aside0.mk ((by rw [hg]; exact (below_size bB) : w.heap.size ≤ gb248)); have n3_ := Aside0.mk ((by rw [hg]; exact (below_size bB) : w.heap.size ≤ gb248)); clear HB; have HB := n0_; have BK248 := n1_; have GW248 := n2_; have GE248 := n3_; clear n0_ n1_ n2_ n3_; clear hb hbox hg) | ((with_reducible refine gate_dst (N := 2) rfl ?_); refine box_event ?hg (N := 2) ?hd (cs := #[.int .u64 0, .int .u64 0]) (t := 54) ?hr ?_; (case hd => rfl); (case hg => rfl); (case hr => first | (go_simp; done) | (go_simp; rfl)); intro gb249 hg w6 hbox hb; have n0_ := Aside0.mk (blk_below (g := gb248) (o := .cells #[.int .u64 a0_0, .int .u64 a0_1] 54 (0, 0)) (kB BK248.out) hb); have n1_ := Aside0.mk (below_step bB hb); have n2_ := Aside0.mk (hbox); have n3_ := Aside0.mk ((by rw [hg]; exact (below_size bB) : w.heap.size ≤ gb249)); have n4_ := Aside0.mk ((by rw [hg]; exact (below_size bB) : w.heap.size ≤ gb249)); have n5_ := Aside0.mk ((by rw [hg]; exact Nat.ne_of_lt (blk_lt (g := gb248) (o := .cells #[.int .u64 a0_0, .int .u64 a0_1] 54 (0, 0)) (kB BK248.out)) : gb248 ≠ gb249)); have n6_ := Aside0.mk ((by rw [hg]; exact Nat.ne_of_gt (blk_lt (g := gb248) (o := .cells #[.int .u64 a0_0, .int .u64 a0_1] 54 (0, 0)) (kB BK248.out)) : gb249 ≠ gb248)); clear BK248; clear HB; have BK248 := n0_; have HB := n1_; have BK249 := n2_; have GW249 := n3_; have GE249 := n4_; have NB248_249 := n5_; have NB249_248 := n6_; clear n0_ n1_ n2_ n3_ n4_ n5_ n6_; clear hb hbox hg; have hnb7 := NB248_249.out; have hnc7 := NB249_248.out; have hcz8_0 : w6.cell? ⟨gb248, 0, none⟩ = some (.int .u64 a0_0) := (blk_cell BK248.out 0).trans rfl; have hcz8_1 : w6.cell? ⟨gb248, 1, none⟩ = some (.int .u64 a0_1) := (blk_cell BK248.out 1).trans rfl; have hfz8_0 := blk_frozen BK248.out 0; have hfz8_1 := blk_frozen BK248.out 1) | ((with_reducible refine gate_callee (f := 65) rfl ?_); refine goesL_ (some 4) rfl rfl Tryd.func65 (by kernel_rfl) rfl #[.agg #[.int .u64 a0_0, .int .u64 a0_1]] rfl aV ?_; (with_reducible refine (impl_toNode.calls a0_0 a0_1 t250 t251 _ A2.out).mono ?_); rintro e w9 ⟨rfl, hb⟩; refine ⟨_, rfl, ?_⟩; have n0_ := Aside0.mk (blk_below (g := gb248) (o := .cells #[.int .u64 a0_0, .int .u64 a0_1] 54 (0, 0)) (kB BK248.out) hb); have n1_ := Aside0.mk (blk_below (g := gb249) (o := .cells #[.int .u64 0, .int .u64 0] 54 (0, 0)) (kB BK249.out) hb); have n2_ := Aside0.mk (below_step bB hb); clear BK248; clear BK249; clear HB; have BK248 := n0_; have BK249 := n1_; have HB := n2_; clear n0_ n1_ n2_; (try clear hb); (try clear hb2); (try clear hk); (try clear hi)) | ((with_reducible refine gate_callee (f := 66) rfl ?_); refine goesL_ (some 5) rfl rfl Tryd.func66 (by kernel_rfl) rfl #[.agg #[.int .u64 t250, .int .u64 t251]] rfl aV ?_; (with_reducible refine (compact_NodeID_Parent.calls t250 t251 t252 t253 _ A3.out).mono ?_); rintro e w10 ⟨rfl, hb⟩; refine ⟨_, rfl, ?_⟩; have n0_ := Aside0.mk (blk_below (g := gb248) (o := .cells #[.int .u64 a0_0, .int .u64 a0_1] 54 (0, 0)) (kB BK248.out) hb); have n1_ := Aside0.mk (blk_below (g := gb249) (o := .cells #[.int .u64 0, .int .u64 0] 54 (0, 0)) (kB BK249.out) hb); have n2_ := Aside0.mk (below_step bB hb); clear BK248; clear BK249; clear HB; have BK248 := n0_; have BK249 := n1_; have HB := n2_; clear n0_ n1_ n2_; (try clear hb); (try clear hb2); (try clear hk); (try clear hi)) | ((with_reducible refine gate_callee (f := 56) rfl ?_); refine goesL_ (some 6) rfl rfl Tryd.func56 (by kernel_rfl) rfl #[.agg #[.int .u64 t252, .int .u64 t253]] rfl aV ?_; (with_reducible refine (impl_fromNode.calls t252 t253 t254 t255 _ A4.out).mono ?_); rintro e w11 ⟨rfl, hb⟩; refine ⟨_, rfl, ?_⟩; have n0_ := Aside0.mk (blk_below (g := gb248) (o := .cells #[.int .u64 a0_0, .int .u64 a0_1] 54 (0, 0)) (kB BK248.out) hb); have n1_ := Aside0.mk (blk_below (g := gb249) (o := .cells #[.int .u64 0, .int .u64 0] 54 (0, 0)) (kB BK249.out) hb); have n2_ := Aside0.mk (below_step bB hb); clear BK248; clear BK249; clear HB; have BK248 := n0_; have BK249 := n1_; have HB := n2_; clear n0_ n1_ n2_; (try clear hb); (try clear hb2); (try clear hk); (try clear hi); have hcz12_0 : w11.cell? ⟨gb249, 0, none⟩ = some (.int .u64 0) := (blk_cell BK249.out 0).trans rfl; have hcz12_1 : w11.cell? ⟨gb249, 1, none⟩ = some (.int .u64 0) := (blk_cell BK249.out 1).trans rfl; have hfz12_0 := blk_frozen BK249.out 0; have hfz12_1 := blk_frozen BK249.out 1))
 refine bodyPost_ret (results_cell_row rfl _ _ gb249 54 #[.int .u64 t254, .int .u64 t255] (0, 0) _ rfl (by (with_reducible repeat (first | refine blk_drewN ?_ _ | refine blk_drew ?_ | refine blk_alloc ?_ _)); refine blk_put (cs := #[.int .u64 t254, .int .u64 0]) ?_ 1 _ rfl; (with_reducible repeat (first | refine blk_drewN ?_ _ | refine blk_drew ?_ | refine blk_alloc ?_ _)); refine blk_put (cs := #[.int .u64 0, .int .u64 0]) ?_ 0 _ rfl; (with_reducible repeat (first | refine blk_drewN ?_ _ | refine blk_drew ?_ | refine blk_alloc ?_ _)); exact BK249.out) Tryd.underlying54 rfl (by kernel_rfl)) rfl ?_
 exact ⟨by first | rfl | (simp [errW_none, errW_some] <;> rfl) | (simp [*, errW_none, errW_some] <;> rfl), bB⟩


/-! ### spec_RootOf: function 31 -/
def spec_RootOf.f (k : Nat) (a0_0 : Int) (a0_1 : Int) (a0_2 : Int) (a0_3 : Int) (a0_4 : Int) (a0_5 : Int) (l1 : List (List Int)) (a2_0 : Int) (a2_1 : Int) : Option (List Int) := if 0 ≤ a2_0 then (if a2_0 ≤ a2_1 then (if a2_1 ≤ (l1.length : Int) then ((spec_Root.f k a0_0 a0_1 a0_2 a0_3 a0_4 a0_5 ((l1.take (a2_1 : Int).toNat).drop (a2_0 : Int).toNat)).bind fun t263 => (some t263)) else (none)) else (none)) else (none)
theorem spec_RootOf.mono : ∀ a0 a1 a2 a3 a4 a5 a6 a7 a8 k, LeO (spec_RootOf.f k a0 a1 a2 a3 a4 a5 a6 a7 a8) (spec_RootOf.f (k + 1) a0 a1 a2 a3 a4 a5 a6 a7 a8) := by
 intro a0 a1 a2 a3 a4 a5 a6 a7 a8 k
 unfold spec_RootOf.f
 repeat' first
   | (with_reducible exact spec_Root.mono _ _ _ _ _ _ _ _)
   | (with_reducible exact LeO.refl _)
   | (with_reducible exact LeO.none _)
   | (with_reducible refine LeO.ite ?_ ?_)
   | (with_reducible refine LeO.bind ?_ (fun _ => ?_))
   | exact spec_Root.mono _ _ _ _ _ _ _ _
   | exact LeO.none _
   | refine LeO.ite ?_ ?_
   | refine LeO.bind ?_ (fun _ => ?_)
def spec_RootOf.T1 : Bool × List (List Nat × List Nat) := (true, [([], []), ([], []), ([], []), ([2], [2]), ([], []), ([4], [4]), ([1, 3, 5], [1, 3, 5]), ([0, 6], [0, 6]), ([7, 7, 0, 1, 2, 3, 4, 5, 6, 7], [7])])
def spec_RootOf.B1 : List Nat := [0, 0, 0, 4, 0, 16, 62, 127, 255]
theorem spec_RootOf.tab1 : rtab .any (opsOf Tryd.f31 1) = spec_RootOf.T1 := by kernel_rfl
theorem spec_RootOf.bits1 : waitsOk spec_RootOf.T1.2 spec_RootOf.B1 = true := by kernel_rfl
set_option maxHeartbeats 8000000 in
set_option maxRecDepth 100000 in
theorem spec_RootOf.calls (k : Nat) (a0_0 : Int) (a0_1 : Int) (a0_2 : Int) (a0_3 : Int) (a0_4 : Int) (a0_5 : Int) (P1_ : Nat → Prop) (A1 : Option Addr) (c1 : Nat) (l1 : List (List Int)) (a2_0 : Int) (a2_1 : Int) (r : List Int) (w : World) (hs1 : Kd.V (Kd.slice 5 (Kd.int .u8)) 27 w w.heap.size (fun k_ => P1_ k_) (.slice A1 l1.length c1) l1) (h : spec_RootOf.f k a0_0 a0_1 a0_2 a0_3 a0_4 a0_5 l1 a2_0 a2_1 = some r) :
  Calls Tryd.prog 31 #[.agg #[.int .i64 a0_0, .int .i64 a0_1, .int .i64 a0_2, .int .u64 a0_3, .int .u64 a0_4, .int .u64 a0_5], .slice A1 l1.length c1, .agg #[.int .u64 a2_0, .int .u64 a2_1]] w fun e w' => ∃ v0_ : Value, e = .returned (v0_) ∧ Kd.V (Kd.int .u8) 5 w' w.heap.size (fun k_ => (P1_ k_ ∨ w.heap.size ≤ k_)) v0_ r ∧ Below w.heap.size w w' := by
 have hu24 := Tryd.underlying24
 have hu57 := Tryd.underlying57
 have HO1 := Aside0.mk (show Kd.V (Kd.slice 5 (Kd.int .u8)) 27 w w.heap.size (fun k_ => (P1_ k_ ∨ w.heap.size ≤ k_)) (.slice A1 l1.length c1) l1 from Kd.V_mono hs1 (fun k_ hk => .inl hk))
 have HB := Aside0.mk (Below.refl w.heap.size w)
 have H : (if 0 ≤ a2_0 then (if a2_0 ≤ a2_1 then (if a2_1 ≤ (l1.length : Int) then ((spec_Root.f k a0_0 a0_1 a0_2 a0_3 a0_4 a0_5 ((l1.take (a2_1 : Int).toNat).drop (a2_0 : Int).toNat)).bind fun t263 => (some t263)) else (none)) else (none)) else (none)) = some r := h
 clear h
 by_cases c4 : 0 ≤ a2_0
 ·rw [if_pos c4] at H
  have c4b0 := eq_true c4
  have c4b1 : decide (0 ≤ a2_0) = true := decide_eq_true c4
  clear c4
  by_cases c5 : a2_0 ≤ a2_1
  ·rw [if_pos c5] at H
   have c5b0 := eq_true c5
   have c5b1 : decide (a2_0 ≤ a2_1) = true := decide_eq_true c5
   clear c5
   by_cases c6 : a2_1 ≤ (l1.length : Int)
   ·rw [if_pos c6] at H
    have c6b0 := eq_true c6
    have c6b1 : decide (a2_1 ≤ (l1.length : Int)) = true := decide_eq_true c6
    clear c6
    obtain ⟨y258, hy258⟩ : ∃ y_ : List (List Int), y_ = ((l1.take (a2_1 : Int).toNat).drop (a2_0 : Int).toNat) := ⟨_, rfl⟩
    replace H : ((spec_Root.f k a0_0 a0_1 a0_2 a0_3 a0_4 a0_5 y258).bind fun t263 => (some t263)) = some r := by first | (rw [hy258]; with_reducible exact H) | (have H2_ := (Option.bind_some _ _).symm.trans H; rw [hy258]; with_reducible exact H2_) | (have H2_ := (Option.bind_some _ _).symm.trans H; with_reducible exact H2_) | with_reducible exact H | (rw [hy258]; exact H) | exact H
    have Ny258 := Aside0.mk hy258
    clear hy258
    replace H := Option.bind_eq_some_iff.mp H
    obtain ⟨t263, A70, H⟩ := H
    replace H : (some t263) = some r := H
    have A7 := Aside0.mk A70
    clear A70
    obtain rfl := Option.some.inj H
    go_enter Tryd.func31, Tryd.ntmps31
    try go_wp2_with (first | ((with_reducible refine gate_dst (N := 3) rfl ?_); refine box_event ?hg (N := 3) ?hd (cs := #[.int .i64 a0_0, .int .i64 a0_1, .int .i64 a0_2, .int .u64 a0_3, .int .u64 a0_4, .int .u64 a0_5]) (t := 24) ?hr ?_; (case hd => rfl); (case hg => rfl); (case hr => first | (go_simp; done) | (go_simp; rfl)); intro gb256 hg w8 hbox hb; have n0_ := Aside0.mk (Kd.V_below (Kd.V_elderB (kV HO1.out) gb256 (Nat.le_of_eq hg.symm)) hb); have n1_ := Aside0.mk (below_step bB hb); have n2_ := Aside0.mk (hbox); have n3_ := Aside0.mk ((by rw [hg]; exact (below_size bB) : w.heap.size ≤ gb256)); have n4_ := Aside0.mk ((by rw [hg]; exact (below_size bB) : w.heap.size ≤ gb256)); clear HO1; clear HB; have HO1 := n0_; have HB := n1_; have BK256 := n2_; have GW256 := n3_; have GE256 := n4_; clear n0_ n1_ n2_ n3_ n4_; clear hb hbox hg) | ((with_reducible refine gate_dst (N := 5) rfl ?_); refine box_event ?hg (N := 5) ?hd (cs := #[.int .u64 a2_0, .int .u64 a2_1]) (t := 57) ?hr ?_; (case hd => rfl); (case hg => rfl); (case hr => first | (go_simp; done) | (go_simp; rfl)); intro gb257 hg w9 hbox hb; have n0_ := Aside0.mk (Kd.V_below (Kd.V_elderB (kV HO1.out) gb257 (Nat.le_of_eq hg.symm)) hb); have n1_ := Aside0.mk (blk_below (g := gb256) (o := .cells #[.int .i64 a0_0, .int .i64 a0_1, .int .i64 a0_2, .int .u64 a0_3, .int .u64 a0_4, .int .u64 a0_5] 24 (0, 0)) (kB BK256.out) hb); have n2_ := Aside0.mk (below_step bB hb); have n3_ := Aside0.mk (hbox); have n4_ := Aside0.mk ((by rw [hg]; exact (below_size bB) : w.heap.size ≤ gb257)); have n5_ := Aside0.mk ((by rw [hg]; exact (below_size bB) : w.heap.size ≤ gb257)); have n6_ := Aside0.mk ((by rw [hg]; exact Nat.ne_of_lt (blk_lt (g := gb256) (o := .cells #[.int .i64 a0_0, .int .i64 a0_1, .int .i64 a0_2, .int .u64 a0_3, .int .u64 a0_4, .int .u64 a0_5] 24 (0, 0)) (kB BK256.out)) : gb256 ≠ gb257)); have n7_ := Aside0.mk ((by rw [hg]; exact Nat.ne_of_gt (blk_lt (g := gb256) (o := .cells #[.int .i64 a0_0, .int .i64 a0_1, .int .i64 a0_2, .int .u64 a0_3, .int .u64 a0_4, .int .u64 a0_5] 24 (0, 0)) (kB BK256.out)) : gb257 ≠ gb256)); clear HO1; clear BK256; clear HB; have HO1 := n0_; have BK256 := n1_; have HB := n2_; have BK257 := n3_; have GW257 := n4_; have GE257 := n5_; have NB256_257 := n6_; have NB257_256 := n7_; clear n0_ n1_ n2_ n3_ n4_ n5_ n6_ n7_; clear hb hbox hg))
    have n0_ := Aside0.mk (Kd.V_drew HO1.out)
    have n1_ := Aside0.mk (blk_drew BK256.out)
    have n2_ := Aside0.mk (blk_drew BK257.out)
    have n3_ := Aside0.mk (below_drew1 HB.out)
    clear HO1
    clear BK256
    clear BK257
    clear HB
    have HO1 := n0_
    have BK256 := n1_
    have BK257 := n2_
    have HB := n3_
    clear n0_ n1_ n2_ n3_
    have q11 : (a2_1 : Int) ≤ ((l1.length : Int) : Int) := dA
    obtain ⟨i011, hi011, _, hsz11, _⟩ := info_parts info27
    have hroom11 : l1.length ≤ c1 := (Kd.V_reads' HO1.out).2.1
    have hC11 : Kd.F (Kd.slice 5 (Kd.int .u8)) _ _ A1 l1.length l1 := (Kd.V_at (base := w.heap.size) HO1.out).2.2
    have ql11 : (a2_0 : Int) ≤ (a2_1 : Int) := dA
    have q011 : (0 : Int) ≤ (a2_0 : Int) := dA
    have hcut11 := cut_mid (P := Tryd.prog) 25 27 .u64 .u64 Tryd.underlying25 hi011 1 hsz11 A1 l1.length c1 a2_0 a2_1 q011 ql11 q11 hroom11
    have hr11 := Kd.F_mid (lo := (a2_0 : Int).toNat) (hi := (a2_1 : Int).toNat) (c := c1) hC11 (by omega) (by omega) hroom11
    obtain ⟨A11, hA11⟩ : ∃ Aq_, Aq_ = (if c1 = (a2_0 : Int).toNat then A1 else (A1 : Option Addr).map (·.add ((a2_0 : Int).toNat * 1))) := ⟨_, rfl⟩
    obtain ⟨c11, hc11⟩ : ∃ cq_, cq_ = c1 - (a2_0 : Int).toNat := ⟨_, rfl⟩
    have hy11 : y258.length = (a2_1 : Int).toNat - (a2_0 : Int).toNat := (by rw [Ny258.out, List.length_drop, List.length_take] <;> omega)
    rw [show ((l1).take (a2_1 : Int).toNat).drop (a2_0 : Int).toNat = y258 from Ny258.out.symm] at hr11
    replace hr11 : Kd.F (Kd.slice 5 (Kd.int .u8)) _ _ A11 y258.length y258 := (by rw [hA11]; exact hr11)
    rw [← hy11, ← hA11, ← hc11] at hcut11
    have HO262 := Aside0.mk (show Kd.V (Kd.slice 5 (Kd.int .u8)) 27 _ w.heap.size _ (.slice A11 y258.length c11) y258 from Kd.V_mk (by rw [hy11, hc11]; exact Nat.sub_le_sub_right (Nat.le_trans (by omega) hroom11) _) hr11)
    have HC262 := Aside0.mk (show y258.length ≤ c11 from by rw [hy11, hc11]; exact Nat.sub_le_sub_right (Nat.le_trans (by omega) hroom11) _)
    clear hr11 hC11 hroom11 hi011 hsz11 hc11
    have KY11 := Aside0.mk hy11
    have KA11 := Aside0.mk hA11
    clear hy11 hA11
    replace q11 := eq_true q11
    refine start_ (n := 9) (S := fun w' => w'.cell? ⟨gb256, 0, none⟩ = some (.int .i64 a0_0) ∧ w'.cell? ⟨gb256, 1, none⟩ = some (.int .i64 a0_1) ∧ w'.cell? ⟨gb256, 2, none⟩ = some (.int .i64 a0_2) ∧ w'.cell? ⟨gb256, 3, none⟩ = some (.int .u64 a0_3) ∧ w'.cell? ⟨gb256, 4, none⟩ = some (.int .u64 a0_4) ∧ w'.cell? ⟨gb256, 5, none⟩ = some (.int .u64 a0_5) ∧ w'.cell? ⟨gb257, 0, none⟩ = some (.int .u64 a2_0) ∧ w'.cell? ⟨gb257, 1, none⟩ = some (.int .u64 a2_1)) (ds := []) #[false, false, false, false, false, false, false, false, false] (by kernel_rfl) rfl rfl ⟨(blk_cell BK256.out 0).trans rfl, (blk_cell BK256.out 1).trans rfl, (blk_cell BK256.out 2).trans rfl, (blk_cell BK256.out 3).trans rfl, (blk_cell BK256.out 4).trans rfl, (blk_cell BK256.out 5).trans rfl, (blk_cell BK257.out 0).trans rfl, (blk_cell BK257.out 1).trans rfl⟩ (fun hHeld => ?_); refine with_tabW spec_RootOf.tab1 spec_RootOf.bits1 (fun HT_ HW_ => ?_)
    generalize w9.drew = w10 at HO1 BK256 BK257 HB HO262 hHeld ⊢
    refine pure_ (i := 1) (N := some 8) (v := ?_) (a' := ?_) #[false, true, false, false, false, false, false, false, false] rfl rfl (any_of HT_.out (by kernel_rfl)) (fun _ _ _ h => h) (Or.inl ⟨by rfl, ?_⟩) ?_ ?_
    rotate_left
    ·intro w'
     go_simp
     with_reducible rfl
    rotate_left
    ·simp only [Act.put, List.setIfInBounds_toArray, List.set_cons_zero, List.set_cons_succ, i64_w, i32_w]
     rfl
    refine pure_ (i := 2) (N := some 9) (v := ?_) (a' := ?_) #[false, true, true, false, false, false, false, false, false] rfl rfl (any_of HT_.out (by kernel_rfl)) (fun _ _ _ h => h) (Or.inl ⟨by rfl, ?_⟩) ?_ ?_
    rotate_left
    ·intro w'
     go_simp
     with_reducible rfl
    rotate_left
    ·simp only [Act.put, List.setIfInBounds_toArray, List.set_cons_zero, List.set_cons_succ, i64_w, i32_w]
     rfl
    refine pure_ (i := 4) (N := some 11) (v := ?_) (a' := ?_) #[false, true, true, false, true, false, false, false, false] rfl rfl (any_of HT_.out (by kernel_rfl)) (fun _ _ _ h => h) (Or.inl ⟨by rfl, ?_⟩) ?_ ?_
    rotate_left
    ·intro w'
     go_simp
     with_reducible rfl
    rotate_left
    ·simp only [Act.put, List.setIfInBounds_toArray, List.set_cons_zero, List.set_cons_succ, i64_w, i32_w]
     rfl
    refine take_ (i := 0) (N := some 7) (v := ?_) (a' := ?_) #[true, true, true, false, true, false, false, false, false] rfl rfl (take_ofW HT_.out HW_.out (by kernel_rfl)) (fun _ _ _ h => h) (Or.inl ⟨by rfl, ?_⟩) hHeld ?_ ?_
    rotate_left
    ·rintro w' ⟨s0, s1, s2, s3, s4, s5, s6, s7⟩
     go_simp
     with_reducible rfl
    rotate_left
    ·simp only [Act.put, List.setIfInBounds_toArray, List.set_cons_zero, List.set_cons_succ, i64_w, i32_w]
     rfl
    refine take_ (i := 3) (N := some 10) (v := ?_) (a' := ?_) #[true, true, true, true, true, false, false, false, false] rfl rfl (take_ofW HT_.out HW_.out (by kernel_rfl)) (fun _ _ _ h => h) (Or.inl ⟨by rfl, ?_⟩) hHeld ?_ ?_
    rotate_left
    ·rintro w' ⟨s0, s1, s2, s3, s4, s5, s6, s7⟩
     go_simp
     with_reducible rfl
    rotate_left
    ·simp only [Act.put, List.setIfInBounds_toArray, List.set_cons_zero, List.set_cons_succ, i64_w, i32_w]
     rfl
    refine take_ (i := 5) (N := some 12) (v := ?_) (a' := ?_) #[true, true, true, true, true, true, false, false, false] rfl rfl (take_ofW HT_.out HW_.out (by kernel_rfl)) (fun _ _ _ h => h) (Or.inl ⟨by rfl, ?_⟩) hHeld ?_ ?_
    rotate_left
    ·rintro w' ⟨s0, s1, s2, s3, s4, s5, s6, s7⟩
     go_simp
     with_reducible rfl
    rotate_left
    ·simp only [Act.put, List.setIfInBounds_toArray, List.set_cons_zero, List.set_cons_succ, i64_w, i32_w]
     rfl
    refine pure_ (i := 6) (N := some 13) (v := ?_) (a' := ?_) #[true, true, true, true, true, true, true, false, false] rfl rfl (any_of HT_.out (by kernel_rfl)) (fun _ _ _ h => h) (Or.inl ⟨by rfl, ?_⟩) ?_ ?_
    rotate_left
    ·intro w'
     go_simp
     with_reducible rfl
    rotate_left
    ·simp only [Act.put, List.setIfInBounds_toArray, List.set_cons_zero, List.set_cons_succ, i64_w, i32_w]
     rfl
    refine one_ (i := 7) (N := some 14) #[true, true, true, true, true, true, true, true, false] rfl rfl (one_of HT_.out (by kernel_rfl)) (by decide) (fun K hK => ?_)
    refine goes_ Tryd.func64 (by kernel_rfl) rfl #[.agg #[.int .i64 a0_0, .int .i64 a0_1, .int .i64 a0_2, .int .u64 a0_3, .int .u64 a0_4, .int .u64 a0_5], .slice A11 y258.length c11] (by rfl) rfl rfl aV ?_
    with_reducible refine (spec_Root.calls k a0_0 a0_1 a0_2 a0_3 a0_4 a0_5 (fun k_ => (((P1_ k_ ∨ w.heap.size ≤ k_) ∧ k_ ≠ gb256) ∧ k_ ≠ gb257)) _ _ y258 t263 _ ?side1 A7.out).mono ?_
    (case side1 => first | exact HO262.out | exact Kd.V_mono HO262.out (fun k_ h_ => by simp only [and_assoc] at h_ ⊢; exact h_))
    rintro e w12 ⟨v264, rfl, ho0, hb⟩
    refine ⟨_, rfl, ?_⟩
    have n0_ := Aside0.mk (Kd.V_below (kV HO1.out) hb)
    have n1_ := Aside0.mk (Kd.V_below (kV HO262.out) hb)
    have n2_ := Aside0.mk (Kd.V_lower (Kd.V_mono (ok' := fun k_ => (P1_ k_ ∨ w.heap.size ≤ k_) ∧ k_ ≠ gb256 ∧ k_ ≠ gb257) ho0 (fun k_ hk_ => ⟨Or.elim hk_ (fun hs_ => hs_.1.1) (fun hn_ => (.inr (Nat.le_trans (below_size bB) hn_))), Or.elim hk_ (fun hs_ => hs_.1.2) (fun hn_ => (Kd.freshB (g := gb256) (o := .cells #[.int .i64 a0_0, .int .i64 a0_1, .int .i64 a0_2, .int .u64 a0_3, .int .u64 a0_4, .int .u64 a0_5] 24 (0, 0)) (kB BK256.out) k_ hn_)), Or.elim hk_ (fun hs_ => hs_.2) (fun hn_ => (Kd.freshB (g := gb257) (o := .cells #[.int .u64 a2_0, .int .u64 a2_1] 57 (0, 0)) (kB BK257.out) k_ hn_))⟩)) (below_size bB))
    have n3_ := Aside0.mk (blk_below (g := gb256) (o := .cells #[.int .i64 a0_0, .int .i64 a0_1, .int .i64 a0_2, .int .u64 a0_3, .int .u64 a0_4, .int .u64 a0_5] 24 (0, 0)) (kB BK256.out) hb)
    have n4_ := Aside0.mk (blk_below (g := gb257) (o := .cells #[.int .u64 a2_0, .int .u64 a2_1] 57 (0, 0)) (kB BK257.out) hb)
    have n5_ := Aside0.mk (below_step bB hb)
    clear HO1
    clear HO262
    clear BK256
    clear BK257
    clear HB
    have HO1 := n0_
    have HO262 := n1_
    have HO265 := n2_
    have BK256 := n3_
    have BK257 := n4_
    have HB := n5_
    clear n0_ n1_ n2_ n3_ n4_ n5_
    (try clear hb)
    (try clear hb2)
    (try clear hk)
    (try clear hi)
    (try clear ho0)
    refine hK.out _ _ ⟨(blk_cell BK256.out 0).trans rfl, (blk_cell BK256.out 1).trans rfl, (blk_cell BK256.out 2).trans rfl, (blk_cell BK256.out 3).trans rfl, (blk_cell BK256.out 4).trans rfl, (blk_cell BK256.out 5).trans rfl, (blk_cell BK257.out 0).trans rfl, (blk_cell BK257.out 1).trans rfl⟩ (fun hHeld => ?_)
    clear hK K
    refine norm_ (a' := ?_) ?_ ?_
    rotate_left
    ·show Act.put _ (some 14) _ = _
     simp only [Act.put, List.setIfInBounds_toArray, List.set_cons_zero, List.set_cons_succ, i64_w, i32_w]
     rfl
    refine pure_ (i := 8) (N := some 6) (v := ?_) (a' := ?_) #[true, true, true, true, true, true, true, true, true] rfl rfl (any_of HT_.out (by kernel_rfl)) (fun _ _ _ h => h) (Or.inl ⟨by rfl, ?_⟩) ?_ ?_
    rotate_left
    ·intro w'
     go_simp
     with_reducible rfl
    rotate_left
    ·simp only [Act.put, List.setIfInBounds_toArray, List.set_cons_zero, List.set_cons_succ, i64_w, i32_w]
     rfl
    refine done_ (done_of HT_.out (by kernel_rfl)) ?_
    try go_wp2
    go_ret
    exact ⟨_, by first | rfl | (simp [errW_none, errW_some] <;> rfl) | (simp [*, errW_none, errW_some] <;> rfl), by (with_reducible repeat (first | apply Kd.V_alloc | apply Kd.V_drewN | apply Kd.V_drew)); exact Kd.V_mono HO265.out (fun _ hk => hk.1), bB⟩
   ·rw [if_neg c6] at H
    exact absurd H (by simp)
  ·rw [if_neg c5] at H
   exact absurd H (by simp)
 ·rw [if_neg c4] at H
  exact absurd H (by simp)

end Go.Proofs.YtkmdkmlgahfcpaaDoor.M

