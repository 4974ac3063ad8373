-- Written by a program of ours (wip/xp) out of the translation; Lean checks it.
import Derived.Test.YtkmdkmlgahfcpaaDoorSq
import Derived.Test.YtkmdkmlgahfcpaaDoorMm1
import Derived.Test.YtkmdkmlgahfcpaaDoorMm6
import Derived.Test.YtkmdkmlgahfcpaaDoorMm4
import Derived.Test.YtkmdkmlgahfcpaaDoorMm5
namespace Go.Proofs.YtkmdkmlgahfcpaaDoor.M
open Go.RowKit Go.Proofs.YtkmdkmlgahfcpaaDoorW.PrintWords Go.Proofs.YtkmdkmlgahfcpaaDoorW.PrintLast Go.Proofs.YtkmdkmlgahfcpaaDoorW.PrintMore
attribute [local go_sem] max2_int min2_int max_two min_two max_three min_three max_four min_four   -- for this text's walks alone
set_option linter.unusedVariables false
set_option linter.unusedSimpArgs false

/-! ### impl_Consistency: function 34 -/
def impl_Consistency.f (k : Nat) (a0 : Int) (a1 : Int) : Option ((List (S54)) × Int × Int × Int × Int × Bool) := (proof_Consistency.f k a0 a1).bind fun bt188 => (if bt188.2.2.2.2.2.isNone = true then ((impl_fromProof.f k bt188.1 bt188.2.1 bt188.2.2.1 bt188.2.2.2.1 bt188.2.2.2.2.1).bind fun bt198 => (some (bt198.1, bt198.2.1, bt198.2.2.1, bt198.2.2.2.1, bt198.2.2.2.2, true))) else (some (([] : List (S54)), 0, 0, 0, 0, false)))
theorem impl_Consistency.mono : ∀ a0 a1 k, LeO (impl_Consistency.f k a0 a1) (impl_Consistency.f (k + 1) a0 a1) := by
 intro a0 a1 k
 unfold impl_Consistency.f
 repeat' first
   | (with_reducible exact impl_fromProof.mono _ _ _ _ _ _)
   | (with_reducible exact proof_Consistency.mono _ _ _)
   | (with_reducible exact LeO.refl _)
   | (with_reducible exact LeO.none _)
   | (with_reducible refine LeO.ite ?_ ?_)
   | (with_reducible refine LeO.bind ?_ (fun _ => ?_))
   | exact impl_fromProof.mono _ _ _ _ _ _
   | exact proof_Consistency.mono _ _ _
   | exact LeO.none _
   | refine LeO.ite ?_ ?_
   | refine LeO.bind ?_ (fun _ => ?_)
set_option maxHeartbeats 8000000 in
set_option maxRecDepth 100000 in
theorem impl_Consistency.calls (k : Nat) (a0 : Int) (a1 : Int) (r1 : List (S54)) (r2 : Int) (r3 : Int) (r4 : Int) (r5 : Int) (r6 : Bool) (w : World) (hT : TabOK w) (h : impl_Consistency.f k a0 a1 = some (r1, r2, r3, r4, r5, r6)) :
  Calls Tryd.prog 34 #[.int .u64 a0, .int .u64 a1] w fun e w' => ∃ v0_ : Value, e = .returned (.tuple #[.agg #[v0_, .int .u64 r2, .int .u64 r3, .int .i64 r4, .int .i64 r5], .bool r6]) ∧ Kd.R k54 54 w' w.heap.size (fun _ => True) v0_ r1 ∧ Below w.heap.size w w' := by
 have hu68 := Tryd.underlying68
 have hu122 := Tryd.underlying122
 have hu91 := Tryd.underlying91
 have HT := Aside0.mk hT
 clear hT
 have HB := Aside0.mk (Below.refl w.heap.size w)
 have H : ((proof_Consistency.f k a0 a1).bind fun bt188 => (if bt188.2.2.2.2.2.isNone = true then ((impl_fromProof.f k bt188.1 bt188.2.1 bt188.2.2.1 bt188.2.2.2.1 bt188.2.2.2.2.1).bind fun bt198 => (some (bt198.1, bt198.2.1, bt198.2.2.1, bt198.2.2.2.1, bt198.2.2.2.2, true))) else (some (([] : List (S54)), 0, 0, 0, 0, false)))) = some (r1, r2, r3, r4, r5, r6) := h
 clear h
 replace H := Option.bind_eq_some_iff.mp H
 obtain ⟨⟨t188, t191, t192, t193, t194, t195⟩, A30, H⟩ := H
 replace H : (if t195.isNone = true then ((impl_fromProof.f k t188 t191 t192 t193 t194).bind fun bt198 => (some (bt198.1, bt198.2.1, bt198.2.2.1, bt198.2.2.2.1, bt198.2.2.2.2, true))) else (some (([] : List (S54)), 0, 0, 0, 0, false))) = some (r1, r2, r3, r4, r5, r6) := H
 have A3 := Aside0.mk A30
 clear A30
 rcases t195 with _ | q197
 ·have H1 : ((impl_fromProof.f k t188 t191 t192 t193 t194).bind fun bt198 => (some (bt198.1, bt198.2.1, bt198.2.2.1, bt198.2.2.2.1, bt198.2.2.2.2, true))) = some (r1, r2, r3, r4, r5, r6) := by rw [if_pos (show (none : Option Int).isNone = true by rfl)] at H; exact H
  clear H
  have H := H1
  clear H1
  try simp only [errW_none, errW_some]
  replace H := Option.bind_eq_some_iff.mp H
  obtain ⟨⟨t198, t201, t202, t203, t204⟩, A40, H⟩ := H
  replace H : (some (t198, t201, t202, t203, t204, true)) = some (r1, r2, r3, r4, r5, r6) := H
  have A4 := Aside0.mk A40
  clear A40
  simp only [Option.some.injEq, Prod.mk.injEq] at H
  obtain ⟨rfl, rfl, rfl, rfl, rfl, rfl⟩ := H
  go_enter Tryd.func34, Tryd.ntmps34
  go_wp2_with (first | ((with_reducible refine gate_dst (N := 4) rfl ?_); refine box_event ?hg (N := 4) ?hd (cs := #[.slice none 0 0, .int .u64 0, .int .u64 0, .int .i64 0, .int .i64 0]) (t := 68) ?hr ?_; (case hd => rfl); (case hg => rfl); (case hr => first | (go_simp; done) | (go_simp; rfl)); intro gb187 hg w5 hbox hb; have n0_ := Aside0.mk (below_step bB hb); have n1_ := Aside0.mk (hbox); have n2_ := Aside0.mk ((by rw [hg]; exact (below_size bB) : w.heap.size ≤ gb187)); have n3_ := Aside0.mk ((by rw [hg]; exact (below_size bB) : w.heap.size ≤ gb187)); clear HB; have HB := n0_; have BK187 := n1_; have GW187 := n2_; have GE187 := n3_; clear n0_ n1_ n2_ n3_; clear hb hbox hg) | ((with_reducible refine gate_callee (f := 69) rfl ?_); refine goesL_ (some 11) rfl rfl Tryd.func69 (by kernel_rfl) rfl #[.int .u64 a0, .int .u64 a1] rfl aV ?_; (with_reducible refine (proof_Consistency.calls k a0 a1 t188 t191 t192 t193 t194 none _ ?side1 A3.out).mono ?_); (case side1 => exact TabOK.below HT.out bB); rintro e w6 ⟨Tt195, Xt195, v189, rfl, ho0, hb⟩; refine ⟨_, rfl, ?_⟩; have n0_ := Aside0.mk (Kd.V_lower (Kd.V_mono (ok' := fun k_ => k_ ≠ gb187) ho0 (fun k_ hk_ => (Kd.freshB (g := gb187) (o := .cells #[.slice none 0 0, .int .u64 0, .int .u64 0, .int .i64 0, .int .i64 0] 68 (0, 0)) (kB BK187.out) k_ hk_))) (below_size bB)); have n1_ := Aside0.mk (blk_below (g := gb187) (o := .cells #[.slice none 0 0, .int .u64 0, .int .u64 0, .int .i64 0, .int .i64 0] 68 (0, 0)) (kB BK187.out) hb); have n2_ := Aside0.mk (below_step bB hb); clear BK187; clear HB; have HO190 := n0_; have BK187 := n1_; have HB := n2_; clear n0_ n1_ n2_; (try clear hb); (try clear hb2); (try clear hk); (try clear hi); (try clear ho0); (try simp only [errW_none, errW_some])) | ((with_reducible refine gate_dst (N := 6) rfl ?_); refine box_event ?hg (N := 6) ?hd (cs := #[.slice none 0 0, .int .i64 0, .int .i64 0, .int .u64 0, .int .u64 0]) (t := 122) ?hr ?_; (case hd => rfl); (case hg => rfl); (case hr => first | (go_simp; done) | (go_simp; rfl)); intro gb196 hg w7 hbox hb; have n0_ := Aside0.mk (Kd.V_below (Kd.V_elderB (kV HO190.out) gb196 (Nat.le_of_eq hg.symm)) hb); have n1_ := Aside0.mk (blk_below (g := gb187) (o := .cells #[.slice none 0 0, .int .u64 0, .int .u64 0, .int .i64 0, .int .i64 0] 68 (0, 0)) (kB BK187.out) hb); have n2_ := Aside0.mk (below_step bB hb); have n3_ := Aside0.mk (hbox); have n4_ := Aside0.mk ((by rw [hg]; exact (below_size bB) : w.heap.size ≤ gb196)); have n5_ := Aside0.mk ((by rw [hg]; exact (below_size bB) : w.heap.size ≤ gb196)); have n6_ := Aside0.mk ((by rw [hg]; exact Nat.ne_of_lt (blk_lt (g := gb187) (o := .cells #[.slice none 0 0, .int .u64 0, .int .u64 0, .int .i64 0, .int .i64 0] 68 (0, 0)) (kB BK187.out)) : gb187 ≠ gb196)); have n7_ := Aside0.mk ((by rw [hg]; exact Nat.ne_of_gt (blk_lt (g := gb187) (o := .cells #[.slice none 0 0, .int .u64 0, .int .u64 0, .int .i64 0, .int .i64 0] 68 (0, 0)) (kB BK187.out)) : gb196 ≠ gb187)); clear HO190; clear BK187; clear HB; have HO190 := n0_; have BK187 := n1_; have HB := n2_; have BK196 := n3_; have GW196 := n4_; have GE196 := n5_; have NB187_196 := n6_; have NB196_187 := n7_; clear n0_ n1_ n2_ n3_ n4_ n5_ n6_ n7_; clear hb hbox hg; obtain ⟨Ao8, co8, eo8⟩ := Kd.V_slice HO190.out; subst eo8; have hnb9 := NB196_187.out; have hnc9 := NB187_196.out; have hcz10_0 : w7.cell? ⟨gb196, 0, none⟩ = some (.slice none 0 0) := (blk_cell BK196.out 0).trans rfl; have hcz10_1 : w7.cell? ⟨gb196, 1, none⟩ = some (.int .i64 0) := (blk_cell BK196.out 1).trans rfl; have hcz10_2 : w7.cell? ⟨gb196, 2, none⟩ = some (.int .i64 0) := (blk_cell BK196.out 2).trans rfl; have hcz10_3 : w7.cell? ⟨gb196, 3, none⟩ = some (.int .u64 0) := (blk_cell BK196.out 3).trans rfl; have hcz10_4 : w7.cell? ⟨gb196, 4, none⟩ = some (.int .u64 0) := (blk_cell BK196.out 4).trans rfl; have hfz10_0 := blk_frozen BK196.out 0; have hfz10_1 := blk_frozen BK196.out 1; have hfz10_2 := blk_frozen BK196.out 2; have hfz10_3 := blk_frozen BK196.out 3; have hfz10_4 := blk_frozen BK196.out 4) | ((with_reducible refine gate_callee (f := 70) rfl ?_); refine goesL_ (some 18) rfl rfl Tryd.func70 (by kernel_rfl) rfl #[.agg #[.slice Ao8 t188.length co8, .int .i64 t191, .int .i64 t192, .int .u64 t193, .int .u64 t194]] rfl aV ?_; (with_reducible refine (impl_fromProof.calls k _ _ t188 t191 t192 t193 t194 t198 t201 t202 t203 t204 _ ?side1 ?side2 A4.out).mono ?_); (case side1 => refine (Kd.V_reads' (e := 106) (base := w.heap.size) (ok := fun k_ => (k_ ≠ gb187 ∧ k_ ≠ gb196)) (n := t188.length) (c := co8) ?_).2.2; exact (by (with_reducible repeat (first | apply Kd.V_alloc | apply Kd.V_drewN | apply Kd.V_drew)); exact (Kd.V_mono (Kd.V_far (p := ⟨gb196, 4, none⟩) (Kd.V_far (p := ⟨gb196, 3, none⟩) (Kd.V_far (p := ⟨gb196, 2, none⟩) (Kd.V_far (p := ⟨gb196, 1, none⟩) (Kd.V_far (p := ⟨gb196, 0, none⟩) (Kd.V_mono HO190.out (fun k_ hk => (⟨hk, hk.2⟩ : _ ∧ k_ ≠ gb196))) (fun _ hk => hk.2) (.slice Ao8 t188.length co8)) (fun _ hk => hk.2) (.int .i64 t191)) (fun _ hk => hk.2) (.int .i64 t192)) (fun _ hk => hk.2) (.int .u64 t193)) (fun _ hk => hk.2) (.int .u64 t194)) (fun _ h_ => h_.1)))); (case side2 => exact (Kd.V_reads' HO190.out).2.1); rintro e w11 ⟨v199, rfl, ho0, hb⟩; refine ⟨_, rfl, ?_⟩; have n0_ := Aside0.mk (Kd.V_elder' (by (with_reducible repeat (first | apply Kd.V_alloc | apply Kd.V_drewN | apply Kd.V_drew)); exact (Kd.V_mono (Kd.V_far (p := ⟨gb196, 4, none⟩) (Kd.V_far (p := ⟨gb196, 3, none⟩) (Kd.V_far (p := ⟨gb196, 2, none⟩) (Kd.V_far (p := ⟨gb196, 1, none⟩) (Kd.V_far (p := ⟨gb196, 0, none⟩) (Kd.V_mono HO190.out (fun k_ hk => (⟨hk, hk.2⟩ : _ ∧ k_ ≠ gb196))) (fun _ hk => hk.2) (.slice Ao8 t188.length co8)) (fun _ hk => hk.2) (.int .i64 t191)) (fun _ hk => hk.2) (.int .i64 t192)) (fun _ hk => hk.2) (.int .u64 t193)) (fun _ hk => hk.2) (.int .u64 t194)) (fun _ h_ => h_.1))) (Kd.R_base ho0) hb); have n1_ := Aside0.mk (Kd.R_lower ho0 (below_size bB)); have n2_ := Aside0.mk (blk_below (g := gb187) (o := .cells #[.slice none 0 0, .int .u64 0, .int .u64 0, .int .i64 0, .int .i64 0] 68 (0, 0)) (by (with_reducible repeat (first | refine blk_drewN ?_ _ | refine blk_drew ?_ | refine blk_alloc ?_ _)); refine blk_far ?_ NB187_196.out _; (with_reducible repeat (first | refine blk_drewN ?_ _ | refine blk_drew ?_ | refine blk_alloc ?_ _)); refine blk_far ?_ NB187_196.out _; (with_reducible repeat (first | refine blk_drewN ?_ _ | refine blk_drew ?_ | refine blk_alloc ?_ _)); refine blk_far ?_ NB187_196.out _; (with_reducible repeat (first | refine blk_drewN ?_ _ | refine blk_drew ?_ | refine blk_alloc ?_ _)); refine blk_far ?_ NB187_196.out _; (with_reducible repeat (first | refine blk_drewN ?_ _ | refine blk_drew ?_ | refine blk_alloc ?_ _)); refine blk_far ?_ NB187_196.out _; (with_reducible repeat (first | refine blk_drewN ?_ _ | refine blk_drew ?_ | refine blk_alloc ?_ _)); exact BK187.out) hb); have n3_ := Aside0.mk (blk_below (g := gb196) (o := .cells #[.slice Ao8 t188.length co8, .int .i64 t191, .int .i64 t192, .int .u64 t193, .int .u64 t194] 122 (0, 0)) (by (with_reducible repeat (first | refine blk_drewN ?_ _ | refine blk_drew ?_ | refine blk_alloc ?_ _)); refine blk_put (cs := #[.slice Ao8 t188.length co8, .int .i64 t191, .int .i64 t192, .int .u64 t193, .int .u64 0]) ?_ 4 _ rfl; (with_reducible repeat (first | refine blk_drewN ?_ _ | refine blk_drew ?_ | refine blk_alloc ?_ _)); refine blk_put (cs := #[.slice Ao8 t188.length co8, .int .i64 t191, .int .i64 t192, .int .u64 0, .int .u64 0]) ?_ 3 _ rfl; (with_reducible repeat (first | refine blk_drewN ?_ _ | refine blk_drew ?_ | refine blk_alloc ?_ _)); refine blk_put (cs := #[.slice Ao8 t188.length co8, .int .i64 t191, .int .i64 0, .int .u64 0, .int .u64 0]) ?_ 2 _ rfl; (with_reducible repeat (first | refine blk_drewN ?_ _ | refine blk_drew ?_ | refine blk_alloc ?_ _)); refine blk_put (cs := #[.slice Ao8 t188.length co8, .int .i64 0, .int .i64 0, .int .u64 0, .int .u64 0]) ?_ 1 _ rfl; (with_reducible repeat (first | refine blk_drewN ?_ _ | refine blk_drew ?_ | refine blk_alloc ?_ _)); refine blk_put (cs := #[.slice none 0 0, .int .i64 0, .int .i64 0, .int .u64 0, .int .u64 0]) ?_ 0 _ rfl; (with_reducible repeat (first | refine blk_drewN ?_ _ | refine blk_drew ?_ | refine blk_alloc ?_ _)); exact BK196.out) hb); have n4_ := Aside0.mk (below_step bB hb); clear HO190; clear BK187; clear BK196; clear HB; have HO190 := n0_; have HO200 := n1_; have BK187 := n2_; have BK196 := n3_; have HB := n4_; clear n0_ n1_ n2_ n3_ n4_; (try clear hb); (try clear hb2); (try clear hk); (try clear hi); (try clear ho0); obtain ⟨Ao12, co12, eo12⟩ := Kd.R_slice HO200.out; subst eo12; have hcz13_0 : w11.cell? ⟨gb187, 0, none⟩ = some (.slice none 0 0) := (blk_cell BK187.out 0).trans rfl; have hcz13_1 : w11.cell? ⟨gb187, 1, none⟩ = some (.int .u64 0) := (blk_cell BK187.out 1).trans rfl; have hcz13_2 : w11.cell? ⟨gb187, 2, none⟩ = some (.int .u64 0) := (blk_cell BK187.out 2).trans rfl; have hcz13_3 : w11.cell? ⟨gb187, 3, none⟩ = some (.int .i64 0) := (blk_cell BK187.out 3).trans rfl; have hcz13_4 : w11.cell? ⟨gb187, 4, none⟩ = some (.int .i64 0) := (blk_cell BK187.out 4).trans rfl; have hfz13_0 := blk_frozen BK187.out 0; have hfz13_1 := blk_frozen BK187.out 1; have hfz13_2 := blk_frozen BK187.out 2; have hfz13_3 := blk_frozen BK187.out 3; have hfz13_4 := blk_frozen BK187.out 4))
  refine bodyPost_ret (results_ct rfl _ _ gb187 68 #[.slice Ao12 t198.length co12, .int .u64 t201, .int .u64 t202, .int .i64 t203, .int .i64 t204] (0, 0) _ rfl (by (with_reducible repeat (first | refine blk_drewN ?_ _ | refine blk_drew ?_ | refine blk_alloc ?_ _)); refine blk_put (cs := #[.slice Ao12 t198.length co12, .int .u64 t201, .int .u64 t202, .int .i64 t203, .int .i64 0]) ?_ 4 _ rfl; (with_reducible repeat (first | refine blk_drewN ?_ _ | refine blk_drew ?_ | refine blk_alloc ?_ _)); refine blk_put (cs := #[.slice Ao12 t198.length co12, .int .u64 t201, .int .u64 t202, .int .i64 0, .int .i64 0]) ?_ 3 _ rfl; (with_reducible repeat (first | refine blk_drewN ?_ _ | refine blk_drew ?_ | refine blk_alloc ?_ _)); refine blk_put (cs := #[.slice Ao12 t198.length co12, .int .u64 t201, .int .u64 0, .int .i64 0, .int .i64 0]) ?_ 2 _ rfl; (with_reducible repeat (first | refine blk_drewN ?_ _ | refine blk_drew ?_ | refine blk_alloc ?_ _)); refine blk_put (cs := #[.slice Ao12 t198.length co12, .int .u64 0, .int .u64 0, .int .i64 0, .int .i64 0]) ?_ 1 _ rfl; (with_reducible repeat (first | refine blk_drewN ?_ _ | refine blk_drew ?_ | refine blk_alloc ?_ _)); refine blk_put (cs := #[.slice none 0 0, .int .u64 0, .int .u64 0, .int .i64 0, .int .i64 0]) ?_ 0 _ rfl; (with_reducible repeat (first | refine blk_drewN ?_ _ | refine blk_drew ?_ | refine blk_alloc ?_ _)); exact BK187.out) Tryd.underlying68 rfl (by kernel_rfl)) rfl ?_
  exact ⟨_, by first | rfl | (simp [errW_none, errW_some] <;> rfl) | (simp [*, errW_none, errW_some] <;> rfl), by (with_reducible repeat (first | apply Kd.R_alloc | apply Kd.R_drewN | apply Kd.R_drew)); exact Kd.R_mono (Kd.R_far (p := ⟨gb187, 4, none⟩) (Kd.R_far (p := ⟨gb187, 3, none⟩) (Kd.R_far (p := ⟨gb187, 2, none⟩) (Kd.R_far (p := ⟨gb187, 1, none⟩) (Kd.R_far (p := ⟨gb187, 0, none⟩) (Kd.R_types HO200.out BK187.out (by decide)) (fun _ hk => hk.2) (.slice Ao12 t198.length co12)) (fun _ hk => hk.2) (.int .u64 t201)) (fun _ hk => hk.2) (.int .u64 t202)) (fun _ hk => hk.2) (.int .i64 t203)) (fun _ hk => hk.2) (.int .i64 t204)) (fun _ hk => trivial), bB⟩
 ·have H1 : (some (([] : List (S54)), 0, 0, 0, 0, false)) = some (r1, r2, r3, r4, r5, r6) := by rw [if_neg (show ¬ (some q197).isNone = true by simp)] at H; exact H
  clear H
  have H := H1
  clear H1
  try simp only [errW_none, errW_some]
  simp only [Option.some.injEq, Prod.mk.injEq] at H
  obtain ⟨rfl, rfl, rfl, rfl, rfl, rfl⟩ := H
  go_enter Tryd.func34, Tryd.ntmps34
  go_wp2_with (first | ((with_reducible refine gate_dst (N := 4) rfl ?_); refine box_event ?hg (N := 4) ?hd (cs := #[.slice none 0 0, .int .u64 0, .int .u64 0, .int .i64 0, .int .i64 0]) (t := 68) ?hr ?_; (case hd => rfl); (case hg => rfl); (case hr => first | (go_simp; done) | (go_simp; rfl)); intro gb187 hg w14 hbox hb; have n0_ := Aside0.mk (below_step bB hb); have n1_ := Aside0.mk (hbox); have n2_ := Aside0.mk ((by rw [hg]; exact (below_size bB) : w.heap.size ≤ gb187)); have n3_ := Aside0.mk ((by rw [hg]; exact (below_size bB) : w.heap.size ≤ gb187)); clear HB; have HB := n0_; have BK187 := n1_; have GW187 := n2_; have GE187 := n3_; clear n0_ n1_ n2_ n3_; clear hb hbox hg) | ((with_reducible refine gate_callee (f := 69) rfl ?_); refine goesL_ (some 11) rfl rfl Tryd.func69 (by kernel_rfl) rfl #[.int .u64 a0, .int .u64 a1] rfl aV ?_; (with_reducible refine (proof_Consistency.calls k a0 a1 t188 t191 t192 t193 t194 (some q197) _ ?side1 A3.out).mono ?_); (case side1 => exact TabOK.below HT.out bB); rintro e w15 ⟨Tt195, Xt195, v189, rfl, ho0, hb⟩; refine ⟨_, rfl, ?_⟩; have n0_ := Aside0.mk (Kd.V_lower (Kd.V_mono (ok' := fun k_ => k_ ≠ gb187) ho0 (fun k_ hk_ => (Kd.freshB (g := gb187) (o := .cells #[.slice none 0 0, .int .u64 0, .int .u64 0, .int .i64 0, .int .i64 0] 68 (0, 0)) (kB BK187.out) k_ hk_))) (below_size bB)); have n1_ := Aside0.mk (blk_below (g := gb187) (o := .cells #[.slice none 0 0, .int .u64 0, .int .u64 0, .int .i64 0, .int .i64 0] 68 (0, 0)) (kB BK187.out) hb); have n2_ := Aside0.mk (below_step bB hb); clear BK187; clear HB; have HO190 := n0_; have BK187 := n1_; have HB := n2_; clear n0_ n1_ n2_; (try clear hb); (try clear hb2); (try clear hk); (try clear hi); (try clear ho0); (try simp only [errW_none, errW_some])) | ((with_reducible refine gate_dst (N := 6) rfl ?_); refine box_event ?hg (N := 6) ?hd (cs := #[.slice none 0 0, .int .i64 0, .int .i64 0, .int .u64 0, .int .u64 0]) (t := 122) ?hr ?_; (case hd => rfl); (case hg => rfl); (case hr => first | (go_simp; done) | (go_simp; rfl)); intro gb196 hg w16 hbox hb; have n0_ := Aside0.mk (Kd.V_below (Kd.V_elderB (kV HO190.out) gb196 (Nat.le_of_eq hg.symm)) hb); have n1_ := Aside0.mk (blk_below (g := gb187) (o := .cells #[.slice none 0 0, .int .u64 0, .int .u64 0, .int .i64 0, .int .i64 0] 68 (0, 0)) (kB BK187.out) hb); have n2_ := Aside0.mk (below_step bB hb); have n3_ := Aside0.mk (hbox); have n4_ := Aside0.mk ((by rw [hg]; exact (below_size bB) : w.heap.size ≤ gb196)); have n5_ := Aside0.mk ((by rw [hg]; exact (below_size bB) : w.heap.size ≤ gb196)); have n6_ := Aside0.mk ((by rw [hg]; exact Nat.ne_of_lt (blk_lt (g := gb187) (o := .cells #[.slice none 0 0, .int .u64 0, .int .u64 0, .int .i64 0, .int .i64 0] 68 (0, 0)) (kB BK187.out)) : gb187 ≠ gb196)); have n7_ := Aside0.mk ((by rw [hg]; exact Nat.ne_of_gt (blk_lt (g := gb187) (o := .cells #[.slice none 0 0, .int .u64 0, .int .u64 0, .int .i64 0, .int .i64 0] 68 (0, 0)) (kB BK187.out)) : gb196 ≠ gb187)); clear HO190; clear BK187; clear HB; have HO190 := n0_; have BK187 := n1_; have HB := n2_; have BK196 := n3_; have GW196 := n4_; have GE196 := n5_; have NB187_196 := n6_; have NB196_187 := n7_; clear n0_ n1_ n2_ n3_ n4_ n5_ n6_ n7_; clear hb hbox hg; obtain ⟨Ao17, co17, eo17⟩ := Kd.V_slice HO190.out; subst eo17; have hnb18 := NB196_187.out; have hnc18 := NB187_196.out; have hcz19_0 : w16.cell? ⟨gb196, 0, none⟩ = some (.slice none 0 0) := (blk_cell BK196.out 0).trans rfl; have hcz19_1 : w16.cell? ⟨gb196, 1, none⟩ = some (.int .i64 0) := (blk_cell BK196.out 1).trans rfl; have hcz19_2 : w16.cell? ⟨gb196, 2, none⟩ = some (.int .i64 0) := (blk_cell BK196.out 2).trans rfl; have hcz19_3 : w16.cell? ⟨gb196, 3, none⟩ = some (.int .u64 0) := (blk_cell BK196.out 3).trans rfl; have hcz19_4 : w16.cell? ⟨gb196, 4, none⟩ = some (.int .u64 0) := (blk_cell BK196.out 4).trans rfl; have hfz19_0 := blk_frozen BK196.out 0; have hfz19_1 := blk_frozen BK196.out 1; have hfz19_2 := blk_frozen BK196.out 2; have hfz19_3 := blk_frozen BK196.out 3; have hfz19_4 := blk_frozen BK196.out 4; have hcz20_0 : w16.cell? ⟨gb187, 0, none⟩ = some (.slice none 0 0) := (blk_cell BK187.out 0).trans rfl; have hcz20_1 : w16.cell? ⟨gb187, 1, none⟩ = some (.int .u64 0) := (blk_cell BK187.out 1).trans rfl; have hcz20_2 : w16.cell? ⟨gb187, 2, none⟩ = some (.int .u64 0) := (blk_cell BK187.out 2).trans rfl; have hcz20_3 : w16.cell? ⟨gb187, 3, none⟩ = some (.int .i64 0) := (blk_cell BK187.out 3).trans rfl; have hcz20_4 : w16.cell? ⟨gb187, 4, none⟩ = some (.int .i64 0) := (blk_cell BK187.out 4).trans rfl; have hfz20_0 := blk_frozen BK187.out 0; have hfz20_1 := blk_frozen BK187.out 1; have hfz20_2 := blk_frozen BK187.out 2; have hfz20_3 := blk_frozen BK187.out 3; have hfz20_4 := blk_frozen BK187.out 4))
  refine bodyPost_ret (results_ct rfl _ _ gb187 68 #[.slice none 0 0, .int .u64 0, .int .u64 0, .int .i64 0, .int .i64 0] (0, 0) _ rfl (by (with_reducible repeat (first | refine blk_drewN ?_ _ | refine blk_drew ?_ | refine blk_alloc ?_ _)); refine blk_put (cs := #[.slice none 0 0, .int .u64 0, .int .u64 0, .int .i64 0, .int .i64 0]) ?_ 4 _ rfl; (with_reducible repeat (first | refine blk_drewN ?_ _ | refine blk_drew ?_ | refine blk_alloc ?_ _)); refine blk_put (cs := #[.slice none 0 0, .int .u64 0, .int .u64 0, .int .i64 0, .int .i64 0]) ?_ 3 _ rfl; (with_reducible repeat (first | refine blk_drewN ?_ _ | refine blk_drew ?_ | refine blk_alloc ?_ _)); refine blk_put (cs := #[.slice none 0 0, .int .u64 0, .int .u64 0, .int .i64 0, .int .i64 0]) ?_ 2 _ rfl; (with_reducible repeat (first | refine blk_drewN ?_ _ | refine blk_drew ?_ | refine blk_alloc ?_ _)); refine blk_put (cs := #[.slice none 0 0, .int .u64 0, .int .u64 0, .int .i64 0, .int .i64 0]) ?_ 1 _ rfl; (with_reducible repeat (first | refine blk_drewN ?_ _ | refine blk_drew ?_ | refine blk_alloc ?_ _)); refine blk_put (cs := #[.slice none 0 0, .int .u64 0, .int .u64 0, .int .i64 0, .int .i64 0]) ?_ 0 _ rfl; (with_reducible repeat (first | refine blk_drewN ?_ _ | refine blk_drew ?_ | refine blk_alloc ?_ _)); refine blk_far ?_ NB187_196.out _; (with_reducible repeat (first | refine blk_drewN ?_ _ | refine blk_drew ?_ | refine blk_alloc ?_ _)); refine blk_far ?_ NB187_196.out _; (with_reducible repeat (first | refine blk_drewN ?_ _ | refine blk_drew ?_ | refine blk_alloc ?_ _)); refine blk_far ?_ NB187_196.out _; (with_reducible repeat (first | refine blk_drewN ?_ _ | refine blk_drew ?_ | refine blk_alloc ?_ _)); refine blk_far ?_ NB187_196.out _; (with_reducible repeat (first | refine blk_drewN ?_ _ | refine blk_drew ?_ | refine blk_alloc ?_ _)); refine blk_far ?_ NB187_196.out _; (with_reducible repeat (first | refine blk_drewN ?_ _ | refine blk_drew ?_ | refine blk_alloc ?_ _)); exact BK187.out) Tryd.underlying68 rfl (by kernel_rfl)) rfl ?_
  exact ⟨(.slice none 0 0), by first | rfl | (simp [errW_none, errW_some] <;> rfl) | (simp [*, errW_none, errW_some] <;> rfl), by first | exact Kd.V_nil _ _ _ _ _ | exact Kd.R_nil _ _ _ _ _ | exact Kd.S_nil _ _ _ _ _ | exact Kd.N_nil _ _ _ _ _ | exact Kd.Q_nil _ _ _ _ _, bB⟩


/-! ### spec_NodeHash: function 35 -/
def spec_NodeHash.f (k : Nat) (a0_0 : Int) (a0_1 : Int) (a0_2 : Int) (a0_3 : Int) (a0_4 : Int) (a0_5 : Int) (l1 : List (List Int)) (a2_0 : Int) (a2_1 : Int) : Option (List Int) := (spec_Leaves.f a2_0 a2_1).bind fun bt291 => ((spec_RootOf.f k a0_0 a0_1 a0_2 a0_3 a0_4 a0_5 l1 bt291.1 bt291.2).bind fun t293 => (some t293))
theorem spec_NodeHash.mono : ∀ a0 a1 a2 a3 a4 a5 a6 a7 a8 k, LeO (spec_NodeHash.f k a0 a1 a2 a3 a4 a5 a6 a7 a8) (spec_NodeHash.f (k + 1) a0 a1 a2 a3 a4 a5 a6 a7 a8) := by
 intro a0 a1 a2 a3 a4 a5 a6 a7 a8 k
 unfold spec_NodeHash.f
 repeat' first
   | (with_reducible exact spec_RootOf.mono _ _ _ _ _ _ _ _ _ _)
   | (with_reducible exact LeO.refl _)
   | (with_reducible exact LeO.none _)
   | (with_reducible refine LeO.ite ?_ ?_)
   | (with_reducible refine LeO.bind ?_ (fun _ => ?_))
   | exact spec_RootOf.mono _ _ _ _ _ _ _ _ _ _
   | exact LeO.none _
   | refine LeO.ite ?_ ?_
   | refine LeO.bind ?_ (fun _ => ?_)
set_option maxHeartbeats 8000000 in
set_option maxRecDepth 100000 in
theorem spec_NodeHash.calls (k : Nat) (a0_0 : Int) (a0_1 : Int) (a0_2 : Int) (a0_3 : Int) (a0_4 : Int) (a0_5 : Int) (P1_ : Nat → Prop) (A1 : Option Addr) (c1 : Nat) (l1 : List (List Int)) (a2_0 : Int) (a2_1 : Int) (r : List Int) (w : World) (hs1 : Kd.V (Kd.slice 5 (Kd.int .u8)) 27 w w.heap.size (fun k_ => P1_ k_) (.slice A1 l1.length c1) l1) (h : spec_NodeHash.f k a0_0 a0_1 a0_2 a0_3 a0_4 a0_5 l1 a2_0 a2_1 = some r) :
  Calls Tryd.prog 35 #[.agg #[.int .i64 a0_0, .int .i64 a0_1, .int .i64 a0_2, .int .u64 a0_3, .int .u64 a0_4, .int .u64 a0_5], .slice A1 l1.length c1, .agg #[.int .u64 a2_0, .int .u64 a2_1]] w fun e w' => ∃ v0_ : Value, e = .returned (v0_) ∧ Kd.V (Kd.int .u8) 5 w' w.heap.size (fun k_ => (P1_ k_ ∨ w.heap.size ≤ k_)) v0_ r ∧ Below w.heap.size w w' := by
 have hu24 := Tryd.underlying24
 have hu54 := Tryd.underlying54
 have HO1 := Aside0.mk (show Kd.V (Kd.slice 5 (Kd.int .u8)) 27 w w.heap.size (fun k_ => (P1_ k_ ∨ w.heap.size ≤ k_)) (.slice A1 l1.length c1) l1 from Kd.V_mono hs1 (fun k_ hk => .inl hk))
 have HB := Aside0.mk (Below.refl w.heap.size w)
 have H : ((spec_Leaves.f a2_0 a2_1).bind fun bt291 => ((spec_RootOf.f k a0_0 a0_1 a0_2 a0_3 a0_4 a0_5 l1 bt291.1 bt291.2).bind fun t293 => (some t293))) = some r := h
 clear h
 replace H := Option.bind_eq_some_iff.mp H
 obtain ⟨⟨t291, t292⟩, A40, H⟩ := H
 replace H : ((spec_RootOf.f k a0_0 a0_1 a0_2 a0_3 a0_4 a0_5 l1 t291 t292).bind fun t293 => (some t293)) = some r := H
 have A4 := Aside0.mk A40
 clear A40
 replace H := Option.bind_eq_some_iff.mp H
 obtain ⟨t293, A50, H⟩ := H
 replace H : (some t293) = some r := H
 have A5 := Aside0.mk A50
 clear A50
 obtain rfl := Option.some.inj H
 go_enter Tryd.func35, Tryd.ntmps35
 try go_wp2_with (first | ((with_reducible refine gate_dst (N := 3) rfl ?_); refine box_event ?hg (N := 3) ?hd (cs := #[.int .i64 a0_0, .int .i64 a0_1, .int .i64 a0_2, .int .u64 a0_3, .int .u64 a0_4, .int .u64 a0_5]) (t := 24) ?hr ?_; (case hd => rfl); (case hg => rfl); (case hr => first | (go_simp; done) | (go_simp; rfl)); intro gb289 hg w6 hbox hb; have n0_ := Aside0.mk (Kd.V_below (Kd.V_elderB (kV HO1.out) gb289 (Nat.le_of_eq hg.symm)) hb); have n1_ := Aside0.mk (below_step bB hb); have n2_ := Aside0.mk (hbox); have n3_ := Aside0.mk ((by rw [hg]; exact (below_size bB) : w.heap.size ≤ gb289)); have n4_ := Aside0.mk ((by rw [hg]; exact (below_size bB) : w.heap.size ≤ gb289)); clear HO1; clear HB; have HO1 := n0_; have HB := n1_; have BK289 := n2_; have GW289 := n3_; have GE289 := n4_; clear n0_ n1_ n2_ n3_ n4_; clear hb hbox hg) | ((with_reducible refine gate_dst (N := 5) rfl ?_); refine box_event ?hg (N := 5) ?hd (cs := #[.int .u64 a2_0, .int .u64 a2_1]) (t := 54) ?hr ?_; (case hd => rfl); (case hg => rfl); (case hr => first | (go_simp; done) | (go_simp; rfl)); intro gb290 hg w7 hbox hb; have n0_ := Aside0.mk (Kd.V_below (Kd.V_elderB (kV HO1.out) gb290 (Nat.le_of_eq hg.symm)) hb); have n1_ := Aside0.mk (blk_below (g := gb289) (o := .cells #[.int .i64 a0_0, .int .i64 a0_1, .int .i64 a0_2, .int .u64 a0_3, .int .u64 a0_4, .int .u64 a0_5] 24 (0, 0)) (kB BK289.out) hb); have n2_ := Aside0.mk (below_step bB hb); have n3_ := Aside0.mk (hbox); have n4_ := Aside0.mk ((by rw [hg]; exact (below_size bB) : w.heap.size ≤ gb290)); have n5_ := Aside0.mk ((by rw [hg]; exact (below_size bB) : w.heap.size ≤ gb290)); have n6_ := Aside0.mk ((by rw [hg]; exact Nat.ne_of_lt (blk_lt (g := gb289) (o := .cells #[.int .i64 a0_0, .int .i64 a0_1, .int .i64 a0_2, .int .u64 a0_3, .int .u64 a0_4, .int .u64 a0_5] 24 (0, 0)) (kB BK289.out)) : gb289 ≠ gb290)); have n7_ := Aside0.mk ((by rw [hg]; exact Nat.ne_of_gt (blk_lt (g := gb289) (o := .cells #[.int .i64 a0_0, .int .i64 a0_1, .int .i64 a0_2, .int .u64 a0_3, .int .u64 a0_4, .int .u64 a0_5] 24 (0, 0)) (kB BK289.out)) : gb290 ≠ gb289)); clear HO1; clear BK289; clear HB; have HO1 := n0_; have BK289 := n1_; have HB := n2_; have BK290 := n3_; have GW290 := n4_; have GE290 := n5_; have NB289_290 := n6_; have NB290_289 := n7_; clear n0_ n1_ n2_ n3_ n4_ n5_ n6_ n7_; clear hb hbox hg))
 have n0_ := Aside0.mk (Kd.V_drew HO1.out)
 have n1_ := Aside0.mk (blk_drew BK289.out)
 have n2_ := Aside0.mk (blk_drew BK290.out)
 have n3_ := Aside0.mk (below_drew1 HB.out)
 clear HO1
 clear BK289
 clear BK290
 clear HB
 have HO1 := n0_
 have BK289 := n1_
 have BK290 := n2_
 have HB := n3_
 clear n0_ n1_ n2_ n3_
 refine start_ (n := 6) (S := fun w' => w'.cell? ⟨gb289, 0, none⟩ = some (.int .i64 a0_0) ∧ w'.cell? ⟨gb289, 1, none⟩ = some (.int .i64 a0_1) ∧ w'.cell? ⟨gb289, 2, none⟩ = some (.int .i64 a0_2) ∧ w'.cell? ⟨gb289, 3, none⟩ = some (.int .u64 a0_3) ∧ w'.cell? ⟨gb289, 4, none⟩ = some (.int .u64 a0_4) ∧ w'.cell? ⟨gb289, 5, none⟩ = some (.int .u64 a0_5) ∧ w'.cell? ⟨gb290, 0, none⟩ = some (.int .u64 a2_0) ∧ w'.cell? ⟨gb290, 1, none⟩ = some (.int .u64 a2_1)) (ds := []) #[false, false, false, false, false, false] (by kernel_rfl) rfl rfl ⟨(blk_cell BK289.out 0).trans rfl, (blk_cell BK289.out 1).trans rfl, (blk_cell BK289.out 2).trans rfl, (blk_cell BK289.out 3).trans rfl, (blk_cell BK289.out 4).trans rfl, (blk_cell BK289.out 5).trans rfl, (blk_cell BK290.out 0).trans rfl, (blk_cell BK290.out 1).trans rfl⟩ (fun hHeld => ?_)
 generalize w7.drew = w8 at HO1 BK289 BK290 HB hHeld ⊢
 refine pure_ (i := 1) (N := some 8) (v := ?_) (a' := ?_) #[false, true, false, false, false, false] rfl rfl (by kernel_rfl) (fun _ _ _ h => h) (Or.inl ⟨by rfl, ?_⟩) ?_ ?_
 rotate_left
 ·intro w'
  go_simp
  with_reducible rfl
 rotate_left
 ·simp only [Act.put, List.setIfInBounds_toArray, List.set_cons_zero, List.set_cons_succ, i64_w, i32_w]
  rfl
 refine take_ (i := 0) (N := some 7) (v := ?_) (a' := ?_) #[true, true, false, false, false, false] rfl rfl (by kernel_rfl) (fun _ _ _ h => h) (Or.inl ⟨by rfl, ?_⟩) hHeld ?_ ?_
 rotate_left
 ·rintro w' ⟨s0, s1, s2, s3, s4, s5, s6, s7⟩
  go_simp
  with_reducible rfl
 rotate_left
 ·simp only [Act.put, List.setIfInBounds_toArray, List.set_cons_zero, List.set_cons_succ, i64_w, i32_w]
  rfl
 refine take_ (i := 2) (N := some 9) (v := ?_) (a' := ?_) #[true, true, true, false, false, false] rfl rfl (by kernel_rfl) (fun _ _ _ h => h) (Or.inl ⟨by rfl, ?_⟩) hHeld ?_ ?_
 rotate_left
 ·rintro w' ⟨s0, s1, s2, s3, s4, s5, s6, s7⟩
  go_simp
  with_reducible rfl
 rotate_left
 ·simp only [Act.put, List.setIfInBounds_toArray, List.set_cons_zero, List.set_cons_succ, i64_w, i32_w]
  rfl
 refine one_ (i := 3) (N := some 10) #[true, true, true, true, false, false] rfl rfl (by kernel_rfl) (by decide) (fun K hK => ?_)
 refine goes_ Tryd.func30 (by kernel_rfl) rfl #[.agg #[.int .u64 a2_0, .int .u64 a2_1]] (by rfl) rfl rfl aV ?_
 with_reducible refine (spec_Leaves.calls a2_0 a2_1 t291 t292 _ A4.out).mono ?_
 rintro e w9 ⟨rfl, hb⟩
 refine ⟨_, rfl, ?_⟩
 have n0_ := Aside0.mk (Kd.V_below (kV HO1.out) hb)
 have n1_ := Aside0.mk (blk_below (g := gb289) (o := .cells #[.int .i64 a0_0, .int .i64 a0_1, .int .i64 a0_2, .int .u64 a0_3, .int .u64 a0_4, .int .u64 a0_5] 24 (0, 0)) (kB BK289.out) hb)
 have n2_ := Aside0.mk (blk_below (g := gb290) (o := .cells #[.int .u64 a2_0, .int .u64 a2_1] 54 (0, 0)) (kB BK290.out) hb)
 have n3_ := Aside0.mk (below_step bB hb)
 clear HO1
 clear BK289
 clear BK290
 clear HB
 have HO1 := n0_
 have BK289 := n1_
 have BK290 := n2_
 have HB := n3_
 clear n0_ n1_ n2_ n3_
 (try clear hb)
 (try clear hb2)
 (try clear hk)
 (try clear hi)
 refine hK.out _ _ ⟨(blk_cell BK289.out 0).trans rfl, (blk_cell BK289.out 1).trans rfl, (blk_cell BK289.out 2).trans rfl, (blk_cell BK289.out 3).trans rfl, (blk_cell BK289.out 4).trans rfl, (blk_cell BK289.out 5).trans rfl, (blk_cell BK290.out 0).trans rfl, (blk_cell BK290.out 1).trans rfl⟩ (fun hHeld => ?_)
 clear hK K
 refine norm_ (a' := ?_) ?_ ?_
 rotate_left
 ·show Act.put _ (some 10) _ = _
  simp only [Act.put, List.setIfInBounds_toArray, List.set_cons_zero, List.set_cons_succ, i64_w, i32_w]
  rfl
 refine one_ (i := 4) (N := some 11) #[true, true, true, true, true, false] rfl rfl (by kernel_rfl) (by decide) (fun K hK => ?_)
 refine goes_ Tryd.func31 (by kernel_rfl) rfl #[.agg #[.int .i64 a0_0, .int .i64 a0_1, .int .i64 a0_2, .int .u64 a0_3, .int .u64 a0_4, .int .u64 a0_5], .slice A1 l1.length c1, .agg #[.int .u64 t291, .int .u64 t292]] (by rfl) rfl rfl aV ?_
 with_reducible refine (spec_RootOf.calls k a0_0 a0_1 a0_2 a0_3 a0_4 a0_5 (fun k_ => (((P1_ k_ ∨ w.heap.size ≤ k_) ∧ k_ ≠ gb289) ∧ k_ ≠ gb290)) _ _ l1 t291 t292 t293 _ ?side1 A5.out).mono ?_
 (case side1 => first | exact HO1.out | exact Kd.V_mono HO1.out (fun k_ h_ => by simp only [and_assoc] at h_ ⊢; exact h_))
 rintro e w10 ⟨v294, rfl, ho0, hb⟩
 refine ⟨_, rfl, ?_⟩
 have n0_ := Aside0.mk (Kd.V_below (kV HO1.out) hb)
 have n1_ := Aside0.mk (Kd.V_lower (Kd.V_mono (ok' := fun k_ => (P1_ k_ ∨ w.heap.size ≤ k_) ∧ k_ ≠ gb289 ∧ k_ ≠ gb290) ho0 (fun k_ hk_ => ⟨Or.elim hk_ (fun hs_ => hs_.1.1) (fun hn_ => (.inr (Nat.le_trans (below_size bB) hn_))), Or.elim hk_ (fun hs_ => hs_.1.2) (fun hn_ => (Kd.freshB (g := gb289) (o := .cells #[.int .i64 a0_0, .int .i64 a0_1, .int .i64 a0_2, .int .u64 a0_3, .int .u64 a0_4, .int .u64 a0_5] 24 (0, 0)) (kB BK289.out) k_ hn_)), Or.elim hk_ (fun hs_ => hs_.2) (fun hn_ => (Kd.freshB (g := gb290) (o := .cells #[.int .u64 a2_0, .int .u64 a2_1] 54 (0, 0)) (kB BK290.out) k_ hn_))⟩)) (below_size bB))
 have n2_ := Aside0.mk (blk_below (g := gb289) (o := .cells #[.int .i64 a0_0, .int .i64 a0_1, .int .i64 a0_2, .int .u64 a0_3, .int .u64 a0_4, .int .u64 a0_5] 24 (0, 0)) (kB BK289.out) hb)
 have n3_ := Aside0.mk (blk_below (g := gb290) (o := .cells #[.int .u64 a2_0, .int .u64 a2_1] 54 (0, 0)) (kB BK290.out) hb)
 have n4_ := Aside0.mk (below_step bB hb)
 clear HO1
 clear BK289
 clear BK290
 clear HB
 have HO1 := n0_
 have HO295 := n1_
 have BK289 := n2_
 have BK290 := n3_
 have HB := n4_
 clear n0_ n1_ n2_ n3_ n4_
 (try clear hb)
 (try clear hb2)
 (try clear hk)
 (try clear hi)
 (try clear ho0)
 refine hK.out _ _ ⟨(blk_cell BK289.out 0).trans rfl, (blk_cell BK289.out 1).trans rfl, (blk_cell BK289.out 2).trans rfl, (blk_cell BK289.out 3).trans rfl, (blk_cell BK289.out 4).trans rfl, (blk_cell BK289.out 5).trans rfl, (blk_cell BK290.out 0).trans rfl, (blk_cell BK290.out 1).trans rfl⟩ (fun hHeld => ?_)
 clear hK K
 refine norm_ (a' := ?_) ?_ ?_
 rotate_left
 ·show Act.put _ (some 11) _ = _
  simp only [Act.put, List.setIfInBounds_toArray, List.set_cons_zero, List.set_cons_succ, i64_w, i32_w]
  rfl
 refine pure_ (i := 5) (N := some 6) (v := ?_) (a' := ?_) #[true, true, true, true, true, true] rfl rfl (by kernel_rfl) (fun _ _ _ h => h) (Or.inl ⟨by rfl, ?_⟩) ?_ ?_
 rotate_left
 ·intro w'
  go_simp
  with_reducible rfl
 rotate_left
 ·simp only [Act.put, List.setIfInBounds_toArray, List.set_cons_zero, List.set_cons_succ, i64_w, i32_w]
  rfl
 refine done_ (by kernel_rfl) ?_
 try go_wp2
 go_ret
 exact ⟨_, by first | rfl | (simp [errW_none, errW_some] <;> rfl) | (simp [*, errW_none, errW_some] <;> rfl), by (with_reducible repeat (first | apply Kd.V_alloc | apply Kd.V_drewN | apply Kd.V_drew)); exact Kd.V_mono HO295.out (fun _ hk => hk.1), bB⟩


/-! ### impl_texts: function 46 -/
def impl_texts.l0 : Nat → List (List Int) → List (List Int) → Int → Int → Option ((List (List Int)))
 | 0, _, _, _, _ => none
 | k + 1, x3, x6, x7, x8 => if x8 < x7 then (if 0 ≤ x8 then (if x8 < (x6.length : Int) then ((some (([] : List Int) : List Int)).bind fun y297 => (if y297.length + (rd_L1 x6 x8).length < 140737488355328 then (if x3.length < 5864062014805 then (impl_texts.l0 k (x3 ++ [(y297 ++ (rd_L1 x6 x8))]) x6 x7 (wrap64 (x8 + 1))) else (none)) else (none))) else (none)) else (none)) else (some x3)
def impl_texts.f (k : Nat) (l0 : List (List Int)) : Option ((List (List Int))) := impl_texts.l0 k ([] : List (List Int)) l0 (l0.length : Int) 0
theorem impl_texts.mono_l : ∀ k, (∀ y0 y1 y2 y3, LeO (impl_texts.l0 k y0 y1 y2 y3) (impl_texts.l0 (k + 1) y0 y1 y2 y3))
 | 0 => fun _ _ _ _ r h => by simp [impl_texts.l0] at h
 | k + 1 => by
  have ih0 := impl_texts.mono_l k
  ·intro y0 y1 y2 y3
   unfold impl_texts.l0
   repeat' first
   | (with_reducible exact ih0 _ _ _ _)
   | (with_reducible exact LeO.refl _)
   | (with_reducible exact LeO.none _)
   | (with_reducible refine LeO.ite ?_ ?_)
   | (with_reducible refine LeO.bind ?_ (fun _ => ?_))
   | exact ih0 _ _ _ _
   | exact LeO.none _
   | refine LeO.ite ?_ ?_
   | refine LeO.bind ?_ (fun _ => ?_)
theorem impl_texts.mono : ∀ a0 k, LeO (impl_texts.f k a0) (impl_texts.f (k + 1) a0) := by
 intro a0 k
 have ih0 := impl_texts.mono_l k
 unfold impl_texts.f
 repeat' first
   | (with_reducible exact ih0 _ _ _ _)
   | (with_reducible exact LeO.refl _)
   | (with_reducible exact LeO.none _)
   | (with_reducible refine LeO.ite ?_ ?_)
   | (with_reducible refine LeO.bind ?_ (fun _ => ?_))
   | exact ih0 _ _ _ _
   | exact LeO.none _
   | refine LeO.ite ?_ ?_
   | refine LeO.bind ?_ (fun _ => ?_)
set_option maxHeartbeats 8000000 in
set_option maxRecDepth 100000 in
theorem impl_texts.calls (k : Nat) (A0 : Option Addr) (c0 : Nat) (l0 : List (List Int)) (r : List (List Int)) (w : World) (hr0 : Kd.C (Kd.slice 5 (Kd.int .u8)) w A0 l0.length l0) (hc0 : l0.length ≤ c0) (h : impl_texts.f k l0 = some r) :
  Calls Tryd.prog 46 #[.slice A0 l0.length c0] w fun e w' => ∃ v0_ : Value, e = .returned (v0_) ∧ Kd.S (Kd.slice 5 (Kd.int .u8)) 27 w' w.heap.size (fun _ => True) v0_ r ∧ Below w.heap.size w w' := by
 have HR0 := Aside0.mk hr0
 have HC0 := Aside0.mk hc0
 clear hr0 hc0
 have HB := Aside0.mk (Below.refl w.heap.size w)
 have H : (impl_texts.l0 k ([] : List (List Int)) l0 (l0.length : Int) 0) = some r := h
 clear h
 have H' := Aside0.mk H
 clear H
 go_enter Tryd.func46, Tryd.ntmps46
 go_wp2
 go_loopg [3, 8] k (fun kq v3 v8 w' => ∃ (x3_1 : List (List Int)) (x8_1 : Int), v8 = .int .i64 x8_1 ∧ Aside0 (impl_texts.l0 kq x3_1 l0 (l0.length : Int) x8_1 = some r) ∧ Aside0 (kq ≤ k) ∧ Aside0 (Kd.S (Kd.slice 5 (Kd.int .u8)) 27 w' w.heap.size (fun _ => True) v3 x3_1) ∧ Aside0 (Below w.heap.size w w'))
 case atStart => exact ⟨(([] : List (List Int))), (0), (by first | rfl | (simp; done) | (simp [*]; done)), H', ⟨Nat.le_refl _⟩, ⟨by first | exact Kd.S_nil _ _ _ _ _ | exact Kd.N_nil _ _ _ _ _ | exact Kd.V_nil _ _ _ _ _ | exact Kd.Q_nil _ _ _ _ _ | exact Kd.R_nil _ _ _ _ _⟩, ⟨bB⟩⟩
 case round =>
  clear H'
  obtain ⟨x3_1, x8_1, rfl, HA, HK1, HO_3, HB⟩ := hrel
  cases gk with
  | zero => exact absurd HA.out (by simp [impl_texts.l0])
  | succ k1 =>
   have H := HA.out
   clear HA
   simp only [impl_texts.l0] at H
   by_cases c2 : x8_1 < (l0.length : Int)
   ·rw [if_pos c2] at H
    have c2b0 : decide (x8_1 < (l0.length : Int)) = true := decide_eq_true c2
    clear c2
    by_cases c3 : 0 ≤ x8_1
    ·rw [if_pos c3] at H
     have c3b0 : decide (0 ≤ x8_1) = true := decide_eq_true c3
     clear c3
     by_cases c4 : x8_1 < (l0.length : Int)
     ·rw [if_pos c4] at H
      have c4b0 : decide (x8_1 < (l0.length : Int)) = true := decide_eq_true c4
      clear c4
      obtain ⟨y297, hy297⟩ : ∃ y_ : List Int, y_ = (([] : List Int)) := ⟨_, rfl⟩
      replace H : (if y297.length + (rd_L1 l0 x8_1).length < 140737488355328 then (if x3_1.length < 5864062014805 then (impl_texts.l0 k1 (x3_1 ++ [(y297 ++ (rd_L1 l0 x8_1))]) l0 (l0.length : Int) (wrap64 (x8_1 + 1))) else (none)) else (none)) = some r := by first | (rw [hy297]; with_reducible exact H) | (have H2_ := (Option.bind_some _ _).symm.trans H; rw [hy297]; with_reducible exact H2_) | (have H2_ := (Option.bind_some _ _).symm.trans H; with_reducible exact H2_) | with_reducible exact H | (rw [hy297]; exact H) | exact H
      have Ny297 := Aside0.mk hy297
      clear hy297
      by_cases c5 : y297.length + (rd_L1 l0 x8_1).length < 140737488355328
      ·rw [if_pos c5] at H
       have LMc5 := Aside0.mk c5
       clear c5
       obtain ⟨y300, hy300⟩ : ∃ y_ : List Int, y_ = (y297 ++ (rd_L1 l0 x8_1)) := ⟨_, rfl⟩
       replace H : (if x3_1.length < 5864062014805 then (impl_texts.l0 k1 (x3_1 ++ [y300]) l0 (l0.length : Int) (wrap64 (x8_1 + 1))) else (none)) = some r := by first | (rw [hy300]; with_reducible exact H) | (have H2_ := (Option.bind_some _ _).symm.trans H; rw [hy300]; with_reducible exact H2_) | (have H2_ := (Option.bind_some _ _).symm.trans H; with_reducible exact H2_) | with_reducible exact H | (rw [hy300]; exact H) | exact H
       have Ny300 := Aside0.mk hy300
       clear hy300
       by_cases c6 : x3_1.length < 5864062014805
       ·rw [if_pos c6] at H
        have LMc6 := Aside0.mk c6
        clear c6
        obtain ⟨y303, hy303⟩ : ∃ y_ : List (List Int), y_ = (x3_1 ++ [y300]) := ⟨_, rfl⟩
        replace H : (impl_texts.l0 k1 y303 l0 (l0.length : Int) (wrap64 (x8_1 + 1))) = some r := by first | (rw [hy303]; with_reducible exact H) | (have H2_ := (Option.bind_some _ _).symm.trans H; rw [hy303]; with_reducible exact H2_) | (have H2_ := (Option.bind_some _ _).symm.trans H; with_reducible exact H2_) | with_reducible exact H | (rw [hy303]; exact H) | exact H
        have Ny303 := Aside0.mk hy303
        clear hy303
        have H' := Aside0.mk H
        clear H
        have p296 : 0 ≤ (x8_1 : Int) := dA
        have q296 : x8_1 < (l0.length : Int) := dA
        obtain ⟨ad296, A296_0, c296_0, e296, hx296_0, hl296_0, hi296_0⟩ := at_L1 HR0.out x8_1 p296 q296
        cases e296
        replace hx296_0 := (HB.out.cell (World.block_lt_of_cell? w _ hx296_0)).trans hx296_0
        have HR296_0 := Aside0.mk hi296_0
        have HC296_0 := Aside0.mk hl296_0
        clear hi296_0 hl296_0
        replace p296 := eq_true p296
        replace q296 := eq_true q296
        go_wp2_with (first | ((with_reducible refine gate_dst (N := 13) rfl ?_); refine Kd.R_lit (Kd.int .u8) _ 5 ?hg (N := 13) ?hd (xs := ([] : List Int)) (inner := []) (ok := fun _ => True) (okp := fun _ => True) ?hr ?hp (fun _ hk => hk) trivial (Below.refl _ _) (Nat.le_refl _) (by simp) ?_; (case hd => rfl); (case hg => rfl); (case hr => first | (go_simp; done) | (go_simp; rfl)); (case hp => exact (Reps.none _ _)); intro v298 w7 ho8 hb hg_ hnew_; clear hg_ hnew_; (first | rw [← Ny297.out] at ho8 | (simp only [Int.reduceToNat] at ho8; rw [← Ny297.out] at ho8)); have n0_ := Aside0.mk (Kd.S_elder' (by (with_reducible repeat (first | apply Kd.S_alloc | apply Kd.S_drewN | apply Kd.S_drew)); exact HO_3.out) (Kd.R_base ho8) hb); have n1_ := Aside0.mk (Kd.R_lower ho8 (below_size bB)); have n2_ := Aside0.mk (below_step bB hb); clear HO_3; clear HB; have HO_3 := n0_; have HO299 := n1_; have HB := n2_; clear n0_ n1_ n2_; clear hb ho8) | ((with_reducible refine gate_builtin (b := .append) (xs := #[.tmp 13, .tmp 14]) rfl ?_); at_builtin; refine Kd.R_append_rows (Kd.int .u8) (w0 := w) w.heap.size rfl (.tmp 13) (.tmp 14) 27 5 (.int .u8 0) 1 rfl Tryd.underlying27 info5 rfl (by decide) (by omega) v298 y297 (rd_L1 l0 x8_1) _ _ _ (fun _ => True) (fun _ => False) rfl rfl ?aO ?aR (fun _ _ h => h) (fun _ h => h.elim) ?aF ?aB ?aS ?aL ?_; (case aR => repeat (first | exact (Kd.C_below HR296_0.out HB.out) | (with_reducible refine Kd.C_alloc ?_ _) | (with_reducible refine Kd.C_drewN ?_ _) | (with_reducible refine Kd.C_drew ?_))); (case aB => exact bB); (case aF => exact (fun _ _ => trivial)); (case aO => exact (kR HO299.out)); (case aS => exact (below_size bB)); (case aL => have := LMc5.out; omega); intro v301 w9 ho hb hg hat; rw [← Ny300.out] at ho; have n0_ := Aside0.mk (Kd.S_after (ok := (fun _ => True)) (by (with_reducible repeat (first | apply Kd.S_alloc | apply Kd.S_drewN | apply Kd.S_drew)); exact HO_3.out) hg hat); have n1_ := Aside0.mk (hb); have n2_ := Aside0.mk (ho); clear HO_3; clear HB; clear HO299; have HO_3 := n0_; have HB := n1_; have HO302 := n2_; clear n0_ n1_ n2_; clear ho hb hg hat; obtain ⟨Ao11, co11, eo11⟩ := Kd.R_slice HO302.out; subst eo11) | ((with_reducible refine gate_builtin (b := .append) (xs := #[.tmp 12, .tmp 16]) rfl ?_); at_builtin; refine Kd.S_append (Kd.slice 5 (Kd.int .u8)) (w0 := w) w.heap.size rfl (.tmp 12) (.tmp 16) 25 27 (.slice none 0 0) 24 rfl Tryd.underlying25 info27 rfl (by decide) (by omega) u3 x3_1 y300 [.slice Ao11 y300.length co11] (fun _ => True) (fun k_ => some k_ = (.slice Ao11 y300.length co11 : Value).ownBlock) rfl rfl ?aP (fun k_ hk_ => ((Kd.R_mono (ok' := fun k_ => ((fun _ => True)) k_ ∧ some k_ ≠ (u3 : Value).ownBlock) (Kd.R_apart' (HO302.out) (Kd.S_typed HO_3.out) (by decide)) (fun k_ hk => ⟨trivial, hk.2⟩))).1 k_ hk_.symm) ?aF ?aO ?aB ?aS ?aL ?_; (case aP => exact Kd.M_row (Kd.R_mono (Kd.R_tight rfl (Kd.R_mono (ok' := fun k_ => ((fun _ => True)) k_ ∧ some k_ ≠ (u3 : Value).ownBlock) (Kd.R_apart' (HO302.out) (Kd.S_typed HO_3.out) (by decide)) (fun k_ hk => ⟨trivial, hk.2⟩))) (fun _ h_ => h_))); (case aB => exact bB); (case aF => exact (fun _ _ => trivial)); (case aO => exact (by (with_reducible repeat (first | apply Kd.S_alloc | apply Kd.S_drewN | apply Kd.S_drew)); exact Kd.S_mono HO_3.out (fun k_ hk => ⟨trivial, fun e_ => hk.2 e_⟩))); (case aS => exact (below_size bB)); (case aL => have := LMc6.out; omega); intro v304 w10 ho hb hg hat; rw [← Ny303.out] at ho; have n0_ := Aside0.mk (hb); have n1_ := Aside0.mk (ho); clear HB; clear HO_3; clear HO302; have HB := n0_; have HO305 := n1_; clear n0_ n1_; clear ho hb hg hat))
        go_roundg k1
        case measure => have := HK1.out; omega
        case rel => exact ⟨(y303), (wrap64 (x8_1 + 1)), (by first | rfl | (simp; done) | (simp [*]; done)), H', ⟨by have := HK1.out; omega⟩, ⟨by (with_reducible repeat (first | apply Kd.S_alloc | apply Kd.S_drewN | apply Kd.S_drew)); exact HO305.out⟩, ⟨bB⟩⟩
       ·rw [if_neg c6] at H
        exact absurd H (by simp)
      ·rw [if_neg c5] at H
       exact absurd H (by simp)
     ·rw [if_neg c4] at H
      exact absurd H (by simp)
    ·rw [if_neg c3] at H
     exact absurd H (by simp)
   ·rw [if_neg c2] at H
    have c2b0 : decide (x8_1 < (l0.length : Int)) = false := decide_eq_false c2
    clear c2
    obtain rfl := Option.some.inj H
    go_wp2
    go_ret
    exact ⟨_, by first | rfl | (simp [errW_none, errW_some] <;> rfl) | (simp [*, errW_none, errW_some] <;> rfl), by (with_reducible repeat (first | apply Kd.S_alloc | apply Kd.S_drewN | apply Kd.S_drew)); exact HO_3.out, bB⟩


/-! ### impl_word: function 89 -/
mutual
def impl_word.j0 : Nat → Int → Int → Bool → Option (List Int)
 | 0, _, _, _ => none
 | k + 1, x0, x1, x12 => if x12 = true then (impl_word.j1 k x0 8) else (impl_word.j1 k x0 x1)
def impl_word.j1 : Nat → Int → Int → Option (List Int)
 | 0, _, _ => none
 | k + 1, x0, x1 => if 0 ≤ x1 then (if (x1 : Int).toNat ≤ 281474976710656 then ((some (List.replicate (x1 : Int).toNat 0 : List Int)).bind fun y306 => (impl_word.l0 k x0 x1 y306 (y306.length : Int) 0)) else (none)) else (none)
def impl_word.l0 : Nat → Int → Int → List Int → Int → Int → Option (List Int)
 | 0, _, _, _, _, _ => none
 | k + 1, x0, x1, x5, x16, x17 => if x17 < x16 then (if 0 ≤ (wrap64 (8 * x17)) then (if 0 ≤ (wrap64 ((wrap64 (x1 - 1)) - x17)) then (if (wrap64 ((wrap64 (x1 - 1)) - x17)) < (x5.length : Int) then (impl_word.l0 k x0 x1 (x5.set ((wrap64 ((wrap64 (x1 - 1)) - x17)) : Int).toNat ((shr .u64 x0 (wrap64 (8 * x17))) % 256)) x16 (wrap64 (x17 + 1))) else (none)) else (none)) else (none)) else (some x5)
end
def impl_word.f (k : Nat) (a0 : Int) (a1 : Int) : Option (List Int) := if a1 < 1 then (impl_word.j0 k a0 a1 true) else (impl_word.j0 k a0 a1 (decide (a1 > 8)))
theorem impl_word.mono_l : ∀ k, (∀ y0 y1 y2, LeO (impl_word.j0 k y0 y1 y2) (impl_word.j0 (k + 1) y0 y1 y2)) ∧ (∀ y0 y1, LeO (impl_word.j1 k y0 y1) (impl_word.j1 (k + 1) y0 y1)) ∧ (∀ y0 y1 y2 y3 y4, LeO (impl_word.l0 k y0 y1 y2 y3 y4) (impl_word.l0 (k + 1) y0 y1 y2 y3 y4))
 | 0 => ⟨fun _ _ _ r h => by simp [impl_word.j0] at h, fun _ _ r h => by simp [impl_word.j1] at h, fun _ _ _ _ _ r h => by simp [impl_word.l0] at h⟩
 | k + 1 => by
  obtain ⟨ih0, ih1, ih2⟩ := impl_word.mono_l k
  refine ⟨?_, ?_, ?_⟩
  ·intro y0 y1 y2
   unfold impl_word.j0
   repeat' first
   | (with_reducible exact ih0 _ _ _)
   | (with_reducible exact ih1 _ _)
   | (with_reducible exact ih2 _ _ _ _ _)
   | (with_reducible exact LeO.refl _)
   | (with_reducible exact LeO.none _)
   | (with_reducible refine LeO.ite ?_ ?_)
   | (with_reducible refine LeO.bind ?_ (fun _ => ?_))
   | exact ih0 _ _ _
   | exact ih1 _ _
   | exact ih2 _ _ _ _ _
   | exact LeO.none _
   | refine LeO.ite ?_ ?_
   | refine LeO.bind ?_ (fun _ => ?_)
  ·intro y0 y1
   unfold impl_word.j1
   repeat' first
   | (with_reducible exact ih0 _ _ _)
   | (with_reducible exact ih1 _ _)
   | (with_reducible exact ih2 _ _ _ _ _)
   | (with_reducible exact LeO.refl _)
   | (with_reducible exact LeO.none _)
   | (with_reducible refine LeO.ite ?_ ?_)
   | (with_reducible refine LeO.bind ?_ (fun _ => ?_))
   | exact ih0 _ _ _
   | exact ih1 _ _
   | exact ih2 _ _ _ _ _
   | exact LeO.none _
   | refine LeO.ite ?_ ?_
   | refine LeO.bind ?_ (fun _ => ?_)
  ·intro y0 y1 y2 y3 y4
   unfold impl_word.l0
   repeat' first
   | (with_reducible exact ih0 _ _ _)
   | (with_reducible exact ih1 _ _)
   | (with_reducible exact ih2 _ _ _ _ _)
   | (with_reducible exact LeO.refl _)
   | (with_reducible exact LeO.none _)
   | (with_reducible refine LeO.ite ?_ ?_)
   | (with_reducible refine LeO.bind ?_ (fun _ => ?_))
   | exact ih0 _ _ _
   | exact ih1 _ _
   | exact ih2 _ _ _ _ _
   | exact LeO.none _
   | refine LeO.ite ?_ ?_
   | refine LeO.bind ?_ (fun _ => ?_)
theorem impl_word.mono : ∀ a0 a1 k, LeO (impl_word.f k a0 a1) (impl_word.f (k + 1) a0 a1) := by
 intro a0 a1 k
 obtain ⟨ih0, ih1, ih2⟩ := impl_word.mono_l k
 unfold impl_word.f
 repeat' first
   | (with_reducible exact ih0 _ _ _)
   | (with_reducible exact ih1 _ _)
   | (with_reducible exact ih2 _ _ _ _ _)
   | (with_reducible exact LeO.refl _)
   | (with_reducible exact LeO.none _)
   | (with_reducible refine LeO.ite ?_ ?_)
   | (with_reducible refine LeO.bind ?_ (fun _ => ?_))
   | exact ih0 _ _ _
   | exact ih1 _ _
   | exact ih2 _ _ _ _ _
   | exact LeO.none _
   | refine LeO.ite ?_ ?_
   | refine LeO.bind ?_ (fun _ => ?_)
set_option maxHeartbeats 8000000 in
set_option maxRecDepth 100000 in
theorem impl_word.calls (k : Nat) (a0 : Int) (a1 : Int) (r : List Int) (w : World) (h : impl_word.f k a0 a1 = some r) :
  Calls Tryd.prog 89 #[.int .u64 a0, .int .i64 a1] w fun e w' => ∃ v0_ : Value, e = .returned (v0_) ∧ Kd.R (Kd.int .u8) 5 w' w.heap.size (fun _ => True) v0_ r ∧ Below w.heap.size w w' := by
 have HB := Aside0.mk (Below.refl w.heap.size w)
 have H : (if a1 < 1 then (impl_word.j0 k a0 a1 true) else (impl_word.j0 k a0 a1 (decide (a1 > 8)))) = some r := h
 clear h
 have HC3 := Aside0.mk H
 clear H
 go_enter Tryd.func89, Tryd.ntmps89
 go_upto_region 1 with (fail)
 go_cut [12] (fun v12 wc => ∃ (kq : Nat) (x12_2 : Bool), v12 = .bool x12_2 ∧ Aside0 (impl_word.j0 kq a0 a1 x12_2 = some r) ∧ Aside0 (kq ≤ k) ∧ Aside0 (Below w.heap.size w wc))
 case first =>
  have H := HC3.out
  clear HC3
  by_cases c4 : a1 < 1
  ·rw [if_pos c4] at H
   have c4b0 : decide (a1 < 1) = true := decide_eq_true c4
   clear c4
   (first | rw [c4b0] | (simp only [i64_w, i32_w]; rw [c4b0]) | skip)
   have H' := Aside0.mk H
   clear H
   go_wp2
   go_meet
   case rel => exact ⟨_, (true), (by first | rfl | (simp; done) | (simp [*]; done)), H', ⟨by first | omega | exact Nat.le_refl _⟩, ⟨bB⟩⟩
  ·rw [if_neg c4] at H
   have c4b0 : decide (a1 < 1) = false := decide_eq_false c4
   clear c4
   (first | rw [c4b0] | (simp only [i64_w, i32_w]; rw [c4b0]) | skip)
   have H' := Aside0.mk H
   clear H
   go_wp2
   go_meet
   case rel => exact ⟨_, (decide (a1 > 8)), (by first | rfl | (simp; done) | (simp [*]; done)), H', ⟨by first | omega | exact Nat.le_refl _⟩, ⟨bB⟩⟩
 case rest =>
  clear HC3
  try clear p2
  try clear c4
  try clear c4b0
  obtain ⟨kq, x12_2, rfl, HA, HJ2, HB⟩ := hcut
  cases kq with
  | zero => exact absurd HA.out (by simp [impl_word.j0])
  | succ kj2 =>
   have H := HA.out
   clear HA
   simp only [impl_word.j0] at H
   have HC5 := Aside0.mk H
   clear H
   go_upto_if 12 with (fail)
   go_cut [1] (fun v1 wc => ∃ (kq : Nat) (x1_4 : Int), v1 = .int .i64 x1_4 ∧ Aside0 (impl_word.j1 kq a0 x1_4 = some r) ∧ Aside0 (kq ≤ kj2) ∧ Aside0 (Below w.heap.size w wc))
   case first =>
    have H := HC5.out
    clear HC5
    by_cases c6 : x12_2 = true
    ·subst c6
     have H1 : (impl_word.j1 kj2 a0 8) = some r := by rw [if_pos rfl] at H; exact H
     clear H
     have H := H1
     clear H1
     have H' := Aside0.mk H
     clear H
     go_wp2
     go_meet
     case rel => exact ⟨_, (8), (by first | rfl | (simp; done) | (simp [*]; done)), H', ⟨by have := HJ2.out; first | omega | exact Nat.le_refl _⟩, ⟨bB⟩⟩
    ·replace c6 := Bool.eq_false_iff.mpr c6
     subst c6
     have H1 : (impl_word.j1 kj2 a0 a1) = some r := by rw [if_neg (show ¬ (false = true) by decide)] at H; exact H
     clear H
     have H := H1
     clear H1
     have H' := Aside0.mk H
     clear H
     go_wp2
     go_meet
     case rel => exact ⟨_, (a1), (by first | rfl | (simp; done) | (simp [*]; done)), H', ⟨by have := HJ2.out; first | omega | exact Nat.le_refl _⟩, ⟨bB⟩⟩
   case rest =>
    clear HC5
    try clear p2
    try clear c4
    try clear c4b0
    try clear c6
    try clear p2
    obtain ⟨kq, x1_4, rfl, HA, HJ4, HB⟩ := hcut
    cases kq with
    | zero => exact absurd HA.out (by simp [impl_word.j1])
    | succ kj4 =>
     have H := HA.out
     clear HA
     simp only [impl_word.j1] at H
     by_cases c7 : 0 ≤ x1_4
     ·rw [if_pos c7] at H
      have c7b0 := eq_true c7
      have c7b1 : decide (0 ≤ x1_4) = true := decide_eq_true c7
      clear c7
      by_cases c8 : (x1_4 : Int).toNat ≤ 281474976710656
      ·rw [if_pos c8] at H
       have c8b0 := eq_true c8
       have c8b1 : decide ((x1_4 : Int).toNat ≤ 281474976710656) = true := decide_eq_true c8
       clear c8
       obtain ⟨y306, hy306⟩ : ∃ y_ : List Int, y_ = (List.replicate (x1_4 : Int).toNat 0) := ⟨_, rfl⟩
       replace H : (impl_word.l0 kj4 a0 x1_4 y306 (y306.length : Int) 0) = some r := by first | (rw [hy306]; with_reducible exact H) | (have H2_ := (Option.bind_some _ _).symm.trans H; rw [hy306]; with_reducible exact H2_) | (have H2_ := (Option.bind_some _ _).symm.trans H; with_reducible exact H2_) | with_reducible exact H | (rw [hy306]; exact H) | exact H
       have Ny306 := Aside0.mk hy306
       clear hy306
       have H' := Aside0.mk H
       clear H
       go_wp2_with (first | ((with_reducible refine gate_dst (N := 14) rfl ?_); refine Kd.R_make (Kd.int .u8) _ 5 rfl (N := 14) rfl 27 _ _ rfl x1_4 rfl rfl Tryd.underlying27 (.int .u8 0) 1 info5 rfl (by decide) (by omega) 0 (ok := fun _ => True) (okp := fun _ => True) rfl (fun _ hk => hk) trivial dA (Nat.le_trans (Nat.mul_le_mul_right _ (dA : x1_4.toNat ≤ 281474976710656)) (by omega)) (Below.refl _ _) (Nat.le_refl _) ?_; intro v307 w9 ho10 hb hg_ hnew_; clear hg_ hnew_; (first | rw [← Ny306.out] at ho10 | (simp only [Int.reduceToNat] at ho10; rw [← Ny306.out] at ho10)); have n0_ := Aside0.mk (Kd.R_lower ho10 (below_size bB)); have n1_ := Aside0.mk (below_step bB hb); clear HB; have HO308 := n0_; have HB := n1_; clear n0_ n1_; clear hb ho10; obtain ⟨Ao11, co11, eo11⟩ := Kd.R_slice HO308.out; subst eo11))
       go_loopg [17] kj4 (fun kq v17 w' => ∃ (x5_3 : List Int) (x17_3 : Int), v17 = .int .i64 x17_3 ∧ Aside0 (impl_word.l0 kq a0 x1_4 x5_3 (y306.length : Int) x17_3 = some r) ∧ Aside0 (kq ≤ kj4) ∧ Aside0 (Kd.R (Kd.int .u8) 5 w' w.heap.size (fun _ => True) (.slice Ao11 y306.length co11) x5_3) ∧ Aside0 (Below w.heap.size w w'))
       case atStart => exact ⟨(y306), (0), (by first | rfl | (simp; done) | (simp [*]; done)), H', ⟨Nat.le_refl _⟩, ⟨kR HO308.out⟩, ⟨bB⟩⟩
       case round =>
        clear H'
        try clear p2
        try clear c4
        try clear c4b0
        try clear c6
        try clear c7
        try clear c7b0
        try clear c7b1
        try clear c8
        try clear c8b0
        try clear c8b1
        try clear p2
        obtain ⟨x5_3, x17_3, rfl, HA, HK3, HO_5, HB⟩ := hrel
        have hl5_3 := (Kd.R_reads' HO_5.out).1
        rw [hl5_3] at HO_5
        (try simp only [hl5_3])
        cases gk with
        | zero => exact absurd HA.out (by simp [impl_word.l0])
        | succ k3 =>
         have H := HA.out
         clear HA
         simp only [impl_word.l0] at H
         by_cases c12 : x17_3 < (y306.length : Int)
         ·rw [if_pos c12] at H
          have c12b0 : decide (x17_3 < (y306.length : Int)) = true := decide_eq_true c12
          (try (have c12b0hl5_3 := c12b0; rw [hl5_3] at c12b0hl5_3))
          clear c12
          obtain ⟨ji13, hji13⟩ : ∃ j_ : Int, (wrap64 (8 * x17_3)) = j_ := ⟨_, rfl⟩
          replace H : (if 0 ≤ (ji13) then (if 0 ≤ (wrap64 ((wrap64 (x1_4 - 1)) - x17_3)) then (if (wrap64 ((wrap64 (x1_4 - 1)) - x17_3)) < (x5_3.length : Int) then (impl_word.l0 k3 a0 x1_4 (x5_3.set ((wrap64 ((wrap64 (x1_4 - 1)) - x17_3)) : Int).toNat ((shr .u64 a0 (ji13)) % 256)) (y306.length : Int) (wrap64 (x17_3 + 1))) else (none)) else (none)) else (none)) = some r := by first | (rw [hji13] at H; exact H) | (simp only [hji13] at H ⊢; exact H)
          have hji13w : (IntKind.i64.wrap (8 * x17_3)) = ji13 := (i64_w _).trans hji13
          by_cases c14 : 0 ≤ (ji13)
          ·rw [if_pos c14] at H
           have c14b0 := eq_true c14
           have c14b1 : decide (0 ≤ (ji13)) = true := decide_eq_true c14
           clear c14
           obtain ⟨ji15, hji15⟩ : ∃ j_ : Int, (shr .u64 a0 (ji13)) = j_ := ⟨_, rfl⟩
           replace H : (if 0 ≤ (wrap64 ((wrap64 (x1_4 - 1)) - x17_3)) then (if (wrap64 ((wrap64 (x1_4 - 1)) - x17_3)) < (x5_3.length : Int) then (impl_word.l0 k3 a0 x1_4 (x5_3.set ((wrap64 ((wrap64 (x1_4 - 1)) - x17_3)) : Int).toNat ((ji15) % 256)) (y306.length : Int) (wrap64 (x17_3 + 1))) else (none)) else (none)) = some r := by first | (rw [hji15] at H; exact H) | (simp only [hji15] at H ⊢; exact H)
           have hji15_ : (a0 / 2 ^ min (ji13).toNat 64) = ji15 := hji15
           have hji15z : (ji13) ≤ 64 → (a0 / 2 ^ (ji13).toNat) = ji15 := shr_small hji15
           obtain ⟨ji16, hji16⟩ : ∃ j_ : Int, (wrap64 ((wrap64 (x1_4 - 1)) - x17_3)) = j_ := ⟨_, rfl⟩
           replace H : (if 0 ≤ (ji16) then (if (ji16) < (x5_3.length : Int) then (impl_word.l0 k3 a0 x1_4 (x5_3.set ((ji16) : Int).toNat ((ji15) % 256)) (y306.length : Int) (wrap64 (x17_3 + 1))) else (none)) else (none)) = some r := by first | (rw [hji16] at H; exact H) | (simp only [hji16] at H ⊢; exact H)
           have hji16w : (IntKind.i64.wrap ((wrap64 (x1_4 - 1)) - x17_3)) = ji16 := (i64_w _).trans hji16
           by_cases c17 : 0 ≤ (ji16)
           ·rw [if_pos c17] at H
            have c17b0 : decide (0 ≤ (ji16)) = true := decide_eq_true c17
            clear c17
            by_cases c18 : (ji16) < (x5_3.length : Int)
            ·rw [if_pos c18] at H
             have c18b0 : decide ((ji16) < (x5_3.length : Int)) = true := decide_eq_true c18
             (try (have c18b0hl5_3 := c18b0; rw [hl5_3] at c18b0hl5_3))
             clear c18
             obtain ⟨y309, hy309⟩ : ∃ y_ : List Int, y_ = (x5_3.set ((ji16) : Int).toNat ((ji15) % 256)) := ⟨_, rfl⟩
             replace H : (impl_word.l0 k3 a0 x1_4 y309 (y306.length : Int) (wrap64 (x17_3 + 1))) = some r := by first | (rw [hy309]; with_reducible exact H) | (have H2_ := (Option.bind_some _ _).symm.trans H; rw [hy309]; with_reducible exact H2_) | (have H2_ := (Option.bind_some _ _).symm.trans H; with_reducible exact H2_) | with_reducible exact H | (rw [hy309]; exact H) | exact H
             have Ny309 := Aside0.mk hy309
             clear hy309
             have H' := Aside0.mk H
             clear H
             have p19 : 0 ≤ ((ji16) : Int) := dA
             have q19 : ((ji16) : Int) < ((x5_3.length : Int) : Int) := dA
             obtain ⟨go19, co19, eo19, gb19, gl19, cl19, HG19⟩ := Kd.R_form HO_5.out (by omega)
             (first | cases eo19 | (injection eo19 with ea_ en_ ec_; (first | subst ea_ | (injection ea_ with ea_; subst ea_)); subst ec_; clear en_))
             have GB19 := Aside0.mk gb19
             have GG19 := Aside0.mk HG19
             clear gb19 gl19 HG19
             obtain ⟨hx19_0, hf19_0⟩ := Kd.R_celln 0 HO_5.out ((ji16) : Int) p19 q19
             replace p19 := eq_true p19
             replace q19 := eq_true q19
             have HP20 := Kd.R_putg HO_5.out ((ji16) : Int) ((ji15) % 256)
             go_wp2_with (first | ((with_reducible refine gate_store (t := 5) (p := 30) rfl ?_); refine store_event (t := 5) (p := 30) (v := ?vo_w21) (w1 := (wr.setCell ⟨go19, ((ji16) : Int).toNat, none⟩ (.int .u8 ((ji15) % 256)))) ?hg ?ho ?hn ?hr ?_; (case ho => rfl); (case hg => rfl); (case hn => rfl); (case hr => first | (go_simp; done) | (go_simp; rfl)); intro w21 hw; have hg : wr.grownBy w21 (some go19) := (by rw [hw]; exact HP20.2); have hp_ : Kd.R (Kd.int .u8) 5 w21 w.heap.size (fun _ => True) (.slice (some ⟨go19, 0, none⟩) x5_3.length co11) y309 := (by rw [hw, Ny309.out]; exact HP20.1); clear HP20; have n0_ := Aside0.mk (hp_); have n1_ := Aside0.mk ((by rw [hw]; exact below_set (HB.out) GB19.out : Below w.heap.size w w21)); clear HO_5; clear HB; have HO_5 := n0_; have HB := n1_; clear n0_ n1_; clear hg hw hp_))
             (try simp only [← hl5_3])
             go_roundg k3
             case measure => have := HJ2.out; have := HJ4.out; have := HK3.out; omega
             case rel => exact ⟨(y309), (wrap64 (x17_3 + 1)), (by first | rfl | (simp; done) | (simp [*]; done)), H', ⟨by have := HJ2.out; have := HJ4.out; have := HK3.out; omega⟩, ⟨by (try simp only [hl5_3]); (with_reducible repeat (first | apply Kd.R_alloc | apply Kd.R_drewN | apply Kd.R_drew)); exact HO_5.out⟩, ⟨bB⟩⟩
            ·rw [if_neg c18] at H
             exact absurd H (by simp)
           ·rw [if_neg c17] at H
            exact absurd H (by simp)
          ·rw [if_neg c14] at H
           exact absurd H (by simp)
         ·rw [if_neg c12] at H
          have c12b0 : decide (x17_3 < (y306.length : Int)) = false := decide_eq_false c12
          (try (have c12b0hl5_3 := c12b0; rw [hl5_3] at c12b0hl5_3))
          clear c12
          obtain rfl := Option.some.inj H
          go_wp2
          go_ret
          exact ⟨_, by first | rfl | (simp [errW_none, errW_some] <;> rfl) | (simp [*, errW_none, errW_some] <;> rfl), by (with_reducible repeat (first | apply Kd.R_alloc | apply Kd.R_drewN | apply Kd.R_drew)); exact HO_5.out, bB⟩
      ·rw [if_neg c8] at H
       exact absurd H (by simp)
     ·rw [if_neg c7] at H
      exact absurd H (by simp)


/-! ### impl_mixed: function 90 -/
def impl_mixed.l0 : Nat → Int → List Int → Int → Int → Option (Int)
 | 0, _, _, _, _ => none
 | k + 1, x0, x7, x8, x9 => if x9 < x8 then (if 0 ≤ x9 then (if x9 < (x7.length : Int) then (impl_mixed.l0 k (IntKind.u64.wrap ((Go.bits .xor .u64 x0 (IntKind.u64.wrap (rd x7 x9))) * 1099511628211)) x7 x8 (wrap64 (x9 + 1))) else (none)) else (none)) else (some x0)
def impl_mixed.f (k : Nat) (a0 : Int) (l1 : List Int) : Option (Int) := impl_mixed.l0 k a0 l1 (l1.length : Int) 0
theorem impl_mixed.mono_l : ∀ k, (∀ y0 y1 y2 y3, LeO (impl_mixed.l0 k y0 y1 y2 y3) (impl_mixed.l0 (k + 1) y0 y1 y2 y3))
 | 0 => fun _ _ _ _ r h => by simp [impl_mixed.l0] at h
 | k + 1 => by
  have ih0 := impl_mixed.mono_l k
  ·intro y0 y1 y2 y3
   unfold impl_mixed.l0
   repeat' first
   | (with_reducible exact ih0 _ _ _ _)
   | (with_reducible exact LeO.refl _)
   | (with_reducible exact LeO.none _)
   | (with_reducible refine LeO.ite ?_ ?_)
   | (with_reducible refine LeO.bind ?_ (fun _ => ?_))
   | exact ih0 _ _ _ _
   | exact LeO.none _
   | refine LeO.ite ?_ ?_
   | refine LeO.bind ?_ (fun _ => ?_)
theorem impl_mixed.mono : ∀ a0 a1 k, LeO (impl_mixed.f k a0 a1) (impl_mixed.f (k + 1) a0 a1) := by
 intro a0 a1 k
 have ih0 := impl_mixed.mono_l k
 unfold impl_mixed.f
 repeat' first
   | (with_reducible exact ih0 _ _ _ _)
   | (with_reducible exact LeO.refl _)
   | (with_reducible exact LeO.none _)
   | (with_reducible refine LeO.ite ?_ ?_)
   | (with_reducible refine LeO.bind ?_ (fun _ => ?_))
   | exact ih0 _ _ _ _
   | exact LeO.none _
   | refine LeO.ite ?_ ?_
   | refine LeO.bind ?_ (fun _ => ?_)
set_option maxHeartbeats 8000000 in
set_option maxRecDepth 100000 in
theorem impl_mixed.calls (k : Nat) (a0 : Int) (A1 : Option Addr) (c1 : Nat) (l1 : List Int) (r : Int) (w : World) (hr1 : Kd.C (Kd.int .u8) w A1 l1.length l1) (hc1 : l1.length ≤ c1) (h : impl_mixed.f k a0 l1 = some r) :
  Calls Tryd.prog 90 #[.int .u64 a0, .slice A1 l1.length c1] w fun e w' => e = .returned (.int .u64 r) ∧ Drawn0 w w' := by
 have HR1 := Aside0.mk hr1
 have HC1 := Aside0.mk hc1
 clear hr1 hc1
 have H : (impl_mixed.l0 k a0 l1 (l1.length : Int) 0) = some r := h
 clear h
 have H' := Aside0.mk H
 clear H
 go_enter Tryd.func90, Tryd.ntmps90
 go_wp2
 go_loopg [0, 9] k (fun kq v0 v9 w' => ∃ (x0_1 : Int) (x9_1 : Int), v0 = .int .u64 x0_1 ∧ v9 = .int .i64 x9_1 ∧ Aside0 (impl_mixed.l0 kq x0_1 l1 (l1.length : Int) x9_1 = some r) ∧ Aside0 (kq ≤ k) ∧ Drawn0 w w')
 case atStart => exact ⟨(a0), (0), (by first | rfl | (simp; done) | (simp [*]; done)), (by first | rfl | (simp; done) | (simp [*]; done)), H', ⟨Nat.le_refl _⟩, by repeat (first | exact Drawn0.refl _ | apply Drawn0.step)⟩
 case round =>
  clear H'
  try clear c1
  try clear p2
  obtain ⟨x0_1, x9_1, rfl, rfl, HA, HK1, ⟨m1, rfl⟩⟩ := hrel
  cases gk with
  | zero => exact absurd HA.out (by simp [impl_mixed.l0])
  | succ k1 =>
   have H := HA.out
   clear HA
   simp only [impl_mixed.l0] at H
   by_cases c3 : x9_1 < (l1.length : Int)
   ·rw [if_pos c3] at H
    have c3b0 : decide (x9_1 < (l1.length : Int)) = true := decide_eq_true c3
    clear c3
    by_cases c4 : 0 ≤ x9_1
    ·rw [if_pos c4] at H
     have c4b0 : decide (0 ≤ x9_1) = true := decide_eq_true c4
     clear c4
     by_cases c5 : x9_1 < (l1.length : Int)
     ·rw [if_pos c5] at H
      have c5b0 : decide (x9_1 < (l1.length : Int)) = true := decide_eq_true c5
      clear c5
      have H' := Aside0.mk H
      clear H
      have p310 : 0 ≤ (x9_1 : Int) := dA
      have q310 : x9_1 < (l1.length : Int) := dA
      obtain ⟨ad310, e310, hx310_0⟩ := Kd.at_int HR1.out x9_1 p310 q310
      cases e310
      replace p310 := eq_true p310
      replace q310 := eq_true q310
      go_wp2
      go_roundg k1
      case measure => have := HK1.out; omega
      case rel => exact ⟨(IntKind.u64.wrap ((Go.bits .xor .u64 x0_1 (IntKind.u64.wrap (rd l1 x9_1))) * 1099511628211)), (wrap64 (x9_1 + 1)), (by first | rfl | (simp; done) | (simp [*]; done)), (by first | rfl | (simp; done) | (simp [*]; done)), H', ⟨by have := HK1.out; omega⟩, by repeat (first | exact Drawn0.refl _ | apply Drawn0.step)⟩
     ·rw [if_neg c5] at H
      exact absurd H (by simp)
    ·rw [if_neg c4] at H
     exact absurd H (by simp)
   ·rw [if_neg c3] at H
    have c3b0 : decide (x9_1 < (l1.length : Int)) = false := decide_eq_false c3
    clear c3
    obtain rfl := Option.some.inj H
    go_wp2
    go_ret
    exact ⟨by first | rfl | (simp; done) | (simp [*]; done), by repeat (first | exact Drawn0.refl _ | apply Drawn0.step)⟩

end Go.Proofs.YtkmdkmlgahfcpaaDoor.M

