-- Written by a program of ours (wip/xp) out of the translation; Lean checks it.
import Derived.Test.YtkmdkmlgahfcpaaDoorSq
import Derived.Test.YtkmdkmlgahfcpaaDoorMm1
import Derived.Test.YtkmdkmlgahfcpaaDoorMm5
import Derived.Test.YtkmdkmlgahfcpaaDoorMm2
import Derived.Test.YtkmdkmlgahfcpaaDoorMm3
namespace Go.Proofs.YtkmdkmlgahfcpaaDoor.M
open Go.RowKit Go.Proofs.YtkmdkmlgahfcpaaDoorW.PrintWords Go.Proofs.YtkmdkmlgahfcpaaDoorW.PrintLast Go.Proofs.YtkmdkmlgahfcpaaDoorW.PrintMore
attribute [local go_sem] max2_int min2_int max_two min_two max_three min_three max_four min_four   -- for this text's walks alone
set_option linter.unusedVariables false
set_option linter.unusedSimpArgs false

/-! ### proof_Consistency: function 69 -/
def proof_Consistency.j0 : Nat → Int → Int → Bool → Option ((List (S106)) × Int × Int × Int × Int × Option Int)
 | 0, _, _, _ => none
 | k + 1, x0, x1, x20 => if x20 = true then (some ((([] : List (S106))), 0, 0, 0, 0, none)) else ((bits_TrailingZeros64.f x0).bind fun t148 => (if 0 ≤ (IntKind.u64.wrap (t148)) then ((proof_nodes.f k (shr .u64 (IntKind.u64.wrap (x0 - 1)) (IntKind.u64.wrap (t148))) (IntKind.u64.wrap (t148)) x1).bind fun bt149 => (if (shr .u64 (IntKind.u64.wrap (x0 - 1)) (IntKind.u64.wrap (t148))) = 0 then ((proof_Nodes_skipFirst.f bt149.1 bt149.2.1 bt149.2.2.1 bt149.2.2.2.1 bt149.2.2.2.2).bind fun bt157 => (some (bt157.1, bt157.2.1, bt157.2.2.1, bt157.2.2.2.1, bt157.2.2.2.2, none))) else (some (bt149.1, bt149.2.1, bt149.2.2.1, bt149.2.2.2.1, bt149.2.2.2.2, none)))) else (none)))
def proof_Consistency.f (k : Nat) (a0 : Int) (a1 : Int) : Option ((List (S106)) × Int × Int × Int × Int × Option Int) := if a0 > a1 then ((errors_New.f (⟨#[116, 114, 101, 101, 32, 115, 105, 122, 101, 32, 62]⟩ : ByteArray)).bind fun t144 => (some (([] : List (S106)), 0, 0, 0, 0, t144))) else (if a0 = a1 then (proof_Consistency.j0 k a0 a1 true) else (proof_Consistency.j0 k a0 a1 (a0 == 0)))
theorem proof_Consistency.mono_l : ∀ k, (∀ y0 y1 y2, LeO (proof_Consistency.j0 k y0 y1 y2) (proof_Consistency.j0 (k + 1) y0 y1 y2))
 | 0 => fun _ _ _ r h => by simp [proof_Consistency.j0] at h
 | k + 1 => by
  have ih0 := proof_Consistency.mono_l k
  ·intro y0 y1 y2
   unfold proof_Consistency.j0
   repeat' first
   | (with_reducible exact ih0 _ _ _)
   | (with_reducible exact proof_nodes.mono _ _ _ _)
   | (with_reducible exact LeO.refl _)
   | (with_reducible exact LeO.none _)
   | (with_reducible refine LeO.ite ?_ ?_)
   | (with_reducible refine LeO.bind ?_ (fun _ => ?_))
   | exact ih0 _ _ _
   | exact proof_nodes.mono _ _ _ _
   | exact LeO.none _
   | refine LeO.ite ?_ ?_
   | refine LeO.bind ?_ (fun _ => ?_)
theorem proof_Consistency.mono : ∀ a0 a1 k, LeO (proof_Consistency.f k a0 a1) (proof_Consistency.f (k + 1) a0 a1) := by
 intro a0 a1 k
 have ih0 := proof_Consistency.mono_l k
 unfold proof_Consistency.f
 repeat' first
   | (with_reducible exact ih0 _ _ _)
   | (with_reducible exact proof_nodes.mono _ _ _ _)
   | (with_reducible exact LeO.refl _)
   | (with_reducible exact LeO.none _)
   | (with_reducible refine LeO.ite ?_ ?_)
   | (with_reducible refine LeO.bind ?_ (fun _ => ?_))
   | exact ih0 _ _ _
   | exact proof_nodes.mono _ _ _ _
   | exact LeO.none _
   | refine LeO.ite ?_ ?_
   | refine LeO.bind ?_ (fun _ => ?_)
set_option maxHeartbeats 8000000 in
set_option maxRecDepth 100000 in
theorem proof_Consistency.calls (k : Nat) (a0 : Int) (a1 : Int) (r1 : List (S106)) (r2 : Int) (r3 : Int) (r4 : Int) (r5 : Int) (r6 : Option Int) (w : World) (hT : TabOK w) (h : proof_Consistency.f k a0 a1 = some (r1, r2, r3, r4, r5, r6)) :
  Calls Tryd.prog 69 #[.int .u64 a0, .int .u64 a1] w fun e w' => ∃ (T_ : Int → TypeId) (X_ : Int → Value), ∃ v0_ : Value, e = .returned (.tuple #[.agg #[v0_, .int .i64 r2, .int .i64 r3, .int .u64 r4, .int .u64 r5], errW T_ X_ r6]) ∧ Kd.V k106 106 w' w.heap.size (fun k_ => (w.heap.size ≤ k_)) v0_ r1 ∧ Below w.heap.size w w' := by
 have hu122 := Tryd.underlying122
 have HT := Aside0.mk hT
 clear hT
 have HB := Aside0.mk (Below.refl w.heap.size w)
 have H : (if a0 > a1 then ((errors_New.f (⟨#[116, 114, 101, 101, 32, 115, 105, 122, 101, 32, 62]⟩ : ByteArray)).bind fun t144 => (some (([] : List (S106)), 0, 0, 0, 0, t144))) else (if a0 = a1 then (proof_Consistency.j0 k a0 a1 true) else (proof_Consistency.j0 k a0 a1 (a0 == 0)))) = some (r1, r2, r3, r4, r5, r6) := h
 clear h
 by_cases c3 : a0 > a1
 ·rw [if_pos c3] at H
  have c3b0 : decide (a1 < a0) = true := decide_eq_true c3
  clear c3
  replace H := Option.bind_eq_some_iff.mp H
  obtain ⟨t144, A40, H⟩ := H
  replace H : (some (([] : List (S106)), 0, 0, 0, 0, t144)) = some (r1, r2, r3, r4, r5, r6) := H
  have A4 := Aside0.mk A40
  clear A40
  simp only [Option.some.injEq, Prod.mk.injEq] at H
  obtain ⟨rfl, rfl, rfl, rfl, rfl, rfl⟩ := H
  go_enter Tryd.func69, Tryd.ntmps69
  go_wp2_with (first | ((with_reducible refine gate_dst (N := 4) rfl ?_); refine box_event ?hg (N := 4) ?hd (cs := #[.slice none 0 0, .int .i64 0, .int .i64 0, .int .u64 0, .int .u64 0]) (t := 122) ?hr ?_; (case hd => rfl); (case hg => rfl); (case hr => first | (go_simp; done) | (go_simp; rfl)); intro gb143 hg w5 hbox hb; have n0_ := Aside0.mk (below_step bB hb); have n1_ := Aside0.mk (hbox); have n2_ := Aside0.mk ((by rw [hg]; exact (below_size bB) : w.heap.size ≤ gb143)); have n3_ := Aside0.mk ((by rw [hg]; exact (below_size bB) : w.heap.size ≤ gb143)); clear HB; have HB := n0_; have BK143 := n1_; have GW143 := n2_; have GE143 := n3_; clear n0_ n1_ n2_ n3_; clear hb hbox hg) | ((with_reducible refine gate_callee (f := 80) rfl ?_); refine goesL_ (some 13) rfl rfl Tryd.func80 (by kernel_rfl) rfl #[.string (⟨#[116, 114, 101, 101, 32, 115, 105, 122, 101, 32, 62]⟩ : ByteArray)] rfl aV ?_; (with_reducible refine (errors_New.calls (⟨#[116, 114, 101, 101, 32, 115, 105, 122, 101, 32, 62]⟩ : ByteArray) t144 _ A4.out).mono ?_); rintro e w6 ⟨Tt144, Xt144, rfl, hb⟩; refine ⟨_, rfl, ?_⟩; have n0_ := Aside0.mk (blk_below (g := gb143) (o := .cells #[.slice none 0 0, .int .i64 0, .int .i64 0, .int .u64 0, .int .u64 0] 122 (0, 0)) (kB BK143.out) hb); have n1_ := Aside0.mk (below_step bB hb); clear BK143; clear HB; have BK143 := n0_; have HB := n1_; clear n0_ n1_; (try clear hb); (try clear hb2); (try clear hk); (try clear hi); (try simp only [errW_none, errW_some]); have hcz7_0 : w6.cell? ⟨gb143, 0, none⟩ = some (.slice none 0 0) := (blk_cell BK143.out 0).trans rfl; have hcz7_1 : w6.cell? ⟨gb143, 1, none⟩ = some (.int .i64 0) := (blk_cell BK143.out 1).trans rfl; have hcz7_2 : w6.cell? ⟨gb143, 2, none⟩ = some (.int .i64 0) := (blk_cell BK143.out 2).trans rfl; have hcz7_3 : w6.cell? ⟨gb143, 3, none⟩ = some (.int .u64 0) := (blk_cell BK143.out 3).trans rfl; have hcz7_4 : w6.cell? ⟨gb143, 4, none⟩ = some (.int .u64 0) := (blk_cell BK143.out 4).trans rfl; have hfz7_0 := blk_frozen BK143.out 0; have hfz7_1 := blk_frozen BK143.out 1; have hfz7_2 := blk_frozen BK143.out 2; have hfz7_3 := blk_frozen BK143.out 3; have hfz7_4 := blk_frozen BK143.out 4))
  refine bodyPost_ret (results_ct rfl _ _ gb143 122 #[.slice none 0 0, .int .i64 0, .int .i64 0, .int .u64 0, .int .u64 0] (0, 0) _ rfl (by (with_reducible repeat (first | refine blk_drewN ?_ _ | refine blk_drew ?_ | refine blk_alloc ?_ _)); refine blk_put (cs := #[.slice none 0 0, .int .i64 0, .int .i64 0, .int .u64 0, .int .u64 0]) ?_ 4 _ rfl; (with_reducible repeat (first | refine blk_drewN ?_ _ | refine blk_drew ?_ | refine blk_alloc ?_ _)); refine blk_put (cs := #[.slice none 0 0, .int .i64 0, .int .i64 0, .int .u64 0, .int .u64 0]) ?_ 3 _ rfl; (with_reducible repeat (first | refine blk_drewN ?_ _ | refine blk_drew ?_ | refine blk_alloc ?_ _)); refine blk_put (cs := #[.slice none 0 0, .int .i64 0, .int .i64 0, .int .u64 0, .int .u64 0]) ?_ 2 _ rfl; (with_reducible repeat (first | refine blk_drewN ?_ _ | refine blk_drew ?_ | refine blk_alloc ?_ _)); refine blk_put (cs := #[.slice none 0 0, .int .i64 0, .int .i64 0, .int .u64 0, .int .u64 0]) ?_ 1 _ rfl; (with_reducible repeat (first | refine blk_drewN ?_ _ | refine blk_drew ?_ | refine blk_alloc ?_ _)); refine blk_put (cs := #[.slice none 0 0, .int .i64 0, .int .i64 0, .int .u64 0, .int .u64 0]) ?_ 0 _ rfl; (with_reducible repeat (first | refine blk_drewN ?_ _ | refine blk_drew ?_ | refine blk_alloc ?_ _)); exact BK143.out) Tryd.underlying122 rfl (by kernel_rfl)) rfl ?_
  exact ⟨Tt144, Xt144, (.slice none 0 0), by first | rfl | (simp [errW_none, errW_some] <;> rfl) | (simp [*, errW_none, errW_some] <;> rfl), by first | exact Kd.V_nil _ _ _ _ _ | exact Kd.R_nil _ _ _ _ _ | exact Kd.S_nil _ _ _ _ _ | exact Kd.N_nil _ _ _ _ _ | exact Kd.Q_nil _ _ _ _ _, bB⟩
 ·rw [if_neg c3] at H
  have c3b0 : decide (a1 < a0) = false := decide_eq_false c3
  clear c3
  have HC8 := Aside0.mk H
  clear H
  go_enter Tryd.func69, Tryd.ntmps69
  go_upto_region 3 with (first | ((with_reducible refine gate_dst (N := 4) rfl ?_); refine box_event ?hg (N := 4) ?hd (cs := #[.slice none 0 0, .int .i64 0, .int .i64 0, .int .u64 0, .int .u64 0]) (t := 122) ?hr ?_; (case hd => rfl); (case hg => rfl); (case hr => first | (go_simp; done) | (go_simp; rfl)); intro gb143 hg w9 hbox hb; have n0_ := Aside0.mk (below_step bB hb); have n1_ := Aside0.mk (hbox); have n2_ := Aside0.mk ((by rw [hg]; exact (below_size bB) : w.heap.size ≤ gb143)); have n3_ := Aside0.mk ((by rw [hg]; exact (below_size bB) : w.heap.size ≤ gb143)); clear HB; have HB := n0_; have BK143 := n1_; have GW143 := n2_; have GE143 := n3_; clear n0_ n1_ n2_ n3_; clear hb hbox hg))
  (try simp only [Act.put, List.setIfInBounds_toArray, List.set_cons_zero, List.set_cons_succ])
  go_cut [20] (fun v20 wc => ∃ (kq : Nat) (x20_7 : Bool), v20 = .bool x20_7 ∧ Aside0 (proof_Consistency.j0 kq a0 a1 x20_7 = some (r1, r2, r3, r4, r5, r6)) ∧ Aside0 (kq ≤ k) ∧ Aside0 (wc.heap[gb143]? = some (.cells #[(.slice none 0 0), .int .i64 0, .int .i64 0, .int .u64 0, .int .u64 0] 122 (0, 0))) ∧ Aside0 (Below w.heap.size w wc))
  case first =>
   have H := HC8.out
   clear HC8
   by_cases c10 : a0 = a1
   ·rw [if_pos c10] at H
    have c10b0 : (a0 == a1) = true := beq_iff_eq.mpr c10
    have c10b1 : (a0 != a1) = false := bne_eq_false_iff_eq.mpr c10
    clear c10
    (first | rw [c10b0] | (simp only [i64_w, i32_w]; rw [c10b0]) | skip)
    have H' := Aside0.mk H
    clear H
    go_wp2
    go_meet
    case rel => exact ⟨_, (true), (by first | rfl | (simp; done) | (simp [*]; done)), H', ⟨by first | omega | exact Nat.le_refl _⟩, ⟨by (with_reducible repeat (first | refine blk_drewN ?_ _ | refine blk_drew ?_ | refine blk_alloc ?_ _)); exact BK143.out⟩, ⟨bB⟩⟩
   ·rw [if_neg c10] at H
    have c10b0 : (a0 == a1) = false := beq_eq_false_iff_ne.mpr c10
    have c10b1 : (a0 != a1) = true := bne_iff_ne.mpr c10
    (first | rw [c10b0] | (simp only [i64_w, i32_w]; rw [c10b0]) | skip)
    have H' := Aside0.mk H
    clear H
    go_wp2
    go_meet
    case rel => exact ⟨_, ((a0 == 0)), (by first | rfl | (simp; done) | (simp [*]; done)), H', ⟨by first | omega | exact Nat.le_refl _⟩, ⟨by (with_reducible repeat (first | refine blk_drewN ?_ _ | refine blk_drew ?_ | refine blk_alloc ?_ _)); exact BK143.out⟩, ⟨bB⟩⟩
  case rest =>
   clear HC8
   try clear c1
   try clear p2
   try clear c3
   try clear c3b0
   try clear c6
   try clear c8
   try clear c10
   try clear c10b0
   try clear c10b1
   try clear hcz7_0
   try clear hcz7_1
   try clear hcz7_2
   try clear hcz7_3
   try clear hcz7_4
   try clear hfz7_0
   try clear hfz7_1
   try clear hfz7_2
   try clear hfz7_3
   try clear hfz7_4
   obtain ⟨kq, x20_7, rfl, HA, HJ7, BK143, HB⟩ := hcut
   cases kq with
   | zero => exact absurd HA.out (by simp [proof_Consistency.j0])
   | succ kj7 =>
    have H := HA.out
    clear HA
    simp only [proof_Consistency.j0] at H
    by_cases c11 : x20_7 = true
    ·subst c11
     have H1 : (some ((([] : List (S106))), 0, 0, 0, 0, none)) = some (r1, r2, r3, r4, r5, r6) := by rw [if_pos rfl] at H; exact H
     clear H
     have H := H1
     clear H1
     obtain ⟨y145, hy145⟩ : ∃ y_ : List (S106), y_ = (([] : List (S106))) := ⟨_, rfl⟩
     replace H : (some (y145, 0, 0, 0, 0, none)) = some (r1, r2, r3, r4, r5, r6) := by first | (rw [hy145]; with_reducible exact H) | (have H2_ := (Option.bind_some _ _).symm.trans H; rw [hy145]; with_reducible exact H2_) | (have H2_ := (Option.bind_some _ _).symm.trans H; with_reducible exact H2_) | with_reducible exact H | (rw [hy145]; exact H) | exact H
     have Ny145 := Aside0.mk hy145
     clear hy145
     simp only [Option.some.injEq, Prod.mk.injEq] at H
     obtain ⟨rfl, rfl, rfl, rfl, rfl, rfl⟩ := H
     go_wp2_with (first | ((with_reducible refine gate_dst (N := 21) rfl ?_); refine Kd.R_lit k106 _ 106 ?hg (N := 21) ?hd (xs := ([] : List (S106))) (inner := []) (ok := fun _ => True) (okp := fun _ => True) ?hr ?hp (fun _ hk => hk) trivial (Below.refl _ _) (Nat.le_refl _) (by simp) ?_; (case hd => rfl); (case hg => rfl); (case hr => first | (go_simp; done) | (go_simp; rfl)); (case hp => exact (Reps.none _ _)); intro v146 w12 ho13 hb hg_ hnew_; clear hg_ hnew_; (first | rw [← Ny145.out] at ho13 | (simp only [Int.reduceToNat] at ho13; rw [← Ny145.out] at ho13)); have n0_ := Aside0.mk (Kd.R_lower (Kd.R_newM (M := fun k_ => (w.heap.size ≤ k_)) ho13 (below_size bB) (fun k_ h_ => h_)) (below_size bB)); have n1_ := Aside0.mk (blk_below (g := gb143) (o := .cells #[.slice none 0 0, .int .i64 0, .int .i64 0, .int .u64 0, .int .u64 0] 122 (0, 0)) (kB BK143.out) hb); have n2_ := Aside0.mk (below_step bB hb); clear BK143; clear HB; have HO147 := n0_; have BK143 := n1_; have HB := n2_; clear n0_ n1_ n2_; clear hb ho13; obtain ⟨Ao14, co14, eo14⟩ := Kd.R_slice HO147.out; subst eo14; have hcz15_0 : w12.cell? ⟨gb143, 0, none⟩ = some (.slice none 0 0) := (blk_cell BK143.out 0).trans rfl; have hcz15_1 : w12.cell? ⟨gb143, 1, none⟩ = some (.int .i64 0) := (blk_cell BK143.out 1).trans rfl; have hcz15_2 : w12.cell? ⟨gb143, 2, none⟩ = some (.int .i64 0) := (blk_cell BK143.out 2).trans rfl; have hcz15_3 : w12.cell? ⟨gb143, 3, none⟩ = some (.int .u64 0) := (blk_cell BK143.out 3).trans rfl; have hcz15_4 : w12.cell? ⟨gb143, 4, none⟩ = some (.int .u64 0) := (blk_cell BK143.out 4).trans rfl; have hfz15_0 := blk_frozen BK143.out 0; have hfz15_1 := blk_frozen BK143.out 1; have hfz15_2 := blk_frozen BK143.out 2; have hfz15_3 := blk_frozen BK143.out 3; have hfz15_4 := blk_frozen BK143.out 4))
     refine bodyPost_ret (results_ct rfl _ _ gb143 122 #[.slice Ao14 y145.length co14, .int .i64 0, .int .i64 0, .int .u64 0, .int .u64 0] (0, 0) _ rfl (by (with_reducible repeat (first | refine blk_drewN ?_ _ | refine blk_drew ?_ | refine blk_alloc ?_ _)); refine blk_put (cs := #[.slice Ao14 y145.length co14, .int .i64 0, .int .i64 0, .int .u64 0, .int .u64 0]) ?_ 4 _ rfl; (with_reducible repeat (first | refine blk_drewN ?_ _ | refine blk_drew ?_ | refine blk_alloc ?_ _)); refine blk_put (cs := #[.slice Ao14 y145.length co14, .int .i64 0, .int .i64 0, .int .u64 0, .int .u64 0]) ?_ 3 _ rfl; (with_reducible repeat (first | refine blk_drewN ?_ _ | refine blk_drew ?_ | refine blk_alloc ?_ _)); refine blk_put (cs := #[.slice Ao14 y145.length co14, .int .i64 0, .int .i64 0, .int .u64 0, .int .u64 0]) ?_ 2 _ rfl; (with_reducible repeat (first | refine blk_drewN ?_ _ | refine blk_drew ?_ | refine blk_alloc ?_ _)); refine blk_put (cs := #[.slice Ao14 y145.length co14, .int .i64 0, .int .i64 0, .int .u64 0, .int .u64 0]) ?_ 1 _ rfl; (with_reducible repeat (first | refine blk_drewN ?_ _ | refine blk_drew ?_ | refine blk_alloc ?_ _)); refine blk_put (cs := #[.slice none 0 0, .int .i64 0, .int .i64 0, .int .u64 0, .int .u64 0]) ?_ 0 _ rfl; (with_reducible repeat (first | refine blk_drewN ?_ _ | refine blk_drew ?_ | refine blk_alloc ?_ _)); exact BK143.out) Tryd.underlying122 rfl (by kernel_rfl)) rfl ?_
     exact ⟨(fun _ => 0), (fun _ => .nilIface), _, by first | rfl | (simp [errW_none, errW_some] <;> rfl) | (simp [*, errW_none, errW_some] <;> rfl), Kd.R_V (by (with_reducible repeat (first | apply Kd.R_alloc | apply Kd.R_drewN | apply Kd.R_drew)); exact Kd.R_mono (Kd.R_far (p := ⟨gb143, 4, none⟩) (Kd.R_far (p := ⟨gb143, 3, none⟩) (Kd.R_far (p := ⟨gb143, 2, none⟩) (Kd.R_far (p := ⟨gb143, 1, none⟩) (Kd.R_far (p := ⟨gb143, 0, none⟩) (Kd.R_types HO147.out BK143.out (by decide)) (fun _ hk => hk.2) (.slice Ao14 y145.length co14)) (fun _ hk => hk.2) (.int .i64 0)) (fun _ hk => hk.2) (.int .i64 0)) (fun _ hk => hk.2) (.int .u64 0)) (fun _ hk => hk.2) (.int .u64 0)) (fun _ hk => hk.1.1)), bB⟩
    ·replace c11 := Bool.eq_false_iff.mpr c11
     subst c11
     have H1 : ((bits_TrailingZeros64.f a0).bind fun t148 => (if 0 ≤ (IntKind.u64.wrap (t148)) then ((proof_nodes.f kj7 (shr .u64 (IntKind.u64.wrap (a0 - 1)) (IntKind.u64.wrap (t148))) (IntKind.u64.wrap (t148)) a1).bind fun bt149 => (if (shr .u64 (IntKind.u64.wrap (a0 - 1)) (IntKind.u64.wrap (t148))) = 0 then ((proof_Nodes_skipFirst.f bt149.1 bt149.2.1 bt149.2.2.1 bt149.2.2.2.1 bt149.2.2.2.2).bind fun bt157 => (some (bt157.1, bt157.2.1, bt157.2.2.1, bt157.2.2.2.1, bt157.2.2.2.2, none))) else (some (bt149.1, bt149.2.1, bt149.2.2.1, bt149.2.2.2.1, bt149.2.2.2.2, none)))) else (none))) = some (r1, r2, r3, r4, r5, r6) := by rw [if_neg (show ¬ (false = true) by decide)] at H; exact H
     clear H
     have H := H1
     clear H1
     replace H := Option.bind_eq_some_iff.mp H
     obtain ⟨t148, A160, H⟩ := H
     replace H : (if 0 ≤ (IntKind.u64.wrap (t148)) then ((proof_nodes.f kj7 (shr .u64 (IntKind.u64.wrap (a0 - 1)) (IntKind.u64.wrap (t148))) (IntKind.u64.wrap (t148)) a1).bind fun bt149 => (if (shr .u64 (IntKind.u64.wrap (a0 - 1)) (IntKind.u64.wrap (t148))) = 0 then ((proof_Nodes_skipFirst.f bt149.1 bt149.2.1 bt149.2.2.1 bt149.2.2.2.1 bt149.2.2.2.2).bind fun bt157 => (some (bt157.1, bt157.2.1, bt157.2.2.1, bt157.2.2.2.1, bt157.2.2.2.2, none))) else (some (bt149.1, bt149.2.1, bt149.2.2.1, bt149.2.2.2.1, bt149.2.2.2.2, none)))) else (none)) = some (r1, r2, r3, r4, r5, r6) := H
     have A16 := Aside0.mk A160
     clear A160
     obtain ⟨ji17, hji17⟩ : ∃ j_ : Int, (IntKind.u64.wrap (t148)) = j_ := ⟨_, rfl⟩
     replace H : (if 0 ≤ (ji17) then ((proof_nodes.f kj7 (shr .u64 (IntKind.u64.wrap (a0 - 1)) (ji17)) (ji17) a1).bind fun bt149 => (if (shr .u64 (IntKind.u64.wrap (a0 - 1)) (ji17)) = 0 then ((proof_Nodes_skipFirst.f bt149.1 bt149.2.1 bt149.2.2.1 bt149.2.2.2.1 bt149.2.2.2.2).bind fun bt157 => (some (bt157.1, bt157.2.1, bt157.2.2.1, bt157.2.2.2.1, bt157.2.2.2.2, none))) else (some (bt149.1, bt149.2.1, bt149.2.2.1, bt149.2.2.2.1, bt149.2.2.2.2, none)))) else (none)) = some (r1, r2, r3, r4, r5, r6) := by first | (rw [hji17] at H; exact H) | (simp only [hji17] at H ⊢; exact H)
     (try rw [hji17] at A16)
     by_cases c18 : 0 ≤ (ji17)
     ·rw [if_pos c18] at H
      have c18b0 := eq_true c18
      have c18b1 : decide (0 ≤ (ji17)) = true := decide_eq_true c18
      clear c18
      obtain ⟨ji19, hji19⟩ : ∃ j_ : Int, (shr .u64 (IntKind.u64.wrap (a0 - 1)) (ji17)) = j_ := ⟨_, rfl⟩
      replace H : ((proof_nodes.f kj7 (ji19) (ji17) a1).bind fun bt149 => (if (ji19) = 0 then ((proof_Nodes_skipFirst.f bt149.1 bt149.2.1 bt149.2.2.1 bt149.2.2.2.1 bt149.2.2.2.2).bind fun bt157 => (some (bt157.1, bt157.2.1, bt157.2.2.1, bt157.2.2.2.1, bt157.2.2.2.2, none))) else (some (bt149.1, bt149.2.1, bt149.2.2.1, bt149.2.2.2.1, bt149.2.2.2.2, none)))) = some (r1, r2, r3, r4, r5, r6) := by first | (rw [hji19] at H; exact H) | (simp only [hji19] at H ⊢; exact H)
      (try rw [hji19] at A16)
      have hji19_ : ((IntKind.u64.wrap (a0 - 1)) / 2 ^ min (ji17).toNat 64) = ji19 := hji19
      have hji19z : (ji17) ≤ 64 → ((IntKind.u64.wrap (a0 - 1)) / 2 ^ (ji17).toNat) = ji19 := shr_small hji19
      replace H := Option.bind_eq_some_iff.mp H
      obtain ⟨⟨t149, t152, t153, t154, t155⟩, A200, H⟩ := H
      replace H : (if (ji19) = 0 then ((proof_Nodes_skipFirst.f t149 t152 t153 t154 t155).bind fun bt157 => (some (bt157.1, bt157.2.1, bt157.2.2.1, bt157.2.2.2.1, bt157.2.2.2.2, none))) else (some (t149, t152, t153, t154, t155, none))) = some (r1, r2, r3, r4, r5, r6) := H
      have A20 := Aside0.mk A200
      clear A200
      by_cases c21 : (ji19) = 0
      ·rw [if_pos c21] at H
       have c21b0 : ((ji19) == 0) = true := beq_iff_eq.mpr c21
       have c21b1 : ((ji19) != 0) = false := bne_eq_false_iff_eq.mpr c21
       clear c21
       replace H := Option.bind_eq_some_iff.mp H
       obtain ⟨⟨t157, t160, t161, t162, t163⟩, A220, H⟩ := H
       replace H : (some (t157, t160, t161, t162, t163, none)) = some (r1, r2, r3, r4, r5, r6) := H
       have A22 := Aside0.mk A220
       clear A220
       simp only [Option.some.injEq, Prod.mk.injEq] at H
       obtain ⟨rfl, rfl, rfl, rfl, rfl, rfl⟩ := H
       go_wp2_with (first | ((with_reducible refine gate_callee (f := 83) rfl ?_); refine goesL_ (some 24) rfl rfl Tryd.func83 (by kernel_rfl) rfl #[.int .u64 a0] rfl aV ?_; (with_reducible refine (bits_TrailingZeros64.calls a0 t148 _ ?side1 A16.out).mono ?_); (case side1 => exact TabOK.below HT.out bB); rintro e w' ⟨rfl, ⟨nd, rfl⟩⟩; refine ⟨_, rfl, ?_⟩; (try (rw [drewN_self wc]; generalize hq_ : World.drewN wc _ = wc; have n0_ : Aside0 (wc.heap[gb143]? = some (.cells #[.slice none 0 0, .int .i64 0, .int .i64 0, .int .u64 0, .int .u64 0] 122 (0, 0))) := ⟨by rw [← hq_]; exact (kB BK143.out)⟩; have n1_ : Aside0 (Below w.heap.size w wc) := ⟨by rw [← hq_]; exact bB⟩; clear BK143 HB hq_; have BK143 := n0_; have HB := n1_; clear n0_ n1_))) | ((with_reducible refine gate_callee (f := 102) rfl ?_); refine goesL_ (some 33) rfl rfl Tryd.func102 (by kernel_rfl) rfl #[.int .u64 ji19, .int .u64 ji17, .int .u64 a1] rfl (by (try simp only [List.map_toArray, List.map_cons, List.map_nil]); first | done | (simp only [hji17, hji19]; rfl) | rfl | (simp only [List.length_drop, List.length_take]; rfl)) ?_; (with_reducible refine (proof_nodes.calls kj7 ji19 ji17 a1 t149 t152 t153 t154 t155 _ ?side1 A20.out).mono ?_); (case side1 => exact TabOK.below HT.out bB); rintro e w23 ⟨v150, rfl, ho0, hb⟩; refine ⟨_, rfl, ?_⟩; have n0_ := Aside0.mk (Kd.R_lower (Kd.R_newM (M := fun k_ => (w.heap.size ≤ k_)) ho0 (below_size bB) (fun k_ h_ => h_)) (below_size bB)); have n1_ := Aside0.mk (blk_below (g := gb143) (o := .cells #[.slice none 0 0, .int .i64 0, .int .i64 0, .int .u64 0, .int .u64 0] 122 (0, 0)) (kB BK143.out) hb); have n2_ := Aside0.mk (below_step bB hb); clear BK143; clear HB; have HO151 := n0_; have BK143 := n1_; have HB := n2_; clear n0_ n1_ n2_; (try clear hb); (try clear hb2); (try clear hk); (try clear hi); (try clear ho0)) | ((with_reducible refine gate_dst (N := 8) rfl ?_); refine box_event ?hg (N := 8) ?hd (cs := #[.slice none 0 0, .int .i64 0, .int .i64 0, .int .u64 0, .int .u64 0]) (t := 122) ?hr ?_; (case hd => rfl); (case hg => rfl); (case hr => first | (go_simp; done) | (go_simp; rfl)); intro gb156 hg w24 hbox hb; have n0_ := Aside0.mk (Kd.R_below (kR HO151.out) hb); have n1_ := Aside0.mk (blk_below (g := gb143) (o := .cells #[.slice none 0 0, .int .i64 0, .int .i64 0, .int .u64 0, .int .u64 0] 122 (0, 0)) (kB BK143.out) hb); have n2_ := Aside0.mk (below_step bB hb); have n3_ := Aside0.mk (hbox); have n4_ := Aside0.mk ((by rw [hg]; exact (below_size bB) : w.heap.size ≤ gb156)); have n5_ := Aside0.mk ((by rw [hg]; exact (below_size bB) : w.heap.size ≤ gb156)); have n6_ := Aside0.mk ((by rw [hg]; exact Nat.ne_of_lt (blk_lt (g := gb143) (o := .cells #[.slice none 0 0, .int .i64 0, .int .i64 0, .int .u64 0, .int .u64 0] 122 (0, 0)) (kB BK143.out)) : gb143 ≠ gb156)); have n7_ := Aside0.mk ((by rw [hg]; exact Nat.ne_of_gt (blk_lt (g := gb143) (o := .cells #[.slice none 0 0, .int .i64 0, .int .i64 0, .int .u64 0, .int .u64 0] 122 (0, 0)) (kB BK143.out)) : gb156 ≠ gb143)); clear HO151; clear BK143; clear HB; have HO151 := n0_; have BK143 := n1_; have HB := n2_; have BK156 := n3_; have GW156 := n4_; have GE156 := n5_; have NB143_156 := n6_; have NB156_143 := n7_; clear n0_ n1_ n2_ n3_ n4_ n5_ n6_ n7_; clear hb hbox hg; obtain ⟨Ao25, co25, eo25⟩ := Kd.R_slice HO151.out; subst eo25; have hnb26 := NB156_143.out; have hnc26 := NB143_156.out; have hcz27_0 : w24.cell? ⟨gb156, 0, none⟩ = some (.slice none 0 0) := (blk_cell BK156.out 0).trans rfl; have hcz27_1 : w24.cell? ⟨gb156, 1, none⟩ = some (.int .i64 0) := (blk_cell BK156.out 1).trans rfl; have hcz27_2 : w24.cell? ⟨gb156, 2, none⟩ = some (.int .i64 0) := (blk_cell BK156.out 2).trans rfl; have hcz27_3 : w24.cell? ⟨gb156, 3, none⟩ = some (.int .u64 0) := (blk_cell BK156.out 3).trans rfl; have hcz27_4 : w24.cell? ⟨gb156, 4, none⟩ = some (.int .u64 0) := (blk_cell BK156.out 4).trans rfl; have hfz27_0 := blk_frozen BK156.out 0; have hfz27_1 := blk_frozen BK156.out 1; have hfz27_2 := blk_frozen BK156.out 2; have hfz27_3 := blk_frozen BK156.out 3; have hfz27_4 := blk_frozen BK156.out 4) | ((with_reducible refine gate_store (t := 122) (p := 8) rfl ?_); refine store_event (t := 122) (p := 8) (v := ?vo_w28) (w1 := (((((w24.setCell ⟨gb156, 0, none⟩ (.slice Ao25 t149.length co25)).setCell ⟨gb156, 1, none⟩ (.int .i64 t152)).setCell ⟨gb156, 2, none⟩ (.int .i64 t153)).setCell ⟨gb156, 3, none⟩ (.int .u64 t154)).setCell ⟨gb156, 4, none⟩ (.int .u64 t155))) ?hg ?ho ?hn ?hr ?_; (case ho => rfl); (case hg => rfl); (case hn => rfl); (case hr => first | (go_simp; done) | (go_simp; rfl)); intro w28 hw; have n0_ : Aside0 (Kd.R k106 106 w28 w.heap.size (fun k_ => (w.heap.size ≤ k_)) (.slice Ao25 t149.length co25) t149) := ⟨(by rw [hw]; exact (by (with_reducible repeat (first | apply Kd.R_alloc | apply Kd.R_drewN | apply Kd.R_drew)); exact Kd.R_mono (Kd.R_far (p := ⟨gb156, 4, none⟩) (Kd.R_far (p := ⟨gb156, 3, none⟩) (Kd.R_far (p := ⟨gb156, 2, none⟩) (Kd.R_far (p := ⟨gb156, 1, none⟩) (Kd.R_far (p := ⟨gb156, 0, none⟩) (Kd.R_types HO151.out BK156.out (by decide)) (fun _ hk => hk.2) (.slice Ao25 t149.length co25)) (fun _ hk => hk.2) (.int .i64 t152)) (fun _ hk => hk.2) (.int .i64 t153)) (fun _ hk => hk.2) (.int .u64 t154)) (fun _ hk => hk.2) (.int .u64 t155)) (fun _ hk => hk.1.1)))⟩; have n1_ : Aside0 (w28.heap[gb143]? = some (.cells #[.slice none 0 0, .int .i64 0, .int .i64 0, .int .u64 0, .int .u64 0] 122 (0, 0))) := ⟨(by rw [hw]; exact (by (with_reducible repeat (first | refine blk_drewN ?_ _ | refine blk_drew ?_ | refine blk_alloc ?_ _)); refine blk_far ?_ NB143_156.out _; (with_reducible repeat (first | refine blk_drewN ?_ _ | refine blk_drew ?_ | refine blk_alloc ?_ _)); refine blk_far ?_ NB143_156.out _; (with_reducible repeat (first | refine blk_drewN ?_ _ | refine blk_drew ?_ | refine blk_alloc ?_ _)); refine blk_far ?_ NB143_156.out _; (with_reducible repeat (first | refine blk_drewN ?_ _ | refine blk_drew ?_ | refine blk_alloc ?_ _)); refine blk_far ?_ NB143_156.out _; (with_reducible repeat (first | refine blk_drewN ?_ _ | refine blk_drew ?_ | refine blk_alloc ?_ _)); refine blk_far ?_ NB143_156.out _; (with_reducible repeat (first | refine blk_drewN ?_ _ | refine blk_drew ?_ | refine blk_alloc ?_ _)); exact BK143.out))⟩; have n2_ : Aside0 (w28.heap[gb156]? = some (.cells #[.slice Ao25 t149.length co25, .int .i64 t152, .int .i64 t153, .int .u64 t154, .int .u64 t155] 122 (0, 0))) := ⟨(by rw [hw]; exact (by (with_reducible repeat (first | refine blk_drewN ?_ _ | refine blk_drew ?_ | refine blk_alloc ?_ _)); refine blk_put (cs := #[.slice Ao25 t149.length co25, .int .i64 t152, .int .i64 t153, .int .u64 t154, .int .u64 0]) ?_ 4 _ rfl; (with_reducible repeat (first | refine blk_drewN ?_ _ | refine blk_drew ?_ | refine blk_alloc ?_ _)); refine blk_put (cs := #[.slice Ao25 t149.length co25, .int .i64 t152, .int .i64 t153, .int .u64 0, .int .u64 0]) ?_ 3 _ rfl; (with_reducible repeat (first | refine blk_drewN ?_ _ | refine blk_drew ?_ | refine blk_alloc ?_ _)); refine blk_put (cs := #[.slice Ao25 t149.length co25, .int .i64 t152, .int .i64 0, .int .u64 0, .int .u64 0]) ?_ 2 _ rfl; (with_reducible repeat (first | refine blk_drewN ?_ _ | refine blk_drew ?_ | refine blk_alloc ?_ _)); refine blk_put (cs := #[.slice Ao25 t149.length co25, .int .i64 0, .int .i64 0, .int .u64 0, .int .u64 0]) ?_ 1 _ rfl; (with_reducible repeat (first | refine blk_drewN ?_ _ | refine blk_drew ?_ | refine blk_alloc ?_ _)); refine blk_put (cs := #[.slice none 0 0, .int .i64 0, .int .i64 0, .int .u64 0, .int .u64 0]) ?_ 0 _ rfl; (with_reducible repeat (first | refine blk_drewN ?_ _ | refine blk_drew ?_ | refine blk_alloc ?_ _)); exact BK156.out))⟩; have n3_ : Aside0 (Below w.heap.size w w28) := ⟨(by rw [hw]; exact bB)⟩; clear hw; clear HO151; clear BK143; clear BK156; clear HB; have HO151 := n0_; have BK143 := n1_; have BK156 := n2_; have HB := n3_; clear n0_ n1_ n2_ n3_; have hcz29_0 : w28.cell? ⟨gb156, 0, none⟩ = some (.slice Ao25 t149.length co25) := (blk_cell BK156.out 0).trans rfl; have hcz29_1 : w28.cell? ⟨gb156, 1, none⟩ = some (.int .i64 t152) := (blk_cell BK156.out 1).trans rfl; have hcz29_2 : w28.cell? ⟨gb156, 2, none⟩ = some (.int .i64 t153) := (blk_cell BK156.out 2).trans rfl; have hcz29_3 : w28.cell? ⟨gb156, 3, none⟩ = some (.int .u64 t154) := (blk_cell BK156.out 3).trans rfl; have hcz29_4 : w28.cell? ⟨gb156, 4, none⟩ = some (.int .u64 t155) := (blk_cell BK156.out 4).trans rfl; have hfz29_0 := blk_frozen BK156.out 0; have hfz29_1 := blk_frozen BK156.out 1; have hfz29_2 := blk_frozen BK156.out 2; have hfz29_3 := blk_frozen BK156.out 3; have hfz29_4 := blk_frozen BK156.out 4) | ((with_reducible refine gate_callee (f := 103) rfl ?_); refine goesL_ (some 37) rfl rfl Tryd.func103 (by kernel_rfl) rfl #[.agg #[.slice Ao25 t149.length co25, .int .i64 t152, .int .i64 t153, .int .u64 t154, .int .u64 t155]] rfl aV ?_; (with_reducible refine (proof_Nodes_skipFirst.calls (fun k_ => some k_ = (.slice Ao25 t149.length co25 : Value).ownBlock) _ _ t149 t152 t153 t154 t155 t157 t160 t161 t162 t163 _ ?side1 A22.out).mono ?_); (case side1 => first | exact Kd.R_V (Kd.R_tight rfl (Kd.R_types (Kd.R_types (HO151.out) BK143.out (by decide)) BK156.out (by decide))) | exact Kd.V_mono Kd.R_V (Kd.R_tight rfl (Kd.R_types (Kd.R_types (HO151.out) BK143.out (by decide)) BK156.out (by decide))) (fun k_ h_ => by simp only [and_assoc] at h_ ⊢; exact h_)); rintro e w30 ⟨v158, rfl, ho0, hb⟩; refine ⟨_, rfl, ?_⟩; have n0_ := Aside0.mk (Kd.R_below (kR HO151.out) hb); have n1_ := Aside0.mk (Kd.V_lower (Kd.V_mono (ok' := fun k_ => (w.heap.size ≤ k_) ∧ k_ ≠ gb143 ∧ k_ ≠ gb156) ho0 (fun k_ hk_ => ⟨Or.elim hk_ (fun hs_ => ((Kd.R_types (Kd.R_types (HO151.out) BK143.out (by decide)) BK156.out (by decide)).1 k_ hs_.symm).1.1) (fun hn_ => (Nat.le_trans (below_size bB) hn_)), Or.elim hk_ (fun hs_ => ((Kd.R_types (Kd.R_types (HO151.out) BK143.out (by decide)) BK156.out (by decide)).1 k_ hs_.symm).1.2) (fun hn_ => (Kd.freshB (g := gb143) (o := .cells #[.slice none 0 0, .int .i64 0, .int .i64 0, .int .u64 0, .int .u64 0] 122 (0, 0)) (kB BK143.out) k_ hn_)), Or.elim hk_ (fun hs_ => ((Kd.R_types (Kd.R_types (HO151.out) BK143.out (by decide)) BK156.out (by decide)).1 k_ hs_.symm).2) (fun hn_ => (Kd.freshB (g := gb156) (o := .cells #[.slice Ao25 t149.length co25, .int .i64 t152, .int .i64 t153, .int .u64 t154, .int .u64 t155] 122 (0, 0)) (kB BK156.out) k_ hn_))⟩)) (below_size bB)); have n2_ := Aside0.mk (blk_below (g := gb143) (o := .cells #[.slice none 0 0, .int .i64 0, .int .i64 0, .int .u64 0, .int .u64 0] 122 (0, 0)) (kB BK143.out) hb); have n3_ := Aside0.mk (blk_below (g := gb156) (o := .cells #[.slice Ao25 t149.length co25, .int .i64 t152, .int .i64 t153, .int .u64 t154, .int .u64 t155] 122 (0, 0)) (kB BK156.out) hb); have n4_ := Aside0.mk (below_step bB hb); clear HO151; clear BK143; clear BK156; clear HB; have HO151 := n0_; have HO159 := n1_; have BK143 := n2_; have BK156 := n3_; have HB := n4_; clear n0_ n1_ n2_ n3_ n4_; (try clear hb); (try clear hb2); (try clear hk); (try clear hi); (try clear ho0); obtain ⟨Ao31, co31, eo31⟩ := Kd.V_slice HO159.out; subst eo31; have hcz32_0 : w30.cell? ⟨gb143, 0, none⟩ = some (.slice none 0 0) := (blk_cell BK143.out 0).trans rfl; have hcz32_1 : w30.cell? ⟨gb143, 1, none⟩ = some (.int .i64 0) := (blk_cell BK143.out 1).trans rfl; have hcz32_2 : w30.cell? ⟨gb143, 2, none⟩ = some (.int .i64 0) := (blk_cell BK143.out 2).trans rfl; have hcz32_3 : w30.cell? ⟨gb143, 3, none⟩ = some (.int .u64 0) := (blk_cell BK143.out 3).trans rfl; have hcz32_4 : w30.cell? ⟨gb143, 4, none⟩ = some (.int .u64 0) := (blk_cell BK143.out 4).trans rfl; have hfz32_0 := blk_frozen BK143.out 0; have hfz32_1 := blk_frozen BK143.out 1; have hfz32_2 := blk_frozen BK143.out 2; have hfz32_3 := blk_frozen BK143.out 3; have hfz32_4 := blk_frozen BK143.out 4))
       refine bodyPost_ret (results_ct rfl _ _ gb143 122 #[.slice Ao31 t157.length co31, .int .i64 t160, .int .i64 t161, .int .u64 t162, .int .u64 t163] (0, 0) _ rfl (by (with_reducible repeat (first | refine blk_drewN ?_ _ | refine blk_drew ?_ | refine blk_alloc ?_ _)); refine blk_put (cs := #[.slice Ao31 t157.length co31, .int .i64 t160, .int .i64 t161, .int .u64 t162, .int .u64 0]) ?_ 4 _ rfl; (with_reducible repeat (first | refine blk_drewN ?_ _ | refine blk_drew ?_ | refine blk_alloc ?_ _)); refine blk_put (cs := #[.slice Ao31 t157.length co31, .int .i64 t160, .int .i64 t161, .int .u64 0, .int .u64 0]) ?_ 3 _ rfl; (with_reducible repeat (first | refine blk_drewN ?_ _ | refine blk_drew ?_ | refine blk_alloc ?_ _)); refine blk_put (cs := #[.slice Ao31 t157.length co31, .int .i64 t160, .int .i64 0, .int .u64 0, .int .u64 0]) ?_ 2 _ rfl; (with_reducible repeat (first | refine blk_drewN ?_ _ | refine blk_drew ?_ | refine blk_alloc ?_ _)); refine blk_put (cs := #[.slice Ao31 t157.length co31, .int .i64 0, .int .i64 0, .int .u64 0, .int .u64 0]) ?_ 1 _ rfl; (with_reducible repeat (first | refine blk_drewN ?_ _ | refine blk_drew ?_ | refine blk_alloc ?_ _)); refine blk_put (cs := #[.slice none 0 0, .int .i64 0, .int .i64 0, .int .u64 0, .int .u64 0]) ?_ 0 _ rfl; (with_reducible repeat (first | refine blk_drewN ?_ _ | refine blk_drew ?_ | refine blk_alloc ?_ _)); exact BK143.out) Tryd.underlying122 rfl (by kernel_rfl)) rfl ?_
       exact ⟨(fun _ => 0), (fun _ => .nilIface), _, by first | rfl | (simp [errW_none, errW_some] <;> rfl) | (simp only [← hji17, ← hji19]; first | rfl | (simp [errW_none, errW_some] <;> rfl)) | (simp [*, errW_none, errW_some] <;> rfl), by (with_reducible repeat (first | apply Kd.V_alloc | apply Kd.V_drewN | apply Kd.V_drew)); exact Kd.V_mono (Kd.V_far (p := ⟨gb143, 4, none⟩) (Kd.V_far (p := ⟨gb143, 3, none⟩) (Kd.V_far (p := ⟨gb143, 2, none⟩) (Kd.V_far (p := ⟨gb143, 1, none⟩) (Kd.V_far (p := ⟨gb143, 0, none⟩) (Kd.V_mono HO159.out (fun k_ hk => (⟨hk, hk.2.1⟩ : _ ∧ k_ ≠ gb143))) (fun _ hk => hk.2) (.slice Ao31 t157.length co31)) (fun _ hk => hk.2) (.int .i64 t160)) (fun _ hk => hk.2) (.int .i64 t161)) (fun _ hk => hk.2) (.int .u64 t162)) (fun _ hk => hk.2) (.int .u64 t163)) (fun _ hk => hk.1.1), bB⟩
      ·rw [if_neg c21] at H
       have c21b0 : ((ji19) == 0) = false := beq_eq_false_iff_ne.mpr c21
       have c21b1 : ((ji19) != 0) = true := bne_iff_ne.mpr c21
       simp only [Option.some.injEq, Prod.mk.injEq] at H
       obtain ⟨rfl, rfl, rfl, rfl, rfl, rfl⟩ := H
       go_wp2_with (first | ((with_reducible refine gate_callee (f := 83) rfl ?_); refine goesL_ (some 24) rfl rfl Tryd.func83 (by kernel_rfl) rfl #[.int .u64 a0] rfl aV ?_; (with_reducible refine (bits_TrailingZeros64.calls a0 t148 _ ?side1 A16.out).mono ?_); (case side1 => exact TabOK.below HT.out bB); rintro e w' ⟨rfl, ⟨nd, rfl⟩⟩; refine ⟨_, rfl, ?_⟩; (try (rw [drewN_self wc]; generalize hq_ : World.drewN wc _ = wc; have n0_ : Aside0 (wc.heap[gb143]? = some (.cells #[.slice none 0 0, .int .i64 0, .int .i64 0, .int .u64 0, .int .u64 0] 122 (0, 0))) := ⟨by rw [← hq_]; exact (kB BK143.out)⟩; have n1_ : Aside0 (Below w.heap.size w wc) := ⟨by rw [← hq_]; exact bB⟩; clear BK143 HB hq_; have BK143 := n0_; have HB := n1_; clear n0_ n1_))) | ((with_reducible refine gate_callee (f := 102) rfl ?_); refine goesL_ (some 33) rfl rfl Tryd.func102 (by kernel_rfl) rfl #[.int .u64 ji19, .int .u64 ji17, .int .u64 a1] rfl (by (try simp only [List.map_toArray, List.map_cons, List.map_nil]); first | done | (simp only [hji17, hji19]; rfl) | rfl | (simp only [List.length_drop, List.length_take]; rfl)) ?_; (with_reducible refine (proof_nodes.calls kj7 ji19 ji17 a1 t149 t152 t153 t154 t155 _ ?side1 A20.out).mono ?_); (case side1 => exact TabOK.below HT.out bB); rintro e w33 ⟨v150, rfl, ho0, hb⟩; refine ⟨_, rfl, ?_⟩; have n0_ := Aside0.mk (Kd.R_lower (Kd.R_newM (M := fun k_ => (w.heap.size ≤ k_)) ho0 (below_size bB) (fun k_ h_ => h_)) (below_size bB)); have n1_ := Aside0.mk (blk_below (g := gb143) (o := .cells #[.slice none 0 0, .int .i64 0, .int .i64 0, .int .u64 0, .int .u64 0] 122 (0, 0)) (kB BK143.out) hb); have n2_ := Aside0.mk (below_step bB hb); clear BK143; clear HB; have HO151 := n0_; have BK143 := n1_; have HB := n2_; clear n0_ n1_ n2_; (try clear hb); (try clear hb2); (try clear hk); (try clear hi); (try clear ho0)) | ((with_reducible refine gate_dst (N := 8) rfl ?_); refine box_event ?hg (N := 8) ?hd (cs := #[.slice none 0 0, .int .i64 0, .int .i64 0, .int .u64 0, .int .u64 0]) (t := 122) ?hr ?_; (case hd => rfl); (case hg => rfl); (case hr => first | (go_simp; done) | (go_simp; rfl)); intro gb156 hg w34 hbox hb; have n0_ := Aside0.mk (Kd.R_below (kR HO151.out) hb); have n1_ := Aside0.mk (blk_below (g := gb143) (o := .cells #[.slice none 0 0, .int .i64 0, .int .i64 0, .int .u64 0, .int .u64 0] 122 (0, 0)) (kB BK143.out) hb); have n2_ := Aside0.mk (below_step bB hb); have n3_ := Aside0.mk (hbox); have n4_ := Aside0.mk ((by rw [hg]; exact (below_size bB) : w.heap.size ≤ gb156)); have n5_ := Aside0.mk ((by rw [hg]; exact (below_size bB) : w.heap.size ≤ gb156)); have n6_ := Aside0.mk ((by rw [hg]; exact Nat.ne_of_lt (blk_lt (g := gb143) (o := .cells #[.slice none 0 0, .int .i64 0, .int .i64 0, .int .u64 0, .int .u64 0] 122 (0, 0)) (kB BK143.out)) : gb143 ≠ gb156)); have n7_ := Aside0.mk ((by rw [hg]; exact Nat.ne_of_gt (blk_lt (g := gb143) (o := .cells #[.slice none 0 0, .int .i64 0, .int .i64 0, .int .u64 0, .int .u64 0] 122 (0, 0)) (kB BK143.out)) : gb156 ≠ gb143)); clear HO151; clear BK143; clear HB; have HO151 := n0_; have BK143 := n1_; have HB := n2_; have BK156 := n3_; have GW156 := n4_; have GE156 := n5_; have NB143_156 := n6_; have NB156_143 := n7_; clear n0_ n1_ n2_ n3_ n4_ n5_ n6_ n7_; clear hb hbox hg; obtain ⟨Ao35, co35, eo35⟩ := Kd.R_slice HO151.out; subst eo35; have hnb36 := NB156_143.out; have hnc36 := NB143_156.out; have hcz37_0 : w34.cell? ⟨gb156, 0, none⟩ = some (.slice none 0 0) := (blk_cell BK156.out 0).trans rfl; have hcz37_1 : w34.cell? ⟨gb156, 1, none⟩ = some (.int .i64 0) := (blk_cell BK156.out 1).trans rfl; have hcz37_2 : w34.cell? ⟨gb156, 2, none⟩ = some (.int .i64 0) := (blk_cell BK156.out 2).trans rfl; have hcz37_3 : w34.cell? ⟨gb156, 3, none⟩ = some (.int .u64 0) := (blk_cell BK156.out 3).trans rfl; have hcz37_4 : w34.cell? ⟨gb156, 4, none⟩ = some (.int .u64 0) := (blk_cell BK156.out 4).trans rfl; have hfz37_0 := blk_frozen BK156.out 0; have hfz37_1 := blk_frozen BK156.out 1; have hfz37_2 := blk_frozen BK156.out 2; have hfz37_3 := blk_frozen BK156.out 3; have hfz37_4 := blk_frozen BK156.out 4; have hcz38_0 : w34.cell? ⟨gb143, 0, none⟩ = some (.slice none 0 0) := (blk_cell BK143.out 0).trans rfl; have hcz38_1 : w34.cell? ⟨gb143, 1, none⟩ = some (.int .i64 0) := (blk_cell BK143.out 1).trans rfl; have hcz38_2 : w34.cell? ⟨gb143, 2, none⟩ = some (.int .i64 0) := (blk_cell BK143.out 2).trans rfl; have hcz38_3 : w34.cell? ⟨gb143, 3, none⟩ = some (.int .u64 0) := (blk_cell BK143.out 3).trans rfl; have hcz38_4 : w34.cell? ⟨gb143, 4, none⟩ = some (.int .u64 0) := (blk_cell BK143.out 4).trans rfl; have hfz38_0 := blk_frozen BK143.out 0; have hfz38_1 := blk_frozen BK143.out 1; have hfz38_2 := blk_frozen BK143.out 2; have hfz38_3 := blk_frozen BK143.out 3; have hfz38_4 := blk_frozen BK143.out 4))
       refine bodyPost_ret (results_ct rfl _ _ gb143 122 #[.slice Ao35 t149.length co35, .int .i64 t152, .int .i64 t153, .int .u64 t154, .int .u64 t155] (0, 0) _ rfl (by (with_reducible repeat (first | refine blk_drewN ?_ _ | refine blk_drew ?_ | refine blk_alloc ?_ _)); refine blk_put (cs := #[.slice Ao35 t149.length co35, .int .i64 t152, .int .i64 t153, .int .u64 t154, .int .u64 0]) ?_ 4 _ rfl; (with_reducible repeat (first | refine blk_drewN ?_ _ | refine blk_drew ?_ | refine blk_alloc ?_ _)); refine blk_put (cs := #[.slice Ao35 t149.length co35, .int .i64 t152, .int .i64 t153, .int .u64 0, .int .u64 0]) ?_ 3 _ rfl; (with_reducible repeat (first | refine blk_drewN ?_ _ | refine blk_drew ?_ | refine blk_alloc ?_ _)); refine blk_put (cs := #[.slice Ao35 t149.length co35, .int .i64 t152, .int .i64 0, .int .u64 0, .int .u64 0]) ?_ 2 _ rfl; (with_reducible repeat (first | refine blk_drewN ?_ _ | refine blk_drew ?_ | refine blk_alloc ?_ _)); refine blk_put (cs := #[.slice Ao35 t149.length co35, .int .i64 0, .int .i64 0, .int .u64 0, .int .u64 0]) ?_ 1 _ rfl; (with_reducible repeat (first | refine blk_drewN ?_ _ | refine blk_drew ?_ | refine blk_alloc ?_ _)); refine blk_put (cs := #[.slice none 0 0, .int .i64 0, .int .i64 0, .int .u64 0, .int .u64 0]) ?_ 0 _ rfl; (with_reducible repeat (first | refine blk_drewN ?_ _ | refine blk_drew ?_ | refine blk_alloc ?_ _)); refine blk_far ?_ NB143_156.out _; (with_reducible repeat (first | refine blk_drewN ?_ _ | refine blk_drew ?_ | refine blk_alloc ?_ _)); refine blk_far ?_ NB143_156.out _; (with_reducible repeat (first | refine blk_drewN ?_ _ | refine blk_drew ?_ | refine blk_alloc ?_ _)); refine blk_far ?_ NB143_156.out _; (with_reducible repeat (first | refine blk_drewN ?_ _ | refine blk_drew ?_ | refine blk_alloc ?_ _)); refine blk_far ?_ NB143_156.out _; (with_reducible repeat (first | refine blk_drewN ?_ _ | refine blk_drew ?_ | refine blk_alloc ?_ _)); refine blk_far ?_ NB143_156.out _; (with_reducible repeat (first | refine blk_drewN ?_ _ | refine blk_drew ?_ | refine blk_alloc ?_ _)); exact BK143.out) Tryd.underlying122 rfl (by kernel_rfl)) rfl ?_
       exact ⟨(fun _ => 0), (fun _ => .nilIface), _, by first | rfl | (simp [errW_none, errW_some] <;> rfl) | (simp only [← hji17, ← hji19]; first | rfl | (simp [errW_none, errW_some] <;> rfl)) | (simp [*, errW_none, errW_some] <;> rfl), Kd.R_V (by (with_reducible repeat (first | apply Kd.R_alloc | apply Kd.R_drewN | apply Kd.R_drew)); exact Kd.R_mono (Kd.R_far (p := ⟨gb143, 4, none⟩) (Kd.R_far (p := ⟨gb143, 3, none⟩) (Kd.R_far (p := ⟨gb143, 2, none⟩) (Kd.R_far (p := ⟨gb143, 1, none⟩) (Kd.R_far (p := ⟨gb143, 0, none⟩) (Kd.R_far (p := ⟨gb156, 4, none⟩) (Kd.R_far (p := ⟨gb156, 3, none⟩) (Kd.R_far (p := ⟨gb156, 2, none⟩) (Kd.R_far (p := ⟨gb156, 1, none⟩) (Kd.R_far (p := ⟨gb156, 0, none⟩) (Kd.R_types (Kd.R_types HO151.out BK156.out (by decide)) BK143.out (by decide)) (fun _ hk => hk.1.2) (.slice Ao35 t149.length co35)) (fun _ hk => hk.1.2) (.int .i64 t152)) (fun _ hk => hk.1.2) (.int .i64 t153)) (fun _ hk => hk.1.2) (.int .u64 t154)) (fun _ hk => hk.1.2) (.int .u64 t155)) (fun _ hk => hk.2) (.slice Ao35 t149.length co35)) (fun _ hk => hk.2) (.int .i64 t152)) (fun _ hk => hk.2) (.int .i64 t153)) (fun _ hk => hk.2) (.int .u64 t154)) (fun _ hk => hk.2) (.int .u64 t155)) (fun _ hk => hk.1.1.1)), bB⟩
     ·rw [if_neg c18] at H
      exact absurd H (by simp)


/-! ### impl_fromProof: function 70 -/
def impl_fromProof.f (k : Nat) (l0_0 : List (S106)) (a0_1 : Int) (a0_2 : Int) (a0_3 : Int) (a0_4 : Int) : Option ((List (S54)) × Int × Int × Int × Int) := (proof_Nodes_Ephem.f l0_0 a0_1 a0_2 a0_3 a0_4).bind fun bt177 => ((impl_fromNodes.f k l0_0).bind fun t182 => ((impl_fromNode.f bt177.1 bt177.2.1).bind fun bt185 => (some (t182, bt185.1, bt185.2, bt177.2.2.1, bt177.2.2.2))))
theorem impl_fromProof.mono : ∀ a0 a1 a2 a3 a4 k, LeO (impl_fromProof.f k a0 a1 a2 a3 a4) (impl_fromProof.f (k + 1) a0 a1 a2 a3 a4) := by
 intro a0 a1 a2 a3 a4 k
 unfold impl_fromProof.f
 repeat' first
   | (with_reducible exact impl_fromNodes.mono _ _)
   | (with_reducible exact LeO.refl _)
   | (with_reducible exact LeO.none _)
   | (with_reducible refine LeO.ite ?_ ?_)
   | (with_reducible refine LeO.bind ?_ (fun _ => ?_))
   | exact impl_fromNodes.mono _ _
   | exact LeO.none _
   | refine LeO.ite ?_ ?_
   | refine LeO.bind ?_ (fun _ => ?_)
def impl_fromProof.T2 : Bool × List (List Nat × List Nat) := (true, [([], []), ([0], [0]), ([1], [1]), ([], []), ([3, 2], [3]), ([], []), ([], []), ([2, 4, 5, 6], [2, 4, 5, 6]), ([7, 4, 0, 1, 2, 3, 4, 5, 6, 7], [7])])
def impl_fromProof.B2 : List Nat := [0, 1, 3, 0, 15, 0, 0, 127, 255]
theorem impl_fromProof.tab2 : rtab .any (opsOf Tryd.f70 2) = impl_fromProof.T2 := by kernel_rfl
theorem impl_fromProof.bits2 : waitsOk impl_fromProof.T2.2 impl_fromProof.B2 = true := by kernel_rfl
set_option maxHeartbeats 8000000 in
set_option maxRecDepth 100000 in
theorem impl_fromProof.calls (k : Nat) (A0_0 : Option Addr) (c0_0 : Nat) (l0_0 : List (S106)) (a0_1 : Int) (a0_2 : Int) (a0_3 : Int) (a0_4 : Int) (r1 : List (S54)) (r2 : Int) (r3 : Int) (r4 : Int) (r5 : Int) (w : World) (hr0_0 : Kd.C k106 w A0_0 l0_0.length l0_0) (hc0_0 : l0_0.length ≤ c0_0) (h : impl_fromProof.f k l0_0 a0_1 a0_2 a0_3 a0_4 = some (r1, r2, r3, r4, r5)) :
  Calls Tryd.prog 70 #[.agg #[.slice A0_0 l0_0.length c0_0, .int .i64 a0_1, .int .i64 a0_2, .int .u64 a0_3, .int .u64 a0_4]] w fun e w' => ∃ v0_ : Value, e = .returned (.agg #[v0_, .int .u64 r2, .int .u64 r3, .int .i64 r4, .int .i64 r5]) ∧ Kd.R k54 54 w' w.heap.size (fun _ => True) v0_ r1 ∧ Below w.heap.size w w' := by
 have hu122 := Tryd.underlying122
 have hu68 := Tryd.underlying68
 have hu106 := Tryd.underlying106
 have HR0_0 := Aside0.mk hr0_0
 have HC0_0 := Aside0.mk hc0_0
 clear hr0_0 hc0_0
 have HB := Aside0.mk (Below.refl w.heap.size w)
 have H : ((proof_Nodes_Ephem.f l0_0 a0_1 a0_2 a0_3 a0_4).bind fun bt177 => ((impl_fromNodes.f k l0_0).bind fun t182 => ((impl_fromNode.f bt177.1 bt177.2.1).bind fun bt185 => (some (t182, bt185.1, bt185.2, bt177.2.2.1, bt177.2.2.2))))) = some (r1, r2, r3, r4, r5) := h
 clear h
 replace H := Option.bind_eq_some_iff.mp H
 obtain ⟨⟨t177, t178, t179, t180⟩, A20, H⟩ := H
 replace H : ((impl_fromNodes.f k l0_0).bind fun t182 => ((impl_fromNode.f t177 t178).bind fun bt185 => (some (t182, bt185.1, bt185.2, t179, t180)))) = some (r1, r2, r3, r4, r5) := H
 have A2 := Aside0.mk A20
 clear A20
 replace H := Option.bind_eq_some_iff.mp H
 obtain ⟨t182, A30, H⟩ := H
 replace H : ((impl_fromNode.f t177 t178).bind fun bt185 => (some (t182, bt185.1, bt185.2, t179, t180))) = some (r1, r2, r3, r4, r5) := H
 have A3 := Aside0.mk A30
 clear A30
 replace H := Option.bind_eq_some_iff.mp H
 obtain ⟨⟨t185, t186⟩, A40, H⟩ := H
 replace H : (some (t182, t185, t186, t179, t180)) = some (r1, r2, r3, r4, r5) := H
 have A4 := Aside0.mk A40
 clear A40
 simp only [Option.some.injEq, Prod.mk.injEq] at H
 obtain ⟨rfl, rfl, rfl, rfl, rfl⟩ := H
 go_enter Tryd.func70, Tryd.ntmps70
 try go_wp2_with (first | ((with_reducible refine gate_dst (N := 1) rfl ?_); refine box_event ?hg (N := 1) ?hd (cs := #[.slice A0_0 l0_0.length c0_0, .int .i64 a0_1, .int .i64 a0_2, .int .u64 a0_3, .int .u64 a0_4]) (t := 122) ?hr ?_; (case hd => rfl); (case hg => rfl); (case hr => first | (go_simp; done) | (go_simp; rfl)); intro gb175 hg w5 hbox hb; have n0_ := Aside0.mk (below_step bB hb); have n1_ := Aside0.mk (hbox); have n2_ := Aside0.mk ((by rw [hg]; exact (below_size bB) : w.heap.size ≤ gb175)); have n3_ := Aside0.mk ((by rw [hg]; exact (below_size bB) : w.heap.size ≤ gb175)); clear HB; have HB := n0_; have BK175 := n1_; have GW175 := n2_; have GE175 := n3_; clear n0_ n1_ n2_ n3_; clear hb hbox hg) | ((with_reducible refine gate_dst (N := 2) rfl ?_); refine box_event ?hg (N := 2) ?hd (cs := #[.slice none 0 0, .int .u64 0, .int .u64 0, .int .i64 0, .int .i64 0]) (t := 68) ?hr ?_; (case hd => rfl); (case hg => rfl); (case hr => first | (go_simp; done) | (go_simp; rfl)); intro gb176 hg w6 hbox hb; have n0_ := Aside0.mk (blk_below (g := gb175) (o := .cells #[.slice A0_0 l0_0.length c0_0, .int .i64 a0_1, .int .i64 a0_2, .int .u64 a0_3, .int .u64 a0_4] 122 (0, 0)) (kB BK175.out) hb); have n1_ := Aside0.mk (below_step bB hb); have n2_ := Aside0.mk (hbox); have n3_ := Aside0.mk ((by rw [hg]; exact (below_size bB) : w.heap.size ≤ gb176)); have n4_ := Aside0.mk ((by rw [hg]; exact (below_size bB) : w.heap.size ≤ gb176)); have n5_ := Aside0.mk ((by rw [hg]; exact Nat.ne_of_lt (blk_lt (g := gb175) (o := .cells #[.slice A0_0 l0_0.length c0_0, .int .i64 a0_1, .int .i64 a0_2, .int .u64 a0_3, .int .u64 a0_4] 122 (0, 0)) (kB BK175.out)) : gb175 ≠ gb176)); have n6_ := Aside0.mk ((by rw [hg]; exact Nat.ne_of_gt (blk_lt (g := gb175) (o := .cells #[.slice A0_0 l0_0.length c0_0, .int .i64 a0_1, .int .i64 a0_2, .int .u64 a0_3, .int .u64 a0_4] 122 (0, 0)) (kB BK175.out)) : gb176 ≠ gb175)); clear BK175; clear HB; have BK175 := n0_; have HB := n1_; have BK176 := n2_; have GW176 := n3_; have GE176 := n4_; have NB175_176 := n5_; have NB176_175 := n6_; clear n0_ n1_ n2_ n3_ n4_ n5_ n6_; clear hb hbox hg; have hnb7 := NB175_176.out; have hnc7 := NB176_175.out; have hcz8_0 : w6.cell? ⟨gb175, 0, none⟩ = some (.slice A0_0 l0_0.length c0_0) := (blk_cell BK175.out 0).trans rfl; have hcz8_1 : w6.cell? ⟨gb175, 1, none⟩ = some (.int .i64 a0_1) := (blk_cell BK175.out 1).trans rfl; have hcz8_2 : w6.cell? ⟨gb175, 2, none⟩ = some (.int .i64 a0_2) := (blk_cell BK175.out 2).trans rfl; have hcz8_3 : w6.cell? ⟨gb175, 3, none⟩ = some (.int .u64 a0_3) := (blk_cell BK175.out 3).trans rfl; have hcz8_4 : w6.cell? ⟨gb175, 4, none⟩ = some (.int .u64 a0_4) := (blk_cell BK175.out 4).trans rfl; have hfz8_0 := blk_frozen BK175.out 0; have hfz8_1 := blk_frozen BK175.out 1; have hfz8_2 := blk_frozen BK175.out 2; have hfz8_3 := blk_frozen BK175.out 3; have hfz8_4 := blk_frozen BK175.out 4) | ((with_reducible refine gate_callee (f := 104) rfl ?_); refine goesL_ (some 8) rfl rfl Tryd.func104 (by kernel_rfl) rfl #[.agg #[.slice A0_0 l0_0.length c0_0, .int .i64 a0_1, .int .i64 a0_2, .int .u64 a0_3, .int .u64 a0_4]] rfl aV ?_; (with_reducible refine (proof_Nodes_Ephem.calls _ _ l0_0 a0_1 a0_2 a0_3 a0_4 t177 t178 t179 t180 _ ?side1 ?side2 A2.out).mono ?_); (case side1 => repeat (first | exact (Kd.C_below HR0_0.out HB.out) | (with_reducible refine Kd.C_alloc ?_ _) | (with_reducible refine Kd.C_drewN ?_ _) | (with_reducible refine Kd.C_drew ?_))); (case side2 => exact HC0_0.out); rintro e w9 ⟨rfl, hb⟩; refine ⟨_, rfl, ?_⟩; have n0_ := Aside0.mk (blk_below (g := gb175) (o := .cells #[.slice A0_0 l0_0.length c0_0, .int .i64 a0_1, .int .i64 a0_2, .int .u64 a0_3, .int .u64 a0_4] 122 (0, 0)) (kB BK175.out) hb); have n1_ := Aside0.mk (blk_below (g := gb176) (o := .cells #[.slice none 0 0, .int .u64 0, .int .u64 0, .int .i64 0, .int .i64 0] 68 (0, 0)) (kB BK176.out) hb); have n2_ := Aside0.mk (below_step bB hb); clear BK175; clear BK176; clear HB; have BK175 := n0_; have BK176 := n1_; have HB := n2_; clear n0_ n1_ n2_; (try clear hb); (try clear hb2); (try clear hk); (try clear hi)) | ((with_reducible refine gate_dst (N := 3) rfl ?_); refine box_event ?hg (N := 3) ?hd (cs := #[.int .u64 0, .int .u64 0]) (t := 106) ?hr ?_; (case hd => rfl); (case hg => rfl); (case hr => first | (go_simp; done) | (go_simp; rfl)); intro gb181 hg w10 hbox hb; have n0_ := Aside0.mk (blk_below (g := gb175) (o := .cells #[.slice A0_0 l0_0.length c0_0, .int .i64 a0_1, .int .i64 a0_2, .int .u64 a0_3, .int .u64 a0_4] 122 (0, 0)) (kB BK175.out) hb); have n1_ := Aside0.mk (blk_below (g := gb176) (o := .cells #[.slice none 0 0, .int .u64 0, .int .u64 0, .int .i64 0, .int .i64 0] 68 (0, 0)) (kB BK176.out) hb); have n2_ := Aside0.mk (below_step bB hb); have n3_ := Aside0.mk (hbox); have n4_ := Aside0.mk ((by rw [hg]; exact (below_size bB) : w.heap.size ≤ gb181)); have n5_ := Aside0.mk ((by rw [hg]; exact (below_size bB) : w.heap.size ≤ gb181)); have n6_ := Aside0.mk ((by rw [hg]; exact Nat.ne_of_lt (blk_lt (g := gb175) (o := .cells #[.slice A0_0 l0_0.length c0_0, .int .i64 a0_1, .int .i64 a0_2, .int .u64 a0_3, .int .u64 a0_4] 122 (0, 0)) (kB BK175.out)) : gb175 ≠ gb181)); have n7_ := Aside0.mk ((by rw [hg]; exact Nat.ne_of_gt (blk_lt (g := gb175) (o := .cells #[.slice A0_0 l0_0.length c0_0, .int .i64 a0_1, .int .i64 a0_2, .int .u64 a0_3, .int .u64 a0_4] 122 (0, 0)) (kB BK175.out)) : gb181 ≠ gb175)); have n8_ := Aside0.mk ((by rw [hg]; exact Nat.ne_of_lt (blk_lt (g := gb176) (o := .cells #[.slice none 0 0, .int .u64 0, .int .u64 0, .int .i64 0, .int .i64 0] 68 (0, 0)) (kB BK176.out)) : gb176 ≠ gb181)); have n9_ := Aside0.mk ((by rw [hg]; exact Nat.ne_of_gt (blk_lt (g := gb176) (o := .cells #[.slice none 0 0, .int .u64 0, .int .u64 0, .int .i64 0, .int .i64 0] 68 (0, 0)) (kB BK176.out)) : gb181 ≠ gb176)); clear BK175; clear BK176; clear HB; have BK175 := n0_; have BK176 := n1_; have HB := n2_; have BK181 := n3_; have GW181 := n4_; have GE181 := n5_; have NB175_181 := n6_; have NB181_175 := n7_; have NB176_181 := n8_; have NB181_176 := n9_; clear n0_ n1_ n2_ n3_ n4_ n5_ n6_ n7_ n8_ n9_; clear hb hbox hg; have hnb11 := NB181_175.out; have hnc11 := NB175_181.out; have hnb12 := NB181_176.out; have hnc12 := NB176_181.out; have hcz13_0 : w10.cell? ⟨gb181, 0, none⟩ = some (.int .u64 0) := (blk_cell BK181.out 0).trans rfl; have hcz13_1 : w10.cell? ⟨gb181, 1, none⟩ = some (.int .u64 0) := (blk_cell BK181.out 1).trans rfl; have hfz13_0 := blk_frozen BK181.out 0; have hfz13_1 := blk_frozen BK181.out 1))
 have n0_ : Aside0 (((w10.setCell ⟨gb181, 0, none⟩ (.int .u64 t177)).setCell ⟨gb181, 1, none⟩ (.int .u64 t178)).heap[gb175]? = some (.cells #[.slice A0_0 l0_0.length c0_0, .int .i64 a0_1, .int .i64 a0_2, .int .u64 a0_3, .int .u64 a0_4] 122 (0, 0))) := ⟨by (with_reducible repeat (first | refine blk_drewN ?_ _ | refine blk_drew ?_ | refine blk_alloc ?_ _)); refine blk_far ?_ NB175_181.out _; (with_reducible repeat (first | refine blk_drewN ?_ _ | refine blk_drew ?_ | refine blk_alloc ?_ _)); refine blk_far ?_ NB175_181.out _; (with_reducible repeat (first | refine blk_drewN ?_ _ | refine blk_drew ?_ | refine blk_alloc ?_ _)); exact BK175.out⟩
 have n1_ : Aside0 (((w10.setCell ⟨gb181, 0, none⟩ (.int .u64 t177)).setCell ⟨gb181, 1, none⟩ (.int .u64 t178)).heap[gb176]? = some (.cells #[.slice none 0 0, .int .u64 0, .int .u64 0, .int .i64 0, .int .i64 0] 68 (0, 0))) := ⟨by (with_reducible repeat (first | refine blk_drewN ?_ _ | refine blk_drew ?_ | refine blk_alloc ?_ _)); refine blk_far ?_ NB176_181.out _; (with_reducible repeat (first | refine blk_drewN ?_ _ | refine blk_drew ?_ | refine blk_alloc ?_ _)); refine blk_far ?_ NB176_181.out _; (with_reducible repeat (first | refine blk_drewN ?_ _ | refine blk_drew ?_ | refine blk_alloc ?_ _)); exact BK176.out⟩
 have n2_ : Aside0 (((w10.setCell ⟨gb181, 0, none⟩ (.int .u64 t177)).setCell ⟨gb181, 1, none⟩ (.int .u64 t178)).heap[gb181]? = some (.cells #[.int .u64 t177, .int .u64 t178] 106 (0, 0))) := ⟨by (with_reducible repeat (first | refine blk_drewN ?_ _ | refine blk_drew ?_ | refine blk_alloc ?_ _)); refine blk_put (cs := #[.int .u64 t177, .int .u64 0]) ?_ 1 _ rfl; (with_reducible repeat (first | refine blk_drewN ?_ _ | refine blk_drew ?_ | refine blk_alloc ?_ _)); refine blk_put (cs := #[.int .u64 0, .int .u64 0]) ?_ 0 _ rfl; (with_reducible repeat (first | refine blk_drewN ?_ _ | refine blk_drew ?_ | refine blk_alloc ?_ _)); exact BK181.out⟩
 have n3_ : Aside0 (Below w.heap.size w ((w10.setCell ⟨gb181, 0, none⟩ (.int .u64 t177)).setCell ⟨gb181, 1, none⟩ (.int .u64 t178))) := ⟨bB⟩
 (try clear BK175)
 (try clear BK176)
 (try clear BK181)
 (try clear HB)
 generalize ((w10.setCell ⟨gb181, 0, none⟩ (.int .u64 t177)).setCell ⟨gb181, 1, none⟩ (.int .u64 t178)) = w14 at n0_ n1_ n2_ n3_ ⊢
 have BK175 := n0_
 have BK176 := n1_
 have BK181 := n2_
 have HB := n3_
 clear n0_ n1_ n2_ n3_
 have n0_ := Aside0.mk (blk_drew BK175.out)
 have n1_ := Aside0.mk (blk_drew BK176.out)
 have n2_ := Aside0.mk (blk_drew BK181.out)
 have n3_ := Aside0.mk (below_drew1 HB.out)
 clear BK175
 clear BK176
 clear BK181
 clear HB
 have BK175 := n0_
 have BK176 := n1_
 have BK181 := n2_
 have HB := n3_
 clear n0_ n1_ n2_ n3_
 refine start_ (n := 9) (S := fun w' => w'.cell? ⟨gb175, 0, none⟩ = some (.slice A0_0 l0_0.length c0_0) ∧ w'.cell? ⟨gb175, 1, none⟩ = some (.int .i64 a0_1) ∧ w'.cell? ⟨gb175, 2, none⟩ = some (.int .i64 a0_2) ∧ w'.cell? ⟨gb175, 3, none⟩ = some (.int .u64 a0_3) ∧ w'.cell? ⟨gb175, 4, none⟩ = some (.int .u64 a0_4) ∧ w'.cell? ⟨gb181, 0, none⟩ = some (.int .u64 t177) ∧ w'.cell? ⟨gb181, 1, none⟩ = some (.int .u64 t178)) (ds := []) #[false, false, false, false, false, false, false, false, false] (by kernel_rfl) rfl rfl ⟨(blk_cell BK175.out 0).trans rfl, (blk_cell BK175.out 1).trans rfl, (blk_cell BK175.out 2).trans rfl, (blk_cell BK175.out 3).trans rfl, (blk_cell BK175.out 4).trans rfl, (blk_cell BK181.out 0).trans rfl, (blk_cell BK181.out 1).trans rfl⟩ (fun hHeld => ?_); refine with_tabW impl_fromProof.tab2 impl_fromProof.bits2 (fun HT_ HW_ => ?_)
 generalize w14.drew = w15 at BK175 BK176 BK181 HB hHeld ⊢
 refine pure_ (i := 0) (N := some 12) (v := ?_) (a' := ?_) #[true, false, false, false, false, false, false, false, false] rfl rfl (any_of HT_.out (by kernel_rfl)) (fun _ _ _ h => h) (Or.inl ⟨by rfl, ?_⟩) ?_ ?_
 rotate_left
 ·intro w'
  go_simp
  with_reducible rfl
 rotate_left
 ·simp only [Act.put, List.setIfInBounds_toArray, List.set_cons_zero, List.set_cons_succ, i64_w, i32_w]
  rfl
 refine pure_ (i := 5) (N := some 17) (v := ?_) (a' := ?_) #[true, false, false, false, false, true, false, false, false] rfl rfl (any_of HT_.out (by kernel_rfl)) (fun _ _ _ h => h) (Or.inl ⟨by rfl, ?_⟩) ?_ ?_
 rotate_left
 ·intro w'
  go_simp
  with_reducible rfl
 rotate_left
 ·simp only [Act.put, List.setIfInBounds_toArray, List.set_cons_zero, List.set_cons_succ, i64_w, i32_w]
  rfl
 refine pure_ (i := 6) (N := some 18) (v := ?_) (a' := ?_) #[true, false, false, false, false, true, true, false, false] rfl rfl (any_of HT_.out (by kernel_rfl)) (fun _ _ _ h => h) (Or.inl ⟨by rfl, ?_⟩) ?_ ?_
 rotate_left
 ·intro w'
  go_simp
  with_reducible rfl
 rotate_left
 ·simp only [Act.put, List.setIfInBounds_toArray, List.set_cons_zero, List.set_cons_succ, i64_w, i32_w]
  rfl
 refine take_ (i := 1) (N := some 13) (v := ?_) (a' := ?_) #[true, true, false, false, false, true, true, false, false] rfl rfl (take_ofW HT_.out HW_.out (by kernel_rfl)) (fun _ _ _ h => h) (Or.inl ⟨by rfl, ?_⟩) hHeld ?_ ?_
 rotate_left
 ·rintro w' ⟨s0, s1, s2, s3, s4, s5, s6⟩
  go_simp
  with_reducible rfl
 rotate_left
 ·simp only [Act.put, List.setIfInBounds_toArray, List.set_cons_zero, List.set_cons_succ, i64_w, i32_w]
  rfl
 refine take_ (i := 3) (N := some 15) (v := ?_) (a' := ?_) #[true, true, false, true, false, true, true, false, false] rfl rfl (take_ofW HT_.out HW_.out (by kernel_rfl)) (fun _ _ _ h => h) (Or.inl ⟨by rfl, ?_⟩) hHeld ?_ ?_
 rotate_left
 ·rintro w' ⟨s0, s1, s2, s3, s4, s5, s6⟩
  go_simp
  with_reducible rfl
 rotate_left
 ·simp only [Act.put, List.setIfInBounds_toArray, List.set_cons_zero, List.set_cons_succ, i64_w, i32_w]
  rfl
 refine one_ (i := 2) (N := some 14) #[true, true, true, true, false, true, true, false, false] rfl rfl (one_of HT_.out (by kernel_rfl)) (by decide) (fun K hK => ?_)
 refine goes_ Tryd.func105 (by kernel_rfl) rfl #[.slice A0_0 l0_0.length c0_0] (by rfl) rfl rfl aV ?_
 with_reducible refine (impl_fromNodes.calls k _ _ l0_0 t182 _ ?side1 ?side2 A3.out).mono ?_
 (case side1 => repeat (first | exact (Kd.C_below HR0_0.out HB.out) | (with_reducible refine Kd.C_alloc ?_ _) | (with_reducible refine Kd.C_drewN ?_ _) | (with_reducible refine Kd.C_drew ?_)))
 (case side2 => exact HC0_0.out)
 rintro e w16 ⟨v183, rfl, ho0, hb⟩
 refine ⟨_, rfl, ?_⟩
 have n0_ := Aside0.mk (Kd.R_lower ho0 (below_size bB))
 have n1_ := Aside0.mk (blk_below (g := gb175) (o := .cells #[.slice A0_0 l0_0.length c0_0, .int .i64 a0_1, .int .i64 a0_2, .int .u64 a0_3, .int .u64 a0_4] 122 (0, 0)) (kB BK175.out) hb)
 have n2_ := Aside0.mk (blk_below (g := gb176) (o := .cells #[.slice none 0 0, .int .u64 0, .int .u64 0, .int .i64 0, .int .i64 0] 68 (0, 0)) (kB BK176.out) hb)
 have n3_ := Aside0.mk (blk_below (g := gb181) (o := .cells #[.int .u64 t177, .int .u64 t178] 106 (0, 0)) (kB BK181.out) hb)
 have n4_ := Aside0.mk (below_step bB hb)
 clear BK175
 clear BK176
 clear BK181
 clear HB
 have HO184 := n0_
 have BK175 := n1_
 have BK176 := n2_
 have BK181 := n3_
 have HB := n4_
 clear n0_ n1_ n2_ n3_ n4_
 (try clear hb)
 (try clear hb2)
 (try clear hk)
 (try clear hi)
 (try clear ho0)
 refine hK.out _ _ ⟨(blk_cell BK175.out 0).trans rfl, (blk_cell BK175.out 1).trans rfl, (blk_cell BK175.out 2).trans rfl, (blk_cell BK175.out 3).trans rfl, (blk_cell BK175.out 4).trans rfl, (blk_cell BK181.out 0).trans rfl, (blk_cell BK181.out 1).trans rfl⟩ (fun hHeld => ?_)
 clear hK K
 refine norm_ (a' := ?_) ?_ ?_
 rotate_left
 ·show Act.put _ (some 14) _ = _
  simp only [Act.put, List.setIfInBounds_toArray, List.set_cons_zero, List.set_cons_succ, i64_w, i32_w]
  rfl
 refine one_ (i := 4) (N := some 16) #[true, true, true, true, true, true, true, false, false] rfl rfl (one_of HT_.out (by kernel_rfl)) (by decide) (fun K hK => ?_)
 refine goes_ Tryd.func56 (by kernel_rfl) rfl #[.agg #[.int .u64 t177, .int .u64 t178]] (by rfl) rfl rfl aV ?_
 with_reducible refine (impl_fromNode.calls t177 t178 t185 t186 _ A4.out).mono ?_
 rintro e w17 ⟨rfl, hb⟩
 refine ⟨_, rfl, ?_⟩
 have n0_ := Aside0.mk (Kd.R_below (kR HO184.out) hb)
 have n1_ := Aside0.mk (blk_below (g := gb175) (o := .cells #[.slice A0_0 l0_0.length c0_0, .int .i64 a0_1, .int .i64 a0_2, .int .u64 a0_3, .int .u64 a0_4] 122 (0, 0)) (kB BK175.out) hb)
 have n2_ := Aside0.mk (blk_below (g := gb176) (o := .cells #[.slice none 0 0, .int .u64 0, .int .u64 0, .int .i64 0, .int .i64 0] 68 (0, 0)) (kB BK176.out) hb)
 have n3_ := Aside0.mk (blk_below (g := gb181) (o := .cells #[.int .u64 t177, .int .u64 t178] 106 (0, 0)) (kB BK181.out) hb)
 have n4_ := Aside0.mk (below_step bB hb)
 clear HO184
 clear BK175
 clear BK176
 clear BK181
 clear HB
 have HO184 := n0_
 have BK175 := n1_
 have BK176 := n2_
 have BK181 := n3_
 have HB := n4_
 clear n0_ n1_ n2_ n3_ n4_
 (try clear hb)
 (try clear hb2)
 (try clear hk)
 (try clear hi)
 obtain ⟨Ao18, co18, eo18⟩ := Kd.R_slice HO184.out
 (first | subst eo18 | (injection eo18 with f1_ f2_ f3_; have f4_ := f1_.symm; have f5_ := f3_.symm; clear f1_ f2_ f3_; subst f4_; subst f5_))
 refine hK.out _ _ ⟨(blk_cell BK175.out 0).trans rfl, (blk_cell BK175.out 1).trans rfl, (blk_cell BK175.out 2).trans rfl, (blk_cell BK175.out 3).trans rfl, (blk_cell BK175.out 4).trans rfl, (blk_cell BK181.out 0).trans rfl, (blk_cell BK181.out 1).trans rfl⟩ (fun hHeld => ?_)
 clear hK K
 refine norm_ (a' := ?_) ?_ ?_
 rotate_left
 ·show Act.put _ (some 16) _ = _
  simp only [Act.put, List.setIfInBounds_toArray, List.set_cons_zero, List.set_cons_succ, i64_w, i32_w]
  rfl
 refine pure_ (i := 7) (N := some 19) (v := ?_) (a' := ?_) #[true, true, true, true, true, true, true, true, false] rfl rfl (any_of HT_.out (by kernel_rfl)) (fun _ _ _ h => h) (Or.inl ⟨by rfl, ?_⟩) ?_ ?_
 rotate_left
 ·intro w'
  go_simp
  with_reducible rfl
 rotate_left
 ·simp only [Act.put, List.setIfInBounds_toArray, List.set_cons_zero, List.set_cons_succ, i64_w, i32_w]
  rfl
 refine one_ (i := 8) (N := none) #[true, true, true, true, true, true, true, true, true] rfl rfl (one_of HT_.out (by kernel_rfl)) (by decide) (fun K hK => ?_)
 have hs19 : w17.cell? ⟨gb176, 0, none⟩ = some (.slice none 0 0) := (blk_cell BK176.out 0).trans rfl
 have hfs19 := blk_frozen BK176.out 0
 have hns19_0 := NB175_176.out
 have hns19_2 := NB181_176.out
 have hms19_0 := NB176_175.out
 have hms19_2 := NB176_181.out
 have hs20 : w17.cell? ⟨gb176, 1, none⟩ = some (.int .u64 0) := (blk_cell BK176.out 1).trans rfl
 have hfs20 := blk_frozen BK176.out 1
 have hns20_0 := NB175_176.out
 have hns20_2 := NB181_176.out
 have hms20_0 := NB176_175.out
 have hms20_2 := NB176_181.out
 have hs21 : w17.cell? ⟨gb176, 2, none⟩ = some (.int .u64 0) := (blk_cell BK176.out 2).trans rfl
 have hfs21 := blk_frozen BK176.out 2
 have hns21_0 := NB175_176.out
 have hns21_2 := NB181_176.out
 have hms21_0 := NB176_175.out
 have hms21_2 := NB176_181.out
 have hs22 : w17.cell? ⟨gb176, 3, none⟩ = some (.int .i64 0) := (blk_cell BK176.out 3).trans rfl
 have hfs22 := blk_frozen BK176.out 3
 have hns22_0 := NB175_176.out
 have hns22_2 := NB181_176.out
 have hms22_0 := NB176_175.out
 have hms22_2 := NB176_181.out
 have hs23 : w17.cell? ⟨gb176, 4, none⟩ = some (.int .i64 0) := (blk_cell BK176.out 4).trans rfl
 have hfs23 := blk_frozen BK176.out 4
 have hns23_0 := NB175_176.out
 have hns23_2 := NB181_176.out
 have hms23_0 := NB176_175.out
 have hms23_2 := NB176_181.out
 refine skip_ (w1 := ?_) (by rfl) rfl ?_ ?_
 rotate_left
 ·go_simp
  rfl
 refine hK.out _ _ ⟨((cell_far (p := ⟨gb176, _, none⟩) NB175_176.out _).trans (((cell_far (p := ⟨gb176, _, none⟩) NB175_176.out _).trans (((cell_far (p := ⟨gb176, _, none⟩) NB175_176.out _).trans (((cell_far (p := ⟨gb176, _, none⟩) NB175_176.out _).trans (((cell_far (p := ⟨gb176, _, none⟩) NB175_176.out _).trans (hHeld.1)))))))))), ((cell_far (p := ⟨gb176, _, none⟩) NB175_176.out _).trans (((cell_far (p := ⟨gb176, _, none⟩) NB175_176.out _).trans (((cell_far (p := ⟨gb176, _, none⟩) NB175_176.out _).trans (((cell_far (p := ⟨gb176, _, none⟩) NB175_176.out _).trans (((cell_far (p := ⟨gb176, _, none⟩) NB175_176.out _).trans (hHeld.2.1)))))))))), ((cell_far (p := ⟨gb176, _, none⟩) NB175_176.out _).trans (((cell_far (p := ⟨gb176, _, none⟩) NB175_176.out _).trans (((cell_far (p := ⟨gb176, _, none⟩) NB175_176.out _).trans (((cell_far (p := ⟨gb176, _, none⟩) NB175_176.out _).trans (((cell_far (p := ⟨gb176, _, none⟩) NB175_176.out _).trans (hHeld.2.2.1)))))))))), ((cell_far (p := ⟨gb176, _, none⟩) NB175_176.out _).trans (((cell_far (p := ⟨gb176, _, none⟩) NB175_176.out _).trans (((cell_far (p := ⟨gb176, _, none⟩) NB175_176.out _).trans (((cell_far (p := ⟨gb176, _, none⟩) NB175_176.out _).trans (((cell_far (p := ⟨gb176, _, none⟩) NB175_176.out _).trans (hHeld.2.2.2.1)))))))))), ((cell_far (p := ⟨gb176, _, none⟩) NB175_176.out _).trans (((cell_far (p := ⟨gb176, _, none⟩) NB175_176.out _).trans (((cell_far (p := ⟨gb176, _, none⟩) NB175_176.out _).trans (((cell_far (p := ⟨gb176, _, none⟩) NB175_176.out _).trans (((cell_far (p := ⟨gb176, _, none⟩) NB175_176.out _).trans (hHeld.2.2.2.2.1)))))))))), ((cell_far (p := ⟨gb176, _, none⟩) NB181_176.out _).trans (((cell_far (p := ⟨gb176, _, none⟩) NB181_176.out _).trans (((cell_far (p := ⟨gb176, _, none⟩) NB181_176.out _).trans (((cell_far (p := ⟨gb176, _, none⟩) NB181_176.out _).trans (((cell_far (p := ⟨gb176, _, none⟩) NB181_176.out _).trans (hHeld.2.2.2.2.2.1)))))))))), ((cell_far (p := ⟨gb176, _, none⟩) NB181_176.out _).trans (((cell_far (p := ⟨gb176, _, none⟩) NB181_176.out _).trans (((cell_far (p := ⟨gb176, _, none⟩) NB181_176.out _).trans (((cell_far (p := ⟨gb176, _, none⟩) NB181_176.out _).trans (((cell_far (p := ⟨gb176, _, none⟩) NB181_176.out _).trans (hHeld.2.2.2.2.2.2))))))))))⟩ (fun hHeld => ?_)
 clear hK K
 refine done_ (done_of HT_.out (by kernel_rfl)) ?_
 try go_wp2
 refine bodyPost_ret (results_cell_row rfl _ _ gb176 68 #[.slice Ao18 t182.length co18, .int .u64 t185, .int .u64 t186, .int .i64 t179, .int .i64 t180] (0, 0) _ rfl (by (with_reducible repeat (first | refine blk_drewN ?_ _ | refine blk_drew ?_ | refine blk_alloc ?_ _)); refine blk_put (cs := #[.slice Ao18 t182.length co18, .int .u64 t185, .int .u64 t186, .int .i64 t179, .int .i64 0]) ?_ 4 _ rfl; (with_reducible repeat (first | refine blk_drewN ?_ _ | refine blk_drew ?_ | refine blk_alloc ?_ _)); refine blk_put (cs := #[.slice Ao18 t182.length co18, .int .u64 t185, .int .u64 t186, .int .i64 0, .int .i64 0]) ?_ 3 _ rfl; (with_reducible repeat (first | refine blk_drewN ?_ _ | refine blk_drew ?_ | refine blk_alloc ?_ _)); refine blk_put (cs := #[.slice Ao18 t182.length co18, .int .u64 t185, .int .u64 0, .int .i64 0, .int .i64 0]) ?_ 2 _ rfl; (with_reducible repeat (first | refine blk_drewN ?_ _ | refine blk_drew ?_ | refine blk_alloc ?_ _)); refine blk_put (cs := #[.slice Ao18 t182.length co18, .int .u64 0, .int .u64 0, .int .i64 0, .int .i64 0]) ?_ 1 _ rfl; (with_reducible repeat (first | refine blk_drewN ?_ _ | refine blk_drew ?_ | refine blk_alloc ?_ _)); refine blk_put (cs := #[.slice none 0 0, .int .u64 0, .int .u64 0, .int .i64 0, .int .i64 0]) ?_ 0 _ rfl; (with_reducible repeat (first | refine blk_drewN ?_ _ | refine blk_drew ?_ | refine blk_alloc ?_ _)); exact BK176.out) Tryd.underlying68 rfl (by kernel_rfl)) rfl ?_
 exact ⟨_, by first | rfl | (simp [errW_none, errW_some] <;> rfl) | (simp [*, errW_none, errW_some] <;> rfl), by (with_reducible repeat (first | apply Kd.R_alloc | apply Kd.R_drewN | apply Kd.R_drew)); exact Kd.R_mono (Kd.R_far (p := ⟨gb176, 4, none⟩) (Kd.R_far (p := ⟨gb176, 3, none⟩) (Kd.R_far (p := ⟨gb176, 2, none⟩) (Kd.R_far (p := ⟨gb176, 1, none⟩) (Kd.R_far (p := ⟨gb176, 0, none⟩) (Kd.R_types HO184.out BK176.out (by decide)) (fun _ hk => hk.2) (.slice Ao18 t182.length co18)) (fun _ hk => hk.2) (.int .u64 t185)) (fun _ hk => hk.2) (.int .u64 t186)) (fun _ hk => hk.2) (.int .i64 t179)) (fun _ hk => hk.2) (.int .i64 t180)) (fun _ hk => trivial), bB⟩

end Go.Proofs.YtkmdkmlgahfcpaaDoor.M

