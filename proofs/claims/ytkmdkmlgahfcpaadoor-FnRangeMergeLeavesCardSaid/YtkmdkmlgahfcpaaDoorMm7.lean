-- Written by a program of ours (wip/xp) out of the translation; Lean checks it.
import Derived.Test.YtkmdkmlgahfcpaaDoorSq
import Derived.Test.YtkmdkmlgahfcpaaDoorMm1
import Derived.Test.YtkmdkmlgahfcpaaDoorMm6
namespace Go.Proofs.YtkmdkmlgahfcpaaDoor.M
open Go.RowKit Go.Proofs.YtkmdkmlgahfcpaaDoorW.PrintWords Go.Proofs.YtkmdkmlgahfcpaaDoorW.PrintLast Go.Proofs.YtkmdkmlgahfcpaaDoorW.PrintMore
attribute [local go_sem] max2_int min2_int max_two min_two max_three min_three max_four min_four   -- for this text's walks alone
set_option linter.unusedVariables false
set_option linter.unusedSimpArgs false

/-! ### spec_EmptyRoot: function 98 -/
def spec_EmptyRoot.f (k : Nat) (a0_0 : Int) (a0_1 : Int) (a0_2 : Int) (a0_3 : Int) (a0_4 : Int) (a0_5 : Int) : Option (List Int) := (spec_Terms.f a0_0 a0_1 a0_2 a0_3 a0_4 a0_5).bind fun t184 => (if t184 = true then (some (([2] : List Int))) else ((spec_word.f k a0_0 a0_1 a0_2 a0_3 a0_4 a0_5 a0_3 ([] : List Int)).bind fun t188 => (some t188)))
theorem spec_EmptyRoot.mono : ∀ a0 a1 a2 a3 a4 a5 k, LeO (spec_EmptyRoot.f k a0 a1 a2 a3 a4 a5) (spec_EmptyRoot.f (k + 1) a0 a1 a2 a3 a4 a5) := by
 intro a0 a1 a2 a3 a4 a5 k
 unfold spec_EmptyRoot.f
 repeat' first
   | (with_reducible exact spec_word.mono _ _ _ _ _ _ _ _ _)
   | (with_reducible exact LeO.refl _)
   | (with_reducible exact LeO.none _)
   | (with_reducible refine LeO.ite ?_ ?_)
   | (with_reducible refine LeO.bind ?_ (fun _ => ?_))
   | exact spec_word.mono _ _ _ _ _ _ _ _ _
   | exact LeO.none _
   | refine LeO.ite ?_ ?_
   | refine LeO.bind ?_ (fun _ => ?_)
set_option maxHeartbeats 8000000 in
set_option maxRecDepth 100000 in
theorem spec_EmptyRoot.calls (k : Nat) (a0_0 : Int) (a0_1 : Int) (a0_2 : Int) (a0_3 : Int) (a0_4 : Int) (a0_5 : Int) (r : List Int) (w : World) (h : spec_EmptyRoot.f k a0_0 a0_1 a0_2 a0_3 a0_4 a0_5 = some r) :
  Calls Tryd.prog 98 #[.agg #[.int .i64 a0_0, .int .i64 a0_1, .int .i64 a0_2, .int .u64 a0_3, .int .u64 a0_4, .int .u64 a0_5]] w fun e w' => ∃ v0_ : Value, e = .returned (v0_) ∧ Kd.R (Kd.int .u8) 5 w' w.heap.size (fun _ => True) v0_ r ∧ Below w.heap.size w w' := by
 have hu24 := Tryd.underlying24
 have HB := Aside0.mk (Below.refl w.heap.size w)
 have H : ((spec_Terms.f a0_0 a0_1 a0_2 a0_3 a0_4 a0_5).bind fun t184 => (if t184 = true then (some (([2] : List Int))) else ((spec_word.f k a0_0 a0_1 a0_2 a0_3 a0_4 a0_5 a0_3 ([] : List Int)).bind fun t188 => (some t188)))) = some r := h
 clear h
 replace H := Option.bind_eq_some_iff.mp H
 obtain ⟨t184, A20, H⟩ := H
 replace H : (if t184 = true then (some (([2] : List Int))) else ((spec_word.f k a0_0 a0_1 a0_2 a0_3 a0_4 a0_5 a0_3 ([] : List Int)).bind fun t188 => (some t188))) = some r := H
 have A2 := Aside0.mk A20
 clear A20
 by_cases c3 : t184 = true
 ·subst c3
  have H1 : (some (([2] : List Int))) = some r := by rw [if_pos rfl] at H; exact H
  clear H
  have H := H1
  clear H1
  obtain ⟨y185, hy185⟩ : ∃ y_ : List Int, y_ = (([2] : List Int)) := ⟨_, rfl⟩
  replace H : (some y185) = some r := by first | (rw [hy185]; with_reducible exact H) | (have H2_ := (Option.bind_some _ _).symm.trans H; rw [hy185]; with_reducible exact H2_) | (have H2_ := (Option.bind_some _ _).symm.trans H; with_reducible exact H2_) | with_reducible exact H | (rw [hy185]; exact H) | exact H
  have Ny185 := Aside0.mk hy185
  clear hy185
  obtain rfl := Option.some.inj H
  go_enter Tryd.func98, Tryd.ntmps98
  go_wp2_with (first | ((with_reducible refine gate_dst (N := 1) rfl ?_); refine box_event ?hg (N := 1) ?hd (cs := #[.int .i64 a0_0, .int .i64 a0_1, .int .i64 a0_2, .int .u64 a0_3, .int .u64 a0_4, .int .u64 a0_5]) (t := 24) ?hr ?_; (case hd => rfl); (case hg => rfl); (case hr => first | (go_simp; done) | (go_simp; rfl)); intro gb183 hg w4 hbox hb; have n0_ := Aside0.mk (below_step bB hb); have n1_ := Aside0.mk (hbox); have n2_ := Aside0.mk ((by rw [hg]; exact (below_size bB) : w.heap.size ≤ gb183)); have n3_ := Aside0.mk ((by rw [hg]; exact (below_size bB) : w.heap.size ≤ gb183)); clear HB; have HB := n0_; have BK183 := n1_; have GW183 := n2_; have GE183 := n3_; clear n0_ n1_ n2_ n3_; clear hb hbox hg; have hcz5_0 : w4.cell? ⟨gb183, 0, none⟩ = some (.int .i64 a0_0) := (blk_cell BK183.out 0).trans rfl; have hcz5_1 : w4.cell? ⟨gb183, 1, none⟩ = some (.int .i64 a0_1) := (blk_cell BK183.out 1).trans rfl; have hcz5_2 : w4.cell? ⟨gb183, 2, none⟩ = some (.int .i64 a0_2) := (blk_cell BK183.out 2).trans rfl; have hcz5_3 : w4.cell? ⟨gb183, 3, none⟩ = some (.int .u64 a0_3) := (blk_cell BK183.out 3).trans rfl; have hcz5_4 : w4.cell? ⟨gb183, 4, none⟩ = some (.int .u64 a0_4) := (blk_cell BK183.out 4).trans rfl; have hcz5_5 : w4.cell? ⟨gb183, 5, none⟩ = some (.int .u64 a0_5) := (blk_cell BK183.out 5).trans rfl; have hfz5_0 := blk_frozen BK183.out 0; have hfz5_1 := blk_frozen BK183.out 1; have hfz5_2 := blk_frozen BK183.out 2; have hfz5_3 := blk_frozen BK183.out 3; have hfz5_4 := blk_frozen BK183.out 4; have hfz5_5 := blk_frozen BK183.out 5) | ((with_reducible refine gate_callee (f := 16) rfl ?_); refine goesL_ (some 4) rfl rfl Tryd.func16 (by kernel_rfl) rfl #[.agg #[.int .i64 a0_0, .int .i64 a0_1, .int .i64 a0_2, .int .u64 a0_3, .int .u64 a0_4, .int .u64 a0_5]] rfl aV ?_; (with_reducible refine (spec_Terms.calls a0_0 a0_1 a0_2 a0_3 a0_4 a0_5 true _ A2.out).mono ?_); rintro e w6 ⟨rfl, hb⟩; refine ⟨_, rfl, ?_⟩; have n0_ := Aside0.mk (blk_below (g := gb183) (o := .cells #[.int .i64 a0_0, .int .i64 a0_1, .int .i64 a0_2, .int .u64 a0_3, .int .u64 a0_4, .int .u64 a0_5] 24 (0, 0)) (kB BK183.out) hb); have n1_ := Aside0.mk (below_step bB hb); clear BK183; clear HB; have BK183 := n0_; have HB := n1_; clear n0_ n1_; (try clear hb); (try clear hb2); (try clear hk); (try clear hi)) | ((with_reducible refine gate_dst (N := 5) rfl ?_); refine Kd.R_lit (Kd.int .u8) _ 5 ?hg (N := 5) ?hd (xs := ([2] : List Int)) (inner := [.int .u8 2]) (ok := fun _ => True) (okp := fun _ => True) ?hr ?hp (fun _ hk => hk) trivial (Below.refl _ _) (Nat.le_refl _) (by simp) ?_; (case hd => rfl); (case hg => rfl); (case hr => first | (go_simp; done) | (go_simp; rfl)); (case hp => exact (Reps.one (show Kd.M (Kd.int .u8) _ _ _ 2 [.int .u8 2] from rfl) (Reps.none _ _))); intro v186 w7 ho8 hb hg_ hnew_; clear hg_ hnew_; (first | rw [← Ny185.out] at ho8 | (simp only [Int.reduceToNat] at ho8; rw [← Ny185.out] at ho8)); have n0_ := Aside0.mk (Kd.R_lower ho8 (below_size bB)); have n1_ := Aside0.mk (blk_below (g := gb183) (o := .cells #[.int .i64 a0_0, .int .i64 a0_1, .int .i64 a0_2, .int .u64 a0_3, .int .u64 a0_4, .int .u64 a0_5] 24 (0, 0)) (kB BK183.out) hb); have n2_ := Aside0.mk (below_step bB hb); clear BK183; clear HB; have HO187 := n0_; have BK183 := n1_; have HB := n2_; clear n0_ n1_ n2_; clear hb ho8))
  go_ret
  exact ⟨_, by first | rfl | (simp [errW_none, errW_some] <;> rfl) | (simp [*, errW_none, errW_some] <;> rfl), by (with_reducible repeat (first | apply Kd.R_alloc | apply Kd.R_drewN | apply Kd.R_drew)); exact HO187.out, bB⟩
 ·replace c3 := Bool.eq_false_iff.mpr c3
  subst c3
  have H1 : ((spec_word.f k a0_0 a0_1 a0_2 a0_3 a0_4 a0_5 a0_3 ([] : List Int)).bind fun t188 => (some t188)) = some r := by rw [if_neg (show ¬ (false = true) by decide)] at H; exact H
  clear H
  have H := H1
  clear H1
  replace H := Option.bind_eq_some_iff.mp H
  obtain ⟨t188, A90, H⟩ := H
  replace H : (some t188) = some r := H
  have A9 := Aside0.mk A90
  clear A90
  obtain rfl := Option.some.inj H
  go_enter Tryd.func98, Tryd.ntmps98
  go_wp2_with (first | ((with_reducible refine gate_dst (N := 1) rfl ?_); refine box_event ?hg (N := 1) ?hd (cs := #[.int .i64 a0_0, .int .i64 a0_1, .int .i64 a0_2, .int .u64 a0_3, .int .u64 a0_4, .int .u64 a0_5]) (t := 24) ?hr ?_; (case hd => rfl); (case hg => rfl); (case hr => first | (go_simp; done) | (go_simp; rfl)); intro gb183 hg w10 hbox hb; have n0_ := Aside0.mk (below_step bB hb); have n1_ := Aside0.mk (hbox); have n2_ := Aside0.mk ((by rw [hg]; exact (below_size bB) : w.heap.size ≤ gb183)); have n3_ := Aside0.mk ((by rw [hg]; exact (below_size bB) : w.heap.size ≤ gb183)); clear HB; have HB := n0_; have BK183 := n1_; have GW183 := n2_; have GE183 := n3_; clear n0_ n1_ n2_ n3_; clear hb hbox hg; have hcz11_0 : w10.cell? ⟨gb183, 0, none⟩ = some (.int .i64 a0_0) := (blk_cell BK183.out 0).trans rfl; have hcz11_1 : w10.cell? ⟨gb183, 1, none⟩ = some (.int .i64 a0_1) := (blk_cell BK183.out 1).trans rfl; have hcz11_2 : w10.cell? ⟨gb183, 2, none⟩ = some (.int .i64 a0_2) := (blk_cell BK183.out 2).trans rfl; have hcz11_3 : w10.cell? ⟨gb183, 3, none⟩ = some (.int .u64 a0_3) := (blk_cell BK183.out 3).trans rfl; have hcz11_4 : w10.cell? ⟨gb183, 4, none⟩ = some (.int .u64 a0_4) := (blk_cell BK183.out 4).trans rfl; have hcz11_5 : w10.cell? ⟨gb183, 5, none⟩ = some (.int .u64 a0_5) := (blk_cell BK183.out 5).trans rfl; have hfz11_0 := blk_frozen BK183.out 0; have hfz11_1 := blk_frozen BK183.out 1; have hfz11_2 := blk_frozen BK183.out 2; have hfz11_3 := blk_frozen BK183.out 3; have hfz11_4 := blk_frozen BK183.out 4; have hfz11_5 := blk_frozen BK183.out 5) | ((with_reducible refine gate_callee (f := 16) rfl ?_); refine goesL_ (some 4) rfl rfl Tryd.func16 (by kernel_rfl) rfl #[.agg #[.int .i64 a0_0, .int .i64 a0_1, .int .i64 a0_2, .int .u64 a0_3, .int .u64 a0_4, .int .u64 a0_5]] rfl aV ?_; (with_reducible refine (spec_Terms.calls a0_0 a0_1 a0_2 a0_3 a0_4 a0_5 false _ A2.out).mono ?_); rintro e w12 ⟨rfl, hb⟩; refine ⟨_, rfl, ?_⟩; have n0_ := Aside0.mk (blk_below (g := gb183) (o := .cells #[.int .i64 a0_0, .int .i64 a0_1, .int .i64 a0_2, .int .u64 a0_3, .int .u64 a0_4, .int .u64 a0_5] 24 (0, 0)) (kB BK183.out) hb); have n1_ := Aside0.mk (below_step bB hb); clear BK183; clear HB; have BK183 := n0_; have HB := n1_; clear n0_ n1_; (try clear hb); (try clear hb2); (try clear hk); (try clear hi); have hcz13_0 : w12.cell? ⟨gb183, 0, none⟩ = some (.int .i64 a0_0) := (blk_cell BK183.out 0).trans rfl; have hcz13_1 : w12.cell? ⟨gb183, 1, none⟩ = some (.int .i64 a0_1) := (blk_cell BK183.out 1).trans rfl; have hcz13_2 : w12.cell? ⟨gb183, 2, none⟩ = some (.int .i64 a0_2) := (blk_cell BK183.out 2).trans rfl; have hcz13_3 : w12.cell? ⟨gb183, 3, none⟩ = some (.int .u64 a0_3) := (blk_cell BK183.out 3).trans rfl; have hcz13_4 : w12.cell? ⟨gb183, 4, none⟩ = some (.int .u64 a0_4) := (blk_cell BK183.out 4).trans rfl; have hcz13_5 : w12.cell? ⟨gb183, 5, none⟩ = some (.int .u64 a0_5) := (blk_cell BK183.out 5).trans rfl; have hfz13_0 := blk_frozen BK183.out 0; have hfz13_1 := blk_frozen BK183.out 1; have hfz13_2 := blk_frozen BK183.out 2; have hfz13_3 := blk_frozen BK183.out 3; have hfz13_4 := blk_frozen BK183.out 4; have hfz13_5 := blk_frozen BK183.out 5) | ((with_reducible refine gate_callee (f := 114) rfl ?_); refine goesL_ (some 9) rfl rfl Tryd.func114 (by kernel_rfl) rfl #[.agg #[.int .i64 a0_0, .int .i64 a0_1, .int .i64 a0_2, .int .u64 a0_3, .int .u64 a0_4, .int .u64 a0_5], .int .u64 a0_3, .slice none 0 0] rfl aV ?_; (refine (spec_word.calls k a0_0 a0_1 a0_2 a0_3 a0_4 a0_5 a0_3 _ _ ([] : List Int) t188 _ ?side1 ?side2 A9.out).mono ?_); (case side1 => exact Kd.C_nil _ _); (case side2 => exact Nat.le_refl _); rintro e w14 ⟨v189, rfl, ho0, hb⟩; refine ⟨_, rfl, ?_⟩; have n0_ := Aside0.mk (Kd.R_lower ho0 (below_size bB)); have n1_ := Aside0.mk (blk_below (g := gb183) (o := .cells #[.int .i64 a0_0, .int .i64 a0_1, .int .i64 a0_2, .int .u64 a0_3, .int .u64 a0_4, .int .u64 a0_5] 24 (0, 0)) (kB BK183.out) hb); have n2_ := Aside0.mk (below_step bB hb); clear BK183; clear HB; have HO190 := n0_; have BK183 := n1_; have HB := n2_; clear n0_ n1_ n2_; (try clear hb); (try clear hb2); (try clear hk); (try clear hi); (try clear ho0)))
  go_ret
  exact ⟨_, by first | rfl | (simp [errW_none, errW_some] <;> rfl) | (simp [*, errW_none, errW_some] <;> rfl), by (with_reducible repeat (first | apply Kd.R_alloc | apply Kd.R_drewN | apply Kd.R_drew)); exact HO190.out, bB⟩


/-! ### spec_split: function 99 -/
def spec_split.l0 : Nat → Int → Int → Option (Int)
 | 0, _, _ => none
 | k + 1, x0, x3 => if x3 < (IntKind.u64.wrap (x0 - x3)) then (spec_split.l0 k x0 (IntKind.u64.wrap (x3 * 2))) else (some x3)
def spec_split.f (k : Nat) (a0 : Int) : Option (Int) := spec_split.l0 k a0 1
theorem spec_split.mono_l : ∀ k, (∀ y0 y1, LeO (spec_split.l0 k y0 y1) (spec_split.l0 (k + 1) y0 y1))
 | 0 => fun _ _ r h => by simp [spec_split.l0] at h
 | k + 1 => by
  have ih0 := spec_split.mono_l k
  ·intro y0 y1
   unfold spec_split.l0
   repeat' first
   | (with_reducible exact ih0 _ _)
   | (with_reducible exact LeO.refl _)
   | (with_reducible exact LeO.none _)
   | (with_reducible refine LeO.ite ?_ ?_)
   | (with_reducible refine LeO.bind ?_ (fun _ => ?_))
   | exact ih0 _ _
   | exact LeO.none _
   | refine LeO.ite ?_ ?_
   | refine LeO.bind ?_ (fun _ => ?_)
theorem spec_split.mono : ∀ a0 k, LeO (spec_split.f k a0) (spec_split.f (k + 1) a0) := by
 intro a0 k
 have ih0 := spec_split.mono_l k
 unfold spec_split.f
 repeat' first
   | (with_reducible exact ih0 _ _)
   | (with_reducible exact LeO.refl _)
   | (with_reducible exact LeO.none _)
   | (with_reducible refine LeO.ite ?_ ?_)
   | (with_reducible refine LeO.bind ?_ (fun _ => ?_))
   | exact ih0 _ _
   | exact LeO.none _
   | refine LeO.ite ?_ ?_
   | refine LeO.bind ?_ (fun _ => ?_)
set_option maxHeartbeats 8000000 in
set_option maxRecDepth 100000 in
theorem spec_split.calls (k : Nat) (a0 : Int) (r : Int) (w : World) (h : spec_split.f k a0 = some r) :
  Calls Tryd.prog 99 #[.int .u64 a0] w fun e w' => e = .returned (.int .u64 r) ∧ Drawn0 w w' := by
 have H : (spec_split.l0 k a0 1) = some r := h
 clear h
 have H' := Aside0.mk H
 clear H
 go_enter Tryd.func99, Tryd.ntmps99
 go_wp2
 go_loopg [3] k (fun kq v3 w' => ∃ (x3_1 : Int), v3 = .int .u64 x3_1 ∧ Aside0 (spec_split.l0 kq a0 x3_1 = some r) ∧ Aside0 (kq ≤ k) ∧ Drawn0 w w')
 case atStart => exact ⟨(1), (by first | rfl | (simp; done) | (simp [*]; done)), H', ⟨Nat.le_refl _⟩, by repeat (first | exact Drawn0.refl _ | apply Drawn0.step)⟩
 case round =>
  clear H'
  obtain ⟨x3_1, rfl, HA, HK1, ⟨m1, rfl⟩⟩ := hrel
  cases gk with
  | zero => exact absurd HA.out (by simp [spec_split.l0])
  | succ k1 =>
   have H := HA.out
   clear HA
   simp only [spec_split.l0] at H
   by_cases c2 : x3_1 < (IntKind.u64.wrap (a0 - x3_1))
   ·rw [if_pos c2] at H
    have c2b0 : decide (x3_1 < (IntKind.u64.wrap (a0 - x3_1))) = true := decide_eq_true c2
    clear c2
    have H' := Aside0.mk H
    clear H
    go_wp2
    go_roundg k1
    case measure => have := HK1.out; omega
    case rel => exact ⟨(IntKind.u64.wrap (x3_1 * 2)), (by first | rfl | (simp; done) | (simp [*]; done)), H', ⟨by have := HK1.out; omega⟩, by repeat (first | exact Drawn0.refl _ | apply Drawn0.step)⟩
   ·rw [if_neg c2] at H
    have c2b0 : decide (x3_1 < (IntKind.u64.wrap (a0 - x3_1))) = false := decide_eq_false c2
    clear c2
    obtain rfl := Option.some.inj H
    go_wp2
    go_ret
    exact ⟨by first | rfl | (simp; done) | (simp [*]; done), by repeat (first | exact Drawn0.refl _ | apply Drawn0.step)⟩


/-! ### spec_Root: function 64 -/
def spec_Root.f : Nat → Int → Int → Int → Int → Int → Int → List (List Int) → Option (List Int)
 | 0, _, _, _, _, _, _, _ => none
 | k + 1, a0_0, a0_1, a0_2, a0_3, a0_4, a0_5, l1 => if (l1.length : Int) = 0 then ((spec_EmptyRoot.f k a0_0 a0_1 a0_2 a0_3 a0_4 a0_5).bind fun t192 => (some t192)) else (if (l1.length : Int) = 1 then (if 0 < (l1.length : Int) then (some (rd_L1 l1 0)) else (none)) else ((spec_split.f k (IntKind.u64.wrap ((l1.length : Int)))).bind fun t196 => (if 0 ≤ t196 then (if t196 ≤ (l1.length : Int) then ((spec_Root.f k a0_0 a0_1 a0_2 a0_3 a0_4 a0_5 (l1.take (t196 : Int).toNat)).bind fun t202 => ((spec_Root.f k a0_0 a0_1 a0_2 a0_3 a0_4 a0_5 (l1.drop (t196 : Int).toNat)).bind fun t210 => ((spec_HashChildren.f k a0_0 a0_1 a0_2 a0_3 a0_4 a0_5 t202 t210).bind fun t213 => (some t213)))) else (none)) else (none))))
theorem spec_Root.mono_l : ∀ k, (∀ y0 y1 y2 y3 y4 y5 y6, LeO (spec_Root.f k y0 y1 y2 y3 y4 y5 y6) (spec_Root.f (k + 1) y0 y1 y2 y3 y4 y5 y6))
 | 0 => fun _ _ _ _ _ _ _ r h => by simp [spec_Root.f] at h
 | k + 1 => by
  have ih0 := spec_Root.mono_l k
  ·intro y0 y1 y2 y3 y4 y5 y6
   unfold spec_Root.f
   repeat' first
   | (with_reducible exact ih0 _ _ _ _ _ _ _)
   | (with_reducible exact spec_EmptyRoot.mono _ _ _ _ _ _ _)
   | (with_reducible exact spec_HashChildren.mono _ _ _ _ _ _ _ _ _)
   | (with_reducible exact spec_split.mono _ _)
   | (with_reducible exact LeO.refl _)
   | (with_reducible exact LeO.none _)
   | (with_reducible refine LeO.ite ?_ ?_)
   | (with_reducible refine LeO.bind ?_ (fun _ => ?_))
   | exact ih0 _ _ _ _ _ _ _
   | exact spec_EmptyRoot.mono _ _ _ _ _ _ _
   | exact spec_HashChildren.mono _ _ _ _ _ _ _ _ _
   | exact spec_split.mono _ _
   | exact LeO.none _
   | refine LeO.ite ?_ ?_
   | refine LeO.bind ?_ (fun _ => ?_)
theorem spec_Root.mono : ∀ a0 a1 a2 a3 a4 a5 a6 k, LeO (spec_Root.f k a0 a1 a2 a3 a4 a5 a6) (spec_Root.f (k + 1) a0 a1 a2 a3 a4 a5 a6) := by
 intro a0 a1 a2 a3 a4 a5 a6 k
 have ih0 := spec_Root.mono_l k
 exact ih0 a0 a1 a2 a3 a4 a5 a6
def spec_Root.T7 : Bool × List (List Nat × List Nat) := (true, [([], []), ([], []), ([], []), ([], []), ([2, 3], [2, 3]), ([1, 4], [1, 4]), ([], []), ([], []), ([], []), ([7, 8], [7, 8]), ([6, 9, 5], [6, 9]), ([0, 5, 10, 10], [0, 5, 10]), ([11, 11, 0, 1, 2, 3, 4, 5, 6, 7, 8, 9, 10, 11], [11])])
def spec_Root.B7 : List Nat := [0, 0, 0, 0, 12, 30, 0, 0, 0, 384, 1022, 2047, 4095]
theorem spec_Root.tab7 : rtab .any (opsOf Tryd.f64 7) = spec_Root.T7 := by kernel_rfl
theorem spec_Root.bits7 : waitsOk spec_Root.T7.2 spec_Root.B7 = true := by kernel_rfl
set_option maxHeartbeats 8000000 in
set_option maxRecDepth 100000 in
theorem spec_Root.calls (k : Nat) : ∀ (a0_0 : Int) (a0_1 : Int) (a0_2 : Int) (a0_3 : Int) (a0_4 : Int) (a0_5 : Int) (P1_ : Nat → Prop) (A1 : Option Addr) (c1 : Nat) (l1 : List (List Int)) (r : List Int) (w : World) (hs1 : Kd.V (Kd.slice 5 (Kd.int .u8)) 27 w w.heap.size (fun k_ => P1_ k_) (.slice A1 l1.length c1) l1) (h : spec_Root.f k a0_0 a0_1 a0_2 a0_3 a0_4 a0_5 l1 = some r),
  Calls Tryd.prog 64 #[.agg #[.int .i64 a0_0, .int .i64 a0_1, .int .i64 a0_2, .int .u64 a0_3, .int .u64 a0_4, .int .u64 a0_5], .slice A1 l1.length c1] w fun e w' => ∃ v0_ : Value, e = .returned (v0_) ∧ Kd.V (Kd.int .u8) 5 w' w.heap.size (fun k_ => (P1_ k_ ∨ w.heap.size ≤ k_)) v0_ r ∧ Below w.heap.size w w' := by
 induction k using Nat.strongRecOn with
 | _ k ih =>
 intro a0_0 a0_1 a0_2 a0_3 a0_4 a0_5 P1_ A1 c1 l1 r w hs1 h
 cases k with
 | zero => exact absurd h (by simp [spec_Root.f])
 | succ k =>
 simp only [spec_Root.f] at h
 have hu24 := Tryd.underlying24
 have HO1 := Aside0.mk (show Kd.V (Kd.slice 5 (Kd.int .u8)) 27 w w.heap.size (fun k_ => (P1_ k_ ∨ w.heap.size ≤ k_)) (.slice A1 l1.length c1) l1 from Kd.V_mono hs1 (fun k_ hk => .inl hk))
 have HB := Aside0.mk (Below.refl w.heap.size w)
 have H : (if (l1.length : Int) = 0 then ((spec_EmptyRoot.f k a0_0 a0_1 a0_2 a0_3 a0_4 a0_5).bind fun t192 => (some t192)) else (if (l1.length : Int) = 1 then (if 0 < (l1.length : Int) then (some (rd_L1 l1 0)) else (none)) else ((spec_split.f k (IntKind.u64.wrap ((l1.length : Int)))).bind fun t196 => (if 0 ≤ t196 then (if t196 ≤ (l1.length : Int) then ((spec_Root.f k a0_0 a0_1 a0_2 a0_3 a0_4 a0_5 (l1.take (t196 : Int).toNat)).bind fun t202 => ((spec_Root.f k a0_0 a0_1 a0_2 a0_3 a0_4 a0_5 (l1.drop (t196 : Int).toNat)).bind fun t210 => ((spec_HashChildren.f k a0_0 a0_1 a0_2 a0_3 a0_4 a0_5 t202 t210).bind fun t213 => (some t213)))) else (none)) else (none))))) = some r := h
 clear h
 by_cases c3 : (l1.length : Int) = 0
 ·rw [if_pos c3] at H
  have c3b0 : ((l1.length : Int) == 0) = true := beq_iff_eq.mpr c3
  have c3b1 : ((l1.length : Int) != 0) = false := bne_eq_false_iff_eq.mpr c3
  clear c3
  replace H := Option.bind_eq_some_iff.mp H
  obtain ⟨t192, A40, H⟩ := H
  replace H : (some t192) = some r := H
  have A4 := Aside0.mk A40
  clear A40
  obtain rfl := Option.some.inj H
  go_enter Tryd.func64, Tryd.ntmps64
  go_wp2_with (first | ((with_reducible refine gate_dst (N := 2) rfl ?_); refine box_event ?hg (N := 2) ?hd (cs := #[.int .i64 a0_0, .int .i64 a0_1, .int .i64 a0_2, .int .u64 a0_3, .int .u64 a0_4, .int .u64 a0_5]) (t := 24) ?hr ?_; (case hd => rfl); (case hg => rfl); (case hr => first | (go_simp; done) | (go_simp; rfl)); intro gb191 hg w5 hbox hb; have n0_ := Aside0.mk (Kd.V_below (Kd.V_elderB (kV HO1.out) gb191 (Nat.le_of_eq hg.symm)) hb); have n1_ := Aside0.mk (below_step bB hb); have n2_ := Aside0.mk (hbox); have n3_ := Aside0.mk ((by rw [hg]; exact (below_size bB) : w.heap.size ≤ gb191)); have n4_ := Aside0.mk ((by rw [hg]; exact (below_size bB) : w.heap.size ≤ gb191)); clear HO1; clear HB; have HO1 := n0_; have HB := n1_; have BK191 := n2_; have GW191 := n3_; have GE191 := n4_; clear n0_ n1_ n2_ n3_ n4_; clear hb hbox hg; have hcz6_0 : w5.cell? ⟨gb191, 0, none⟩ = some (.int .i64 a0_0) := (blk_cell BK191.out 0).trans rfl; have hcz6_1 : w5.cell? ⟨gb191, 1, none⟩ = some (.int .i64 a0_1) := (blk_cell BK191.out 1).trans rfl; have hcz6_2 : w5.cell? ⟨gb191, 2, none⟩ = some (.int .i64 a0_2) := (blk_cell BK191.out 2).trans rfl; have hcz6_3 : w5.cell? ⟨gb191, 3, none⟩ = some (.int .u64 a0_3) := (blk_cell BK191.out 3).trans rfl; have hcz6_4 : w5.cell? ⟨gb191, 4, none⟩ = some (.int .u64 a0_4) := (blk_cell BK191.out 4).trans rfl; have hcz6_5 : w5.cell? ⟨gb191, 5, none⟩ = some (.int .u64 a0_5) := (blk_cell BK191.out 5).trans rfl; have hfz6_0 := blk_frozen BK191.out 0; have hfz6_1 := blk_frozen BK191.out 1; have hfz6_2 := blk_frozen BK191.out 2; have hfz6_3 := blk_frozen BK191.out 3; have hfz6_4 := blk_frozen BK191.out 4; have hfz6_5 := blk_frozen BK191.out 5) | ((with_reducible refine gate_callee (f := 98) rfl ?_); refine goesL_ (some 11) rfl rfl Tryd.func98 (by kernel_rfl) rfl #[.agg #[.int .i64 a0_0, .int .i64 a0_1, .int .i64 a0_2, .int .u64 a0_3, .int .u64 a0_4, .int .u64 a0_5]] rfl aV ?_; (with_reducible refine (spec_EmptyRoot.calls k a0_0 a0_1 a0_2 a0_3 a0_4 a0_5 t192 _ A4.out).mono ?_); rintro e w7 ⟨v193, rfl, ho0, hb⟩; refine ⟨_, rfl, ?_⟩; have n0_ := Aside0.mk (Kd.V_elder' (kV HO1.out) (Kd.R_base ho0) hb); have n1_ := Aside0.mk (Kd.R_lower (Kd.R_newM (M := fun k_ => (w.heap.size ≤ k_)) ho0 (below_size bB) (fun k_ h_ => h_)) (below_size bB)); have n2_ := Aside0.mk (blk_below (g := gb191) (o := .cells #[.int .i64 a0_0, .int .i64 a0_1, .int .i64 a0_2, .int .u64 a0_3, .int .u64 a0_4, .int .u64 a0_5] 24 (0, 0)) (kB BK191.out) hb); have n3_ := Aside0.mk (below_step bB hb); clear HO1; clear BK191; clear HB; have HO1 := n0_; have HO194 := n1_; have BK191 := n2_; have HB := n3_; clear n0_ n1_ n2_ n3_; (try clear hb); (try clear hb2); (try clear hk); (try clear hi); (try clear ho0)))
  go_ret
  exact ⟨_, by first | rfl | (simp [errW_none, errW_some] <;> rfl) | (simp [*, errW_none, errW_some] <;> rfl), Kd.V_mono (Kd.R_V (by (with_reducible repeat (first | apply Kd.R_alloc | apply Kd.R_drewN | apply Kd.R_drew)); exact Kd.R_mono HO194.out (fun _ hk => hk.1))) (fun k_ hk => by first | exact ⟨(.inr (hk.1)), hk.2⟩ | exact (.inr (hk))), bB⟩
 ·rw [if_neg c3] at H
  have c3b0 : ((l1.length : Int) == 0) = false := beq_eq_false_iff_ne.mpr c3
  have c3b1 : ((l1.length : Int) != 0) = true := bne_iff_ne.mpr c3
  have c3b2 : ¬ (l1 = []) := fun h_ => c3 (by rw [h_]; rfl)
  by_cases c8 : (l1.length : Int) = 1
  ·rw [if_pos c8] at H
   have c8b0 : ((l1.length : Int) == 1) = true := beq_iff_eq.mpr c8
   have c8b1 : ((l1.length : Int) != 1) = false := bne_eq_false_iff_eq.mpr c8
   clear c8
   by_cases c9 : 0 < (l1.length : Int)
   ·rw [if_pos c9] at H
    have c9b0 : decide (0 < (l1.length : Int)) = true := decide_eq_true c9
    have c9b1 : decide (0 < l1.length) = true := decide_eq_true (by omega)
    clear c9
    obtain rfl := Option.some.inj H
    go_enter Tryd.func64, Tryd.ntmps64
    go_wp2_with (first | ((with_reducible refine gate_dst (N := 2) rfl ?_); refine box_event ?hg (N := 2) ?hd (cs := #[.int .i64 a0_0, .int .i64 a0_1, .int .i64 a0_2, .int .u64 a0_3, .int .u64 a0_4, .int .u64 a0_5]) (t := 24) ?hr ?_; (case hd => rfl); (case hg => rfl); (case hr => first | (go_simp; done) | (go_simp; rfl)); intro gb191 hg w10 hbox hb; have n0_ := Aside0.mk (Kd.V_below (Kd.V_elderB (kV HO1.out) gb191 (Nat.le_of_eq hg.symm)) hb); have n1_ := Aside0.mk (below_step bB hb); have n2_ := Aside0.mk (hbox); have n3_ := Aside0.mk ((by rw [hg]; exact (below_size bB) : w.heap.size ≤ gb191)); have n4_ := Aside0.mk ((by rw [hg]; exact (below_size bB) : w.heap.size ≤ gb191)); clear HO1; clear HB; have HO1 := n0_; have HB := n1_; have BK191 := n2_; have GW191 := n3_; have GE191 := n4_; clear n0_ n1_ n2_ n3_ n4_; clear hb hbox hg; have p195 : 0 ≤ (0 : Int) := (by omega); have q195 : 0 < (l1.length : Int) := dA; obtain ⟨ad195, A195_0, c195_0, e195, hx195_0, hl195_0, hi195_0⟩ := at_L1 (Kd.V_reads' HO1.out).2.2 0 p195 q195; cases e195; obtain ⟨ce195, hce195, hMe195, hcc195⟩ := Kd.V_get HO1.out [] 0 p195 (by first | exact q195 | exact dA | (have e_ := (Kd.V_reads' HO1.out).1; omega)); obtain ⟨ua195_0, uc195_0, rfl, ul195_0, ge195_0⟩ := Kd.FK_slice_open hMe195; have hv195_0 := hcc195 0 _ rfl; rw [Nat.add_zero, show ((Kd.slice 5 (Kd.int .u8))).sz = 1 from rfl, Nat.mul_one] at hv195_0; replace hv195_0 := Option.some.inj (hv195_0.symm.trans hx195_0); injection hv195_0 with hva_ hvn_ hvc_; rw [hva_] at ge195_0; rw [hvc_] at ul195_0; have HL195_0 := Aside0.mk (show Kd.V (Kd.int .u8) 5 _ w.heap.size _ _ (rd_L1 l1 0) from Kd.V_mk ul195_0 ge195_0); clear hva_ hvn_ hvc_ ge195_0 ul195_0; clear hcc195 hce195; have qi195 : (0 < l1.length) = True := eq_true (by omega); (try rw [show ((0 : Int)).toNat = 0 from rfl] at hx195_0); (try rw [Addr.add_zero'] at hx195_0); have HR195_0 := Aside0.mk hi195_0; have HC195_0 := Aside0.mk hl195_0; clear hi195_0 hl195_0; replace p195 := eq_true p195; replace q195 := eq_true q195))
    go_ret
    exact ⟨_, by first | rfl | (simp [errW_none, errW_some] <;> rfl) | (simp [*, errW_none, errW_some] <;> rfl), by (with_reducible repeat (first | apply Kd.V_alloc | apply Kd.V_drewN | apply Kd.V_drew)); exact Kd.V_mono HL195_0.out (fun _ hk => hk.1), bB⟩
   ·rw [if_neg c9] at H
    exact absurd H (by simp)
  ·rw [if_neg c8] at H
   have c8b0 : ((l1.length : Int) == 1) = false := beq_eq_false_iff_ne.mpr c8
   have c8b1 : ((l1.length : Int) != 1) = true := bne_iff_ne.mpr c8
   replace H := Option.bind_eq_some_iff.mp H
   obtain ⟨t196, A110, H⟩ := H
   replace H : (if 0 ≤ t196 then (if t196 ≤ (l1.length : Int) then ((spec_Root.f k a0_0 a0_1 a0_2 a0_3 a0_4 a0_5 (l1.take (t196 : Int).toNat)).bind fun t202 => ((spec_Root.f k a0_0 a0_1 a0_2 a0_3 a0_4 a0_5 (l1.drop (t196 : Int).toNat)).bind fun t210 => ((spec_HashChildren.f k a0_0 a0_1 a0_2 a0_3 a0_4 a0_5 t202 t210).bind fun t213 => (some t213)))) else (none)) else (none)) = some r := H
   have A11 := Aside0.mk A110
   clear A110
   by_cases c12 : 0 ≤ t196
   ·rw [if_pos c12] at H
    have c12b0 := eq_true c12
    have c12b1 : decide (0 ≤ t196) = true := decide_eq_true c12
    clear c12
    by_cases c13 : t196 ≤ (l1.length : Int)
    ·rw [if_pos c13] at H
     have c13b0 := eq_true c13
     have c13b1 : decide (t196 ≤ (l1.length : Int)) = true := decide_eq_true c13
     clear c13
     obtain ⟨y197, hy197⟩ : ∃ y_ : List (List Int), y_ = (l1.take (t196 : Int).toNat) := ⟨_, rfl⟩
     replace H : ((spec_Root.f k a0_0 a0_1 a0_2 a0_3 a0_4 a0_5 y197).bind fun t202 => ((spec_Root.f k a0_0 a0_1 a0_2 a0_3 a0_4 a0_5 (l1.drop (t196 : Int).toNat)).bind fun t210 => ((spec_HashChildren.f k a0_0 a0_1 a0_2 a0_3 a0_4 a0_5 t202 t210).bind fun t213 => (some t213)))) = some r := by first | (rw [hy197]; with_reducible exact H) | (have H2_ := (Option.bind_some _ _).symm.trans H; rw [hy197]; with_reducible exact H2_) | (have H2_ := (Option.bind_some _ _).symm.trans H; with_reducible exact H2_) | with_reducible exact H | (rw [hy197]; exact H) | exact H
     have Ny197 := Aside0.mk hy197
     clear hy197
     replace H := Option.bind_eq_some_iff.mp H
     obtain ⟨t202, A140, H⟩ := H
     replace H : ((spec_Root.f k a0_0 a0_1 a0_2 a0_3 a0_4 a0_5 (l1.drop (t196 : Int).toNat)).bind fun t210 => ((spec_HashChildren.f k a0_0 a0_1 a0_2 a0_3 a0_4 a0_5 t202 t210).bind fun t213 => (some t213))) = some r := H
     have A14 := Aside0.mk A140
     clear A140
     have c15b0 := eq_true (dA : 0 ≤ t196)
     have c16b0 := eq_true (dA : t196 ≤ (l1.length : Int))
     obtain ⟨y205, hy205⟩ : ∃ y_ : List (List Int), y_ = (l1.drop (t196 : Int).toNat) := ⟨_, rfl⟩
     replace H : ((spec_Root.f k a0_0 a0_1 a0_2 a0_3 a0_4 a0_5 y205).bind fun t210 => ((spec_HashChildren.f k a0_0 a0_1 a0_2 a0_3 a0_4 a0_5 t202 t210).bind fun t213 => (some t213))) = some r := by first | (rw [hy205]; with_reducible exact H) | (have H2_ := (Option.bind_some _ _).symm.trans H; rw [hy205]; with_reducible exact H2_) | (have H2_ := (Option.bind_some _ _).symm.trans H; with_reducible exact H2_) | with_reducible exact H | (rw [hy205]; exact H) | exact H
     have Ny205 := Aside0.mk hy205
     clear hy205
     replace H := Option.bind_eq_some_iff.mp H
     obtain ⟨t210, A170, H⟩ := H
     replace H : ((spec_HashChildren.f k a0_0 a0_1 a0_2 a0_3 a0_4 a0_5 t202 t210).bind fun t213 => (some t213)) = some r := H
     have A17 := Aside0.mk A170
     clear A170
     replace H := Option.bind_eq_some_iff.mp H
     obtain ⟨t213, A180, H⟩ := H
     replace H : (some t213) = some r := H
     have A18 := Aside0.mk A180
     clear A180
     obtain rfl := Option.some.inj H
     go_enter Tryd.func64, Tryd.ntmps64
     try go_wp2_with (first | ((with_reducible refine gate_dst (N := 2) rfl ?_); refine box_event ?hg (N := 2) ?hd (cs := #[.int .i64 a0_0, .int .i64 a0_1, .int .i64 a0_2, .int .u64 a0_3, .int .u64 a0_4, .int .u64 a0_5]) (t := 24) ?hr ?_; (case hd => rfl); (case hg => rfl); (case hr => first | (go_simp; done) | (go_simp; rfl)); intro gb191 hg w19 hbox hb; have n0_ := Aside0.mk (Kd.V_below (Kd.V_elderB (kV HO1.out) gb191 (Nat.le_of_eq hg.symm)) hb); have n1_ := Aside0.mk (below_step bB hb); have n2_ := Aside0.mk (hbox); have n3_ := Aside0.mk ((by rw [hg]; exact (below_size bB) : w.heap.size ≤ gb191)); have n4_ := Aside0.mk ((by rw [hg]; exact (below_size bB) : w.heap.size ≤ gb191)); clear HO1; clear HB; have HO1 := n0_; have HB := n1_; have BK191 := n2_; have GW191 := n3_; have GE191 := n4_; clear n0_ n1_ n2_ n3_ n4_; clear hb hbox hg) | ((with_reducible refine gate_callee (f := 99) rfl ?_); refine goesL_ (some 20) rfl rfl Tryd.func99 (by kernel_rfl) rfl #[.int .u64 (IntKind.u64.wrap ((l1.length : Int)))] rfl aV ?_; (with_reducible refine (spec_split.calls k (IntKind.u64.wrap ((l1.length : Int))) t196 _ A11.out).mono ?_); rintro e w' ⟨rfl, ⟨nd, rfl⟩⟩; refine ⟨_, rfl, ?_⟩))
     (try (rw [drewN_self w19]; generalize hq_ : World.drewN w19 _ = w19; have n0_ : Aside0 (Kd.V (Kd.slice 5 (Kd.int .u8)) 27 w19 w.heap.size (fun k_ => (P1_ k_ ∨ w.heap.size ≤ k_) ∧ k_ ≠ gb191) (.slice A1 l1.length c1) l1) := ⟨by rw [← hq_]; exact (kV HO1.out)⟩; have n1_ : Aside0 (w19.heap[gb191]? = some (.cells #[.int .i64 a0_0, .int .i64 a0_1, .int .i64 a0_2, .int .u64 a0_3, .int .u64 a0_4, .int .u64 a0_5] 24 (0, 0))) := ⟨by rw [← hq_]; exact (kB BK191.out)⟩; have n2_ : Aside0 (Below w.heap.size w w19) := ⟨by rw [← hq_]; exact bB⟩; clear HO1 BK191 HB hq_; have HO1 := n0_; have BK191 := n1_; have HB := n2_; clear n0_ n1_ n2_))
     have n0_ := Aside0.mk (Kd.V_drew HO1.out)
     have n1_ := Aside0.mk (blk_drew BK191.out)
     have n2_ := Aside0.mk (below_drew1 HB.out)
     clear HO1
     clear BK191
     clear HB
     have HO1 := n0_
     have BK191 := n1_
     have HB := n2_
     clear n0_ n1_ n2_
     have q21 : (t196 : Int) ≤ ((l1.length : Int) : Int) := dA
     obtain ⟨i021, hi021, _, hsz21, _⟩ := info_parts info27
     have hroom21 : l1.length ≤ c1 := (Kd.V_reads' HO1.out).2.1
     have hC21 : Kd.F (Kd.slice 5 (Kd.int .u8)) _ _ A1 l1.length l1 := (Kd.V_at (base := w.heap.size) HO1.out).2.2
     have hcut21 := cut_to (P := Tryd.prog) 25 27 .u64 Tryd.underlying25 hi021 A1 l1.length c1 t196 dA q21 hroom21
     have hr21 := Kd.F_take (m := (t196 : Int).toNat) hC21 (by omega)
     have hy21 : y197.length = (t196 : Int).toNat := (by rw [Ny197.out, List.length_take]; omega)
     rw [← Ny197.out] at hr21
     rw [← hy21] at hcut21
     have HO201 := Aside0.mk (show Kd.V (Kd.slice 5 (Kd.int .u8)) 27 _ w.heap.size _ (.slice A1 y197.length c1) y197 from Kd.V_mk (by omega) hr21)
     have HC201 := Aside0.mk (show y197.length ≤ c1 from by omega)
     clear hr21 hC21 hroom21 hi021 hsz21
     have KY21 := Aside0.mk hy21
     clear hy21
     replace q21 := eq_true q21
     have q22 : (t196 : Int) ≤ ((l1.length : Int) : Int) := dA
     obtain ⟨i022, hi022, _, hsz22, _⟩ := info_parts info27
     have hroom22 : l1.length ≤ c1 := (Kd.V_reads' HO1.out).2.1
     have hC22 : Kd.F (Kd.slice 5 (Kd.int .u8)) _ _ A1 l1.length l1 := (Kd.V_at (base := w.heap.size) HO1.out).2.2
     have q022 : (0 : Int) ≤ (t196 : Int) := dA
     have hcut22 := cut_from (P := Tryd.prog) 25 27 .u64 Tryd.underlying25 hi022 1 hsz22 A1 l1.length c1 t196 q022 q22
     have hr22 := Kd.F_cut (m := (t196 : Int).toNat) (c := c1) hC22 (by omega) hroom22
     obtain ⟨A22, hA22⟩ : ∃ Aq_, Aq_ = (if c1 = (t196 : Int).toNat then A1 else (A1 : Option Addr).map (·.add ((t196 : Int).toNat * 1))) := ⟨_, rfl⟩
     obtain ⟨c22, hc22⟩ : ∃ cq_, cq_ = c1 - (t196 : Int).toNat := ⟨_, rfl⟩
     have hy22 : y205.length = l1.length - (t196 : Int).toNat := (by rw [Ny205.out, List.length_drop] <;> omega)
     rw [show (l1).drop (t196 : Int).toNat = y205 from Ny205.out.symm] at hr22
     replace hr22 : Kd.F (Kd.slice 5 (Kd.int .u8)) _ _ A22 y205.length y205 := (by rw [hA22]; exact hr22)
     rw [← hy22, ← hA22, ← hc22] at hcut22
     have HO209 := Aside0.mk (show Kd.V (Kd.slice 5 (Kd.int .u8)) 27 _ w.heap.size _ (.slice A22 y205.length c22) y205 from Kd.V_mk (by rw [hy22, hc22]; exact Nat.sub_le_sub_right hroom22 _) hr22)
     have HC209 := Aside0.mk (show y205.length ≤ c22 from by rw [hy22, hc22]; exact Nat.sub_le_sub_right hroom22 _)
     clear hr22 hC22 hroom22 hi022 hsz22 hc22
     have KY22 := Aside0.mk hy22
     have KA22 := Aside0.mk hA22
     clear hy22 hA22
     replace q22 := eq_true q22
     refine start_ (n := 13) (S := fun w' => w'.cell? ⟨gb191, 0, none⟩ = some (.int .i64 a0_0) ∧ w'.cell? ⟨gb191, 1, none⟩ = some (.int .i64 a0_1) ∧ w'.cell? ⟨gb191, 2, none⟩ = some (.int .i64 a0_2) ∧ w'.cell? ⟨gb191, 3, none⟩ = some (.int .u64 a0_3) ∧ w'.cell? ⟨gb191, 4, none⟩ = some (.int .u64 a0_4) ∧ w'.cell? ⟨gb191, 5, none⟩ = some (.int .u64 a0_5)) (ds := []) #[false, false, false, false, false, false, false, false, false, false, false, false, false] (by kernel_rfl) rfl rfl ⟨(blk_cell BK191.out 0).trans rfl, (blk_cell BK191.out 1).trans rfl, (blk_cell BK191.out 2).trans rfl, (blk_cell BK191.out 3).trans rfl, (blk_cell BK191.out 4).trans rfl, (blk_cell BK191.out 5).trans rfl⟩ (fun hHeld => ?_); refine with_tabW spec_Root.tab7 spec_Root.bits7 (fun HT_ HW_ => ?_)
     generalize w19.drew = w20 at HO1 BK191 HB HO201 HO209 hHeld ⊢
     refine pure_ (i := 2) (N := some 23) (v := ?_) (a' := ?_) #[false, false, true, false, false, false, false, false, false, false, false, false, false] rfl rfl (any_of HT_.out (by kernel_rfl)) (fun _ _ _ h => h) (Or.inl ⟨by rfl, ?_⟩) ?_ ?_
     rotate_left
     ·intro w'
      go_simp
      with_reducible rfl
     rotate_left
     ·simp only [Act.put, List.setIfInBounds_toArray, List.set_cons_zero, List.set_cons_succ, i64_w, i32_w]
      rfl
     refine pure_ (i := 3) (N := some 24) (v := ?_) (a' := ?_) #[false, false, true, true, false, false, false, false, false, false, false, false, false] rfl rfl (any_of HT_.out (by kernel_rfl)) (fun _ _ _ h => h) (Or.inl ⟨by rfl, ?_⟩) ?_ ?_
     rotate_left
     ·intro w'
      go_simp
      with_reducible rfl
     rotate_left
     ·simp only [Act.put, List.setIfInBounds_toArray, List.set_cons_zero, List.set_cons_succ, i64_w, i32_w]
      rfl
     refine pure_ (i := 4) (N := some 25) (v := ?_) (a' := ?_) #[false, false, true, true, true, false, false, false, false, false, false, false, false] rfl rfl (any_of HT_.out (by kernel_rfl)) (fun _ _ _ h => h) (Or.inl ⟨by rfl, ?_⟩) ?_ ?_
     rotate_left
     ·intro w'
      go_simp
      with_reducible rfl
     rotate_left
     ·simp only [Act.put, List.setIfInBounds_toArray, List.set_cons_zero, List.set_cons_succ, i64_w, i32_w]
      rfl
     refine pure_ (i := 7) (N := some 28) (v := ?_) (a' := ?_) #[false, false, true, true, true, false, false, true, false, false, false, false, false] rfl rfl (any_of HT_.out (by kernel_rfl)) (fun _ _ _ h => h) (Or.inl ⟨by rfl, ?_⟩) ?_ ?_
     rotate_left
     ·intro w'
      go_simp
      with_reducible rfl
     rotate_left
     ·simp only [Act.put, List.setIfInBounds_toArray, List.set_cons_zero, List.set_cons_succ, i64_w, i32_w]
      rfl
     refine pure_ (i := 8) (N := some 29) (v := ?_) (a' := ?_) #[false, false, true, true, true, false, false, true, true, false, false, false, false] rfl rfl (any_of HT_.out (by kernel_rfl)) (fun _ _ _ h => h) (Or.inl ⟨by rfl, ?_⟩) ?_ ?_
     rotate_left
     ·intro w'
      go_simp
      with_reducible rfl
     rotate_left
     ·simp only [Act.put, List.setIfInBounds_toArray, List.set_cons_zero, List.set_cons_succ, i64_w, i32_w]
      rfl
     refine pure_ (i := 9) (N := some 30) (v := ?_) (a' := ?_) #[false, false, true, true, true, false, false, true, true, true, false, false, false] rfl rfl (any_of HT_.out (by kernel_rfl)) (fun _ _ _ h => h) (Or.inl ⟨by rfl, ?_⟩) ?_ ?_
     rotate_left
     ·intro w'
      go_simp
      with_reducible rfl
     rotate_left
     ·simp only [Act.put, List.setIfInBounds_toArray, List.set_cons_zero, List.set_cons_succ, i64_w, i32_w]
      rfl
     refine take_ (i := 0) (N := some 21) (v := ?_) (a' := ?_) #[true, false, true, true, true, false, false, true, true, true, false, false, false] rfl rfl (take_ofW HT_.out HW_.out (by kernel_rfl)) (fun _ _ _ h => h) (Or.inl ⟨by rfl, ?_⟩) hHeld ?_ ?_
     rotate_left
     ·rintro w' ⟨s0, s1, s2, s3, s4, s5⟩
      go_simp
      with_reducible rfl
     rotate_left
     ·simp only [Act.put, List.setIfInBounds_toArray, List.set_cons_zero, List.set_cons_succ, i64_w, i32_w]
      rfl
     refine take_ (i := 1) (N := some 22) (v := ?_) (a' := ?_) #[true, true, true, true, true, false, false, true, true, true, false, false, false] rfl rfl (take_ofW HT_.out HW_.out (by kernel_rfl)) (fun _ _ _ h => h) (Or.inl ⟨by rfl, ?_⟩) hHeld ?_ ?_
     rotate_left
     ·rintro w' ⟨s0, s1, s2, s3, s4, s5⟩
      go_simp
      with_reducible rfl
     rotate_left
     ·simp only [Act.put, List.setIfInBounds_toArray, List.set_cons_zero, List.set_cons_succ, i64_w, i32_w]
      rfl
     refine take_ (i := 6) (N := some 27) (v := ?_) (a' := ?_) #[true, true, true, true, true, false, true, true, true, true, false, false, false] rfl rfl (take_ofW HT_.out HW_.out (by kernel_rfl)) (fun _ _ _ h => h) (Or.inl ⟨by rfl, ?_⟩) hHeld ?_ ?_
     rotate_left
     ·rintro w' ⟨s0, s1, s2, s3, s4, s5⟩
      go_simp
      with_reducible rfl
     rotate_left
     ·simp only [Act.put, List.setIfInBounds_toArray, List.set_cons_zero, List.set_cons_succ, i64_w, i32_w]
      rfl
     refine one_ (i := 5) (N := some 26) #[true, true, true, true, true, true, true, true, true, true, false, false, false] rfl rfl (one_of HT_.out (by kernel_rfl)) (by decide) (fun K hK => ?_)
     refine goes_ Tryd.func64 (by kernel_rfl) rfl #[.agg #[.int .i64 a0_0, .int .i64 a0_1, .int .i64 a0_2, .int .u64 a0_3, .int .u64 a0_4, .int .u64 a0_5], .slice A1 y197.length c1] (by rfl) rfl rfl aV ?_
     with_reducible refine (ih k (by omega) a0_0 a0_1 a0_2 a0_3 a0_4 a0_5 (fun k_ => ((P1_ k_ ∨ w.heap.size ≤ k_) ∧ k_ ≠ gb191)) _ _ y197 t202 _ ?side1 A14.out).mono ?_
     (case side1 => first | exact HO201.out | exact Kd.V_mono HO201.out (fun k_ h_ => by simp only [and_assoc] at h_ ⊢; exact h_))
     rintro e w23 ⟨v203, rfl, ho0, hb⟩
     refine ⟨_, rfl, ?_⟩
     have n0_ := Aside0.mk (Kd.V_below (kV HO1.out) hb)
     have n1_ := Aside0.mk (Kd.V_below (kV HO201.out) hb)
     have n2_ := Aside0.mk (Kd.V_below (kV HO209.out) hb)
     have n3_ := Aside0.mk (Kd.V_lower (Kd.V_mono (ok' := fun k_ => (P1_ k_ ∨ w.heap.size ≤ k_) ∧ k_ ≠ gb191) ho0 (fun k_ hk_ => ⟨Or.elim hk_ (fun hs_ => hs_.1) (fun hn_ => (.inr (Nat.le_trans (below_size bB) hn_))), Or.elim hk_ (fun hs_ => hs_.2) (fun hn_ => (Kd.freshB (g := gb191) (o := .cells #[.int .i64 a0_0, .int .i64 a0_1, .int .i64 a0_2, .int .u64 a0_3, .int .u64 a0_4, .int .u64 a0_5] 24 (0, 0)) (kB BK191.out) k_ hn_))⟩)) (below_size bB))
     have n4_ := Aside0.mk (blk_below (g := gb191) (o := .cells #[.int .i64 a0_0, .int .i64 a0_1, .int .i64 a0_2, .int .u64 a0_3, .int .u64 a0_4, .int .u64 a0_5] 24 (0, 0)) (kB BK191.out) hb)
     have n5_ := Aside0.mk (below_step bB hb)
     clear HO1
     clear HO201
     clear HO209
     clear BK191
     clear HB
     have HO1 := n0_
     have HO201 := n1_
     have HO209 := n2_
     have HO204 := n3_
     have BK191 := n4_
     have HB := n5_
     clear n0_ n1_ n2_ n3_ n4_ n5_
     (try clear hb)
     (try clear hb2)
     (try clear hk)
     (try clear hi)
     (try clear ho0)
     refine hK.out _ _ ⟨(blk_cell BK191.out 0).trans rfl, (blk_cell BK191.out 1).trans rfl, (blk_cell BK191.out 2).trans rfl, (blk_cell BK191.out 3).trans rfl, (blk_cell BK191.out 4).trans rfl, (blk_cell BK191.out 5).trans rfl⟩ (fun hHeld => ?_)
     clear hK K
     refine norm_ (a' := ?_) ?_ ?_
     rotate_left
     ·show Act.put _ (some 26) _ = _
      simp only [Act.put, List.setIfInBounds_toArray, List.set_cons_zero, List.set_cons_succ, i64_w, i32_w]
      rfl
     refine one_ (i := 10) (N := some 31) #[true, true, true, true, true, true, true, true, true, true, true, false, false] rfl rfl (one_of HT_.out (by kernel_rfl)) (by decide) (fun K hK => ?_)
     refine goes_ Tryd.func64 (by kernel_rfl) rfl #[.agg #[.int .i64 a0_0, .int .i64 a0_1, .int .i64 a0_2, .int .u64 a0_3, .int .u64 a0_4, .int .u64 a0_5], .slice A22 y205.length c22] (by rfl) rfl rfl aV ?_
     with_reducible refine (ih k (by omega) a0_0 a0_1 a0_2 a0_3 a0_4 a0_5 (fun k_ => ((P1_ k_ ∨ w.heap.size ≤ k_) ∧ k_ ≠ gb191)) _ _ y205 t210 _ ?side1 A17.out).mono ?_
     (case side1 => first | exact HO209.out | exact Kd.V_mono HO209.out (fun k_ h_ => by simp only [and_assoc] at h_ ⊢; exact h_))
     rintro e w24 ⟨v211, rfl, ho0, hb⟩
     refine ⟨_, rfl, ?_⟩
     have n0_ := Aside0.mk (Kd.V_below (kV HO1.out) hb)
     have n1_ := Aside0.mk (Kd.V_below (kV HO201.out) hb)
     have n2_ := Aside0.mk (Kd.V_below (kV HO209.out) hb)
     have n3_ := Aside0.mk (Kd.V_below (kV HO204.out) hb)
     have n4_ := Aside0.mk (Kd.V_lower (Kd.V_mono (ok' := fun k_ => (P1_ k_ ∨ w.heap.size ≤ k_) ∧ k_ ≠ gb191) ho0 (fun k_ hk_ => ⟨Or.elim hk_ (fun hs_ => hs_.1) (fun hn_ => (.inr (Nat.le_trans (below_size bB) hn_))), Or.elim hk_ (fun hs_ => hs_.2) (fun hn_ => (Kd.freshB (g := gb191) (o := .cells #[.int .i64 a0_0, .int .i64 a0_1, .int .i64 a0_2, .int .u64 a0_3, .int .u64 a0_4, .int .u64 a0_5] 24 (0, 0)) (kB BK191.out) k_ hn_))⟩)) (below_size bB))
     have n5_ := Aside0.mk (blk_below (g := gb191) (o := .cells #[.int .i64 a0_0, .int .i64 a0_1, .int .i64 a0_2, .int .u64 a0_3, .int .u64 a0_4, .int .u64 a0_5] 24 (0, 0)) (kB BK191.out) hb)
     have n6_ := Aside0.mk (below_step bB hb)
     clear HO1
     clear HO201
     clear HO209
     clear HO204
     clear BK191
     clear HB
     have HO1 := n0_
     have HO201 := n1_
     have HO209 := n2_
     have HO204 := n3_
     have HO212 := n4_
     have BK191 := n5_
     have HB := n6_
     clear n0_ n1_ n2_ n3_ n4_ n5_ n6_
     (try clear hb)
     (try clear hb2)
     (try clear hk)
     (try clear hi)
     (try clear ho0)
     obtain ⟨Ao25, co25, eo25⟩ := Kd.V_slice HO204.out
     (first | subst eo25 | (injection eo25 with f1_ f2_ f3_; have f4_ := f1_.symm; have f5_ := f3_.symm; clear f1_ f2_ f3_; subst f4_; subst f5_))
     obtain ⟨Ao26, co26, eo26⟩ := Kd.V_slice HO212.out
     (first | subst eo26 | (injection eo26 with f1_ f2_ f3_; have f4_ := f1_.symm; have f5_ := f3_.symm; clear f1_ f2_ f3_; subst f4_; subst f5_))
     refine hK.out _ _ ⟨(blk_cell BK191.out 0).trans rfl, (blk_cell BK191.out 1).trans rfl, (blk_cell BK191.out 2).trans rfl, (blk_cell BK191.out 3).trans rfl, (blk_cell BK191.out 4).trans rfl, (blk_cell BK191.out 5).trans rfl⟩ (fun hHeld => ?_)
     clear hK K
     refine norm_ (a' := ?_) ?_ ?_
     rotate_left
     ·show Act.put _ (some 31) _ = _
      simp only [Act.put, List.setIfInBounds_toArray, List.set_cons_zero, List.set_cons_succ, i64_w, i32_w]
      rfl
     refine one_ (i := 11) (N := some 32) #[true, true, true, true, true, true, true, true, true, true, true, true, false] rfl rfl (one_of HT_.out (by kernel_rfl)) (by decide) (fun K hK => ?_)
     refine goes_ Tryd.func97 (by kernel_rfl) rfl #[.agg #[.int .i64 a0_0, .int .i64 a0_1, .int .i64 a0_2, .int .u64 a0_3, .int .u64 a0_4, .int .u64 a0_5], .slice Ao25 t202.length co25, .slice Ao26 t210.length co26] (by rfl) rfl rfl aV ?_
     with_reducible refine (spec_HashChildren.calls k a0_0 a0_1 a0_2 a0_3 a0_4 a0_5 _ _ t202 _ _ t210 t213 _ ?side1 ?side2 ?side3 ?side4 A18.out).mono ?_
     (case side1 => repeat (first | exact (Kd.V_reads' HO204.out).2.2 | (with_reducible refine Kd.C_alloc ?_ _) | (with_reducible refine Kd.C_drewN ?_ _) | (with_reducible refine Kd.C_drew ?_)))
     (case side2 => exact (Kd.V_reads' HO204.out).2.1)
     (case side3 => repeat (first | exact (Kd.V_reads' HO212.out).2.2 | (with_reducible refine Kd.C_alloc ?_ _) | (with_reducible refine Kd.C_drewN ?_ _) | (with_reducible refine Kd.C_drew ?_)))
     (case side4 => exact (Kd.V_reads' HO212.out).2.1)
     rintro e w27 ⟨v214, rfl, ho0, hb⟩
     refine ⟨_, rfl, ?_⟩
     have n0_ := Aside0.mk (Kd.V_elder' (kV HO1.out) (Kd.R_base ho0) hb)
     have n1_ := Aside0.mk (Kd.V_elder' (kV HO201.out) (Kd.R_base ho0) hb)
     have n2_ := Aside0.mk (Kd.V_elder' (kV HO209.out) (Kd.R_base ho0) hb)
     have n3_ := Aside0.mk (Kd.V_elder' (kV HO204.out) (Kd.R_base ho0) hb)
     have n4_ := Aside0.mk (Kd.V_elder' (kV HO212.out) (Kd.R_base ho0) hb)
     have n5_ := Aside0.mk (Kd.R_lower (Kd.R_newM (M := fun k_ => (w.heap.size ≤ k_)) ho0 (below_size bB) (fun k_ h_ => h_)) (below_size bB))
     have n6_ := Aside0.mk (blk_below (g := gb191) (o := .cells #[.int .i64 a0_0, .int .i64 a0_1, .int .i64 a0_2, .int .u64 a0_3, .int .u64 a0_4, .int .u64 a0_5] 24 (0, 0)) (kB BK191.out) hb)
     have n7_ := Aside0.mk (below_step bB hb)
     clear HO1
     clear HO201
     clear HO209
     clear HO204
     clear HO212
     clear BK191
     clear HB
     have HO1 := n0_
     have HO201 := n1_
     have HO209 := n2_
     have HO204 := n3_
     have HO212 := n4_
     have HO215 := n5_
     have BK191 := n6_
     have HB := n7_
     clear n0_ n1_ n2_ n3_ n4_ n5_ n6_ n7_
     (try clear hb)
     (try clear hb2)
     (try clear hk)
     (try clear hi)
     (try clear ho0)
     refine hK.out _ _ ⟨(blk_cell BK191.out 0).trans rfl, (blk_cell BK191.out 1).trans rfl, (blk_cell BK191.out 2).trans rfl, (blk_cell BK191.out 3).trans rfl, (blk_cell BK191.out 4).trans rfl, (blk_cell BK191.out 5).trans rfl⟩ (fun hHeld => ?_)
     clear hK K
     refine norm_ (a' := ?_) ?_ ?_
     rotate_left
     ·show Act.put _ (some 32) _ = _
      simp only [Act.put, List.setIfInBounds_toArray, List.set_cons_zero, List.set_cons_succ, i64_w, i32_w]
      rfl
     refine pure_ (i := 12) (N := some 4) (v := ?_) (a' := ?_) #[true, true, true, true, true, true, true, true, true, true, true, true, true] rfl rfl (any_of HT_.out (by kernel_rfl)) (fun _ _ _ h => h) (Or.inl ⟨by rfl, ?_⟩) ?_ ?_
     rotate_left
     ·intro w'
      go_simp
      with_reducible rfl
     rotate_left
     ·simp only [Act.put, List.setIfInBounds_toArray, List.set_cons_zero, List.set_cons_succ, i64_w, i32_w]
      rfl
     refine done_ (done_of HT_.out (by kernel_rfl)) ?_
     try go_wp2
     go_ret
     exact ⟨_, by first | rfl | (simp [errW_none, errW_some] <;> rfl) | (simp [*, errW_none, errW_some] <;> rfl), Kd.V_mono (Kd.R_V (by (with_reducible repeat (first | apply Kd.R_alloc | apply Kd.R_drewN | apply Kd.R_drew)); exact Kd.R_mono HO215.out (fun _ hk => hk.1))) (fun k_ hk => by first | exact ⟨(.inr (hk.1)), hk.2⟩ | exact (.inr (hk))), bB⟩
    ·rw [if_neg c13] at H
     exact absurd H (by simp)
   ·rw [if_neg c12] at H
    exact absurd H (by simp)

end Go.Proofs.YtkmdkmlgahfcpaaDoor.M

