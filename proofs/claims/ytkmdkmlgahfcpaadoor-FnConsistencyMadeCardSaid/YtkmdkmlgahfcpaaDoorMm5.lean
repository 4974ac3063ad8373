-- Written by a program of ours (wip/xp) out of the translation; Lean checks it.
import Derived.Test.YtkmdkmlgahfcpaaDoorSq
import Derived.Test.YtkmdkmlgahfcpaaDoorMm1
import Derived.Test.YtkmdkmlgahfcpaaDoorMm3
import Derived.Test.YtkmdkmlgahfcpaaDoorMm4
namespace Go.Proofs.YtkmdkmlgahfcpaaDoor.M
open Go.RowKit Go.Proofs.YtkmdkmlgahfcpaaDoorW.PrintWords Go.Proofs.YtkmdkmlgahfcpaaDoorW.PrintLast Go.Proofs.YtkmdkmlgahfcpaaDoorW.PrintMore
attribute [local go_sem] max2_int min2_int max_two min_two max_three min_three max_four min_four   -- for this text's walks alone
set_option linter.unusedVariables false
set_option linter.unusedSimpArgs false

/-! ### spec_EmptyRoot: function 98 -/
def spec_EmptyRoot.f (k : Nat) (a0_0 : Int) (a0_1 : Int) (a0_2 : Int) (a0_3 : Int) (a0_4 : Int) (a0_5 : Int) : Option (List Int) := (spec_Terms.f a0_0 a0_1 a0_2 a0_3 a0_4 a0_5).bind fun t247 => (if t247 = true then (some (([2] : List Int))) else ((spec_word.f k a0_0 a0_1 a0_2 a0_3 a0_4 a0_5 a0_3 ([] : List Int)).bind fun t251 => (some t251)))
theorem spec_EmptyRoot.mono : ∀ a0 a1 a2 a3 a4 a5 k, LeO (spec_EmptyRoot.f k a0 a1 a2 a3 a4 a5) (spec_EmptyRoot.f (k + 1) a0 a1 a2 a3 a4 a5) := by
 intro a0 a1 a2 a3 a4 a5 k
 unfold spec_EmptyRoot.f
 repeat' first
   | (with_reducible exact spec_word.mono _ _ _ _ _ _ _ _ _)
   | (with_reducible exact LeO.refl _)
   | (with_reducible exact LeO.none _)
   | (with_reducible refine LeO.ite ?_ ?_)
   | (with_reducible refine LeO.bind ?_ (fun _ => ?_))
   | exact spec_word.mono _ _ _ _ _ _ _ _ _
   | exact LeO.none _
   | refine LeO.ite ?_ ?_
   | refine LeO.bind ?_ (fun _ => ?_)
set_option maxHeartbeats 8000000 in
set_option maxRecDepth 100000 in
theorem spec_EmptyRoot.calls (k : Nat) (a0_0 : Int) (a0_1 : Int) (a0_2 : Int) (a0_3 : Int) (a0_4 : Int) (a0_5 : Int) (r : List Int) (w : World) (h : spec_EmptyRoot.f k a0_0 a0_1 a0_2 a0_3 a0_4 a0_5 = some r) :
  Calls Tryd.prog 98 #[.agg #[.int .i64 a0_0, .int .i64 a0_1, .int .i64 a0_2, .int .u64 a0_3, .int .u64 a0_4, .int .u64 a0_5]] w fun e w' => ∃ v0_ : Value, e = .returned (v0_) ∧ Kd.R (Kd.int .u8) 5 w' w.heap.size (fun _ => True) v0_ r ∧ Below w.heap.size w w' := by
 have hu24 := Tryd.underlying24
 have HB := Aside0.mk (Below.refl w.heap.size w)
 have H : ((spec_Terms.f a0_0 a0_1 a0_2 a0_3 a0_4 a0_5).bind fun t247 => (if t247 = true then (some (([2] : List Int))) else ((spec_word.f k a0_0 a0_1 a0_2 a0_3 a0_4 a0_5 a0_3 ([] : List Int)).bind fun t251 => (some t251)))) = some r := h
 clear h
 replace H := Option.bind_eq_some_iff.mp H
 obtain ⟨t247, A20, H⟩ := H
 replace H : (if t247 = true then (some (([2] : List Int))) else ((spec_word.f k a0_0 a0_1 a0_2 a0_3 a0_4 a0_5 a0_3 ([] : List Int)).bind fun t251 => (some t251))) = some r := H
 have A2 := Aside0.mk A20
 clear A20
 by_cases c3 : t247 = true
 ·subst c3
  have H1 : (some (([2] : List Int))) = some r := by rw [if_pos rfl] at H; exact H
  clear H
  have H := H1
  clear H1
  obtain ⟨y248, hy248⟩ : ∃ y_ : List Int, y_ = (([2] : List Int)) := ⟨_, rfl⟩
  replace H : (some y248) = some r := by first | (rw [hy248]; with_reducible exact H) | (have H2_ := (Option.bind_some _ _).symm.trans H; rw [hy248]; with_reducible exact H2_) | (have H2_ := (Option.bind_some _ _).symm.trans H; with_reducible exact H2_) | with_reducible exact H | (rw [hy248]; exact H) | exact H
  have Ny248 := Aside0.mk hy248
  clear hy248
  obtain rfl := Option.some.inj H
  go_enter Tryd.func98, Tryd.ntmps98
  go_wp2_with (first | ((with_reducible refine gate_dst (N := 1) rfl ?_); refine box_event ?hg (N := 1) ?hd (cs := #[.int .i64 a0_0, .int .i64 a0_1, .int .i64 a0_2, .int .u64 a0_3, .int .u64 a0_4, .int .u64 a0_5]) (t := 24) ?hr ?_; (case hd => rfl); (case hg => rfl); (case hr => first | (go_simp; done) | (go_simp; rfl)); intro gb246 hg w4 hbox hb; have n0_ := Aside0.mk (below_step bB hb); have n1_ := Aside0.mk (hbox); have n2_ := Aside0.mk ((by rw [hg]; exact (below_size bB) : w.heap.size ≤ gb246)); have n3_ := Aside0.mk ((by rw [hg]; exact (below_size bB) : w.heap.size ≤ gb246)); clear HB; have HB := n0_; have BK246 := n1_; have GW246 := n2_; have GE246 := n3_; clear n0_ n1_ n2_ n3_; clear hb hbox hg; have hcz5_0 : w4.cell? ⟨gb246, 0, none⟩ = some (.int .i64 a0_0) := (blk_cell BK246.out 0).trans rfl; have hcz5_1 : w4.cell? ⟨gb246, 1, none⟩ = some (.int .i64 a0_1) := (blk_cell BK246.out 1).trans rfl; have hcz5_2 : w4.cell? ⟨gb246, 2, none⟩ = some (.int .i64 a0_2) := (blk_cell BK246.out 2).trans rfl; have hcz5_3 : w4.cell? ⟨gb246, 3, none⟩ = some (.int .u64 a0_3) := (blk_cell BK246.out 3).trans rfl; have hcz5_4 : w4.cell? ⟨gb246, 4, none⟩ = some (.int .u64 a0_4) := (blk_cell BK246.out 4).trans rfl; have hcz5_5 : w4.cell? ⟨gb246, 5, none⟩ = some (.int .u64 a0_5) := (blk_cell BK246.out 5).trans rfl; have hfz5_0 := blk_frozen BK246.out 0; have hfz5_1 := blk_frozen BK246.out 1; have hfz5_2 := blk_frozen BK246.out 2; have hfz5_3 := blk_frozen BK246.out 3; have hfz5_4 := blk_frozen BK246.out 4; have hfz5_5 := blk_frozen BK246.out 5) | ((with_reducible refine gate_callee (f := 16) rfl ?_); refine goesL_ (some 4) rfl rfl Tryd.func16 (by kernel_rfl) rfl #[.agg #[.int .i64 a0_0, .int .i64 a0_1, .int .i64 a0_2, .int .u64 a0_3, .int .u64 a0_4, .int .u64 a0_5]] rfl aV ?_; (with_reducible refine (spec_Terms.calls a0_0 a0_1 a0_2 a0_3 a0_4 a0_5 true _ A2.out).mono ?_); rintro e w6 ⟨rfl, hb⟩; refine ⟨_, rfl, ?_⟩; have n0_ := Aside0.mk (blk_below (g := gb246) (o := .cells #[.int .i64 a0_0, .int .i64 a0_1, .int .i64 a0_2, .int .u64 a0_3, .int .u64 a0_4, .int .u64 a0_5] 24 (0, 0)) (kB BK246.out) hb); have n1_ := Aside0.mk (below_step bB hb); clear BK246; clear HB; have BK246 := n0_; have HB := n1_; clear n0_ n1_; (try clear hb); (try clear hb2); (try clear hk); (try clear hi)) | ((with_reducible refine gate_dst (N := 5) rfl ?_); refine Kd.R_lit (Kd.int .u8) _ 5 ?hg (N := 5) ?hd (xs := ([2] : List Int)) (inner := [.int .u8 2]) (ok := fun _ => True) (okp := fun _ => True) ?hr ?hp (fun _ hk => hk) trivial (Below.refl _ _) (Nat.le_refl _) (by simp) ?_; (case hd => rfl); (case hg => rfl); (case hr => first | (go_simp; done) | (go_simp; rfl)); (case hp => exact (Reps.one (show Kd.M (Kd.int .u8) _ _ _ 2 [.int .u8 2] from rfl) (Reps.none _ _))); intro v249 w7 ho8 hb hg_ hnew_; clear hg_ hnew_; (first | rw [← Ny248.out] at ho8 | (simp only [Int.reduceToNat] at ho8; rw [← Ny248.out] at ho8)); have n0_ := Aside0.mk (Kd.R_lower ho8 (below_size bB)); have n1_ := Aside0.mk (blk_below (g := gb246) (o := .cells #[.int .i64 a0_0, .int .i64 a0_1, .int .i64 a0_2, .int .u64 a0_3, .int .u64 a0_4, .int .u64 a0_5] 24 (0, 0)) (kB BK246.out) hb); have n2_ := Aside0.mk (below_step bB hb); clear BK246; clear HB; have HO250 := n0_; have BK246 := n1_; have HB := n2_; clear n0_ n1_ n2_; clear hb ho8))
  go_ret
  exact ⟨_, by first | rfl | (simp [errW_none, errW_some] <;> rfl) | (simp [*, errW_none, errW_some] <;> rfl), by (with_reducible repeat (first | apply Kd.R_alloc | apply Kd.R_drewN | apply Kd.R_drew)); exact HO250.out, bB⟩
 ·replace c3 := Bool.eq_false_iff.mpr c3
  subst c3
  have H1 : ((spec_word.f k a0_0 a0_1 a0_2 a0_3 a0_4 a0_5 a0_3 ([] : List Int)).bind fun t251 => (some t251)) = some r := by rw [if_neg (show ¬ (false = true) by decide)] at H; exact H
  clear H
  have H := H1
  clear H1
  replace H := Option.bind_eq_some_iff.mp H
  obtain ⟨t251, A90, H⟩ := H
  replace H : (some t251) = some r := H
  have A9 := Aside0.mk A90
  clear A90
  obtain rfl := Option.some.inj H
  go_enter Tryd.func98, Tryd.ntmps98
  go_wp2_with (first | ((with_reducible refine gate_dst (N := 1) rfl ?_); refine box_event ?hg (N := 1) ?hd (cs := #[.int .i64 a0_0, .int .i64 a0_1, .int .i64 a0_2, .int .u64 a0_3, .int .u64 a0_4, .int .u64 a0_5]) (t := 24) ?hr ?_; (case hd => rfl); (case hg => rfl); (case hr => first | (go_simp; done) | (go_simp; rfl)); intro gb246 hg w10 hbox hb; have n0_ := Aside0.mk (below_step bB hb); have n1_ := Aside0.mk (hbox); have n2_ := Aside0.mk ((by rw [hg]; exact (below_size bB) : w.heap.size ≤ gb246)); have n3_ := Aside0.mk ((by rw [hg]; exact (below_size bB) : w.heap.size ≤ gb246)); clear HB; have HB := n0_; have BK246 := n1_; have GW246 := n2_; have GE246 := n3_; clear n0_ n1_ n2_ n3_; clear hb hbox hg; have hcz11_0 : w10.cell? ⟨gb246, 0, none⟩ = some (.int .i64 a0_0) := (blk_cell BK246.out 0).trans rfl; have hcz11_1 : w10.cell? ⟨gb246, 1, none⟩ = some (.int .i64 a0_1) := (blk_cell BK246.out 1).trans rfl; have hcz11_2 : w10.cell? ⟨gb246, 2, none⟩ = some (.int .i64 a0_2) := (blk_cell BK246.out 2).trans rfl; have hcz11_3 : w10.cell? ⟨gb246, 3, none⟩ = some (.int .u64 a0_3) := (blk_cell BK246.out 3).trans rfl; have hcz11_4 : w10.cell? ⟨gb246, 4, none⟩ = some (.int .u64 a0_4) := (blk_cell BK246.out 4).trans rfl; have hcz11_5 : w10.cell? ⟨gb246, 5, none⟩ = some (.int .u64 a0_5) := (blk_cell BK246.out 5).trans rfl; have hfz11_0 := blk_frozen BK246.out 0; have hfz11_1 := blk_frozen BK246.out 1; have hfz11_2 := blk_frozen BK246.out 2; have hfz11_3 := blk_frozen BK246.out 3; have hfz11_4 := blk_frozen BK246.out 4; have hfz11_5 := blk_frozen BK246.out 5) | ((with_reducible refine gate_callee (f := 16) rfl ?_); refine goesL_ (some 4) rfl rfl Tryd.func16 (by kernel_rfl) rfl #[.agg #[.int .i64 a0_0, .int .i64 a0_1, .int .i64 a0_2, .int .u64 a0_3, .int .u64 a0_4, .int .u64 a0_5]] rfl aV ?_; (with_reducible refine (spec_Terms.calls a0_0 a0_1 a0_2 a0_3 a0_4 a0_5 false _ A2.out).mono ?_); rintro e w12 ⟨rfl, hb⟩; refine ⟨_, rfl, ?_⟩; have n0_ := Aside0.mk (blk_below (g := gb246) (o := .cells #[.int .i64 a0_0, .int .i64 a0_1, .int .i64 a0_2, .int .u64 a0_3, .int .u64 a0_4, .int .u64 a0_5] 24 (0, 0)) (kB BK246.out) hb); have n1_ := Aside0.mk (below_step bB hb); clear BK246; clear HB; have BK246 := n0_; have HB := n1_; clear n0_ n1_; (try clear hb); (try clear hb2); (try clear hk); (try clear hi); have hcz13_0 : w12.cell? ⟨gb246, 0, none⟩ = some (.int .i64 a0_0) := (blk_cell BK246.out 0).trans rfl; have hcz13_1 : w12.cell? ⟨gb246, 1, none⟩ = some (.int .i64 a0_1) := (blk_cell BK246.out 1).trans rfl; have hcz13_2 : w12.cell? ⟨gb246, 2, none⟩ = some (.int .i64 a0_2) := (blk_cell BK246.out 2).trans rfl; have hcz13_3 : w12.cell? ⟨gb246, 3, none⟩ = some (.int .u64 a0_3) := (blk_cell BK246.out 3).trans rfl; have hcz13_4 : w12.cell? ⟨gb246, 4, none⟩ = some (.int .u64 a0_4) := (blk_cell BK246.out 4).trans rfl; have hcz13_5 : w12.cell? ⟨gb246, 5, none⟩ = some (.int .u64 a0_5) := (blk_cell BK246.out 5).trans rfl; have hfz13_0 := blk_frozen BK246.out 0; have hfz13_1 := blk_frozen BK246.out 1; have hfz13_2 := blk_frozen BK246.out 2; have hfz13_3 := blk_frozen BK246.out 3; have hfz13_4 := blk_frozen BK246.out 4; have hfz13_5 := blk_frozen BK246.out 5) | ((with_reducible refine gate_callee (f := 114) rfl ?_); refine goesL_ (some 9) rfl rfl Tryd.func114 (by kernel_rfl) rfl #[.agg #[.int .i64 a0_0, .int .i64 a0_1, .int .i64 a0_2, .int .u64 a0_3, .int .u64 a0_4, .int .u64 a0_5], .int .u64 a0_3, .slice none 0 0] rfl aV ?_; (refine (spec_word.calls k a0_0 a0_1 a0_2 a0_3 a0_4 a0_5 a0_3 _ _ ([] : List Int) t251 _ ?side1 ?side2 A9.out).mono ?_); (case side1 => exact Kd.C_nil _ _); (case side2 => exact Nat.le_refl _); rintro e w14 ⟨v252, rfl, ho0, hb⟩; refine ⟨_, rfl, ?_⟩; have n0_ := Aside0.mk (Kd.R_lower ho0 (below_size bB)); have n1_ := Aside0.mk (blk_below (g := gb246) (o := .cells #[.int .i64 a0_0, .int .i64 a0_1, .int .i64 a0_2, .int .u64 a0_3, .int .u64 a0_4, .int .u64 a0_5] 24 (0, 0)) (kB BK246.out) hb); have n2_ := Aside0.mk (below_step bB hb); clear BK246; clear HB; have HO253 := n0_; have BK246 := n1_; have HB := n2_; clear n0_ n1_ n2_; (try clear hb); (try clear hb2); (try clear hk); (try clear hi); (try clear ho0)))
  go_ret
  exact ⟨_, by first | rfl | (simp [errW_none, errW_some] <;> rfl) | (simp [*, errW_none, errW_some] <;> rfl), by (with_reducible repeat (first | apply Kd.R_alloc | apply Kd.R_drewN | apply Kd.R_drew)); exact HO253.out, bB⟩


/-! ### spec_split: function 99 -/
def spec_split.l0 : Nat → Int → Int → Option (Int)
 | 0, _, _ => none
 | k + 1, x0, x3 => if x3 < (IntKind.u64.wrap (x0 - x3)) then (spec_split.l0 k x0 (IntKind.u64.wrap (x3 * 2))) else (some x3)
def spec_split.f (k : Nat) (a0 : Int) : Option (Int) := spec_split.l0 k a0 1
theorem spec_split.mono_l : ∀ k, (∀ y0 y1, LeO (spec_split.l0 k y0 y1) (spec_split.l0 (k + 1) y0 y1))
 | 0 => fun _ _ r h => by simp [spec_split.l0] at h
 | k + 1 => by
  have ih0 := spec_split.mono_l k
  ·intro y0 y1
   unfold spec_split.l0
   repeat' first
   | (with_reducible exact ih0 _ _)
   | (with_reducible exact LeO.refl _)
   | (with_reducible exact LeO.none _)
   | (with_reducible refine LeO.ite ?_ ?_)
   | (with_reducible refine LeO.bind ?_ (fun _ => ?_))
   | exact ih0 _ _
   | exact LeO.none _
   | refine LeO.ite ?_ ?_
   | refine LeO.bind ?_ (fun _ => ?_)
theorem spec_split.mono : ∀ a0 k, LeO (spec_split.f k a0) (spec_split.f (k + 1) a0) := by
 intro a0 k
 have ih0 := spec_split.mono_l k
 unfold spec_split.f
 repeat' first
   | (with_reducible exact ih0 _ _)
   | (with_reducible exact LeO.refl _)
   | (with_reducible exact LeO.none _)
   | (with_reducible refine LeO.ite ?_ ?_)
   | (with_reducible refine LeO.bind ?_ (fun _ => ?_))
   | exact ih0 _ _
   | exact LeO.none _
   | refine LeO.ite ?_ ?_
   | refine LeO.bind ?_ (fun _ => ?_)
set_option maxHeartbeats 8000000 in
set_option maxRecDepth 100000 in
theorem spec_split.calls (k : Nat) (a0 : Int) (r : Int) (w : World) (h : spec_split.f k a0 = some r) :
  Calls Tryd.prog 99 #[.int .u64 a0] w fun e w' => e = .returned (.int .u64 r) ∧ Drawn0 w w' := by
 have H : (spec_split.l0 k a0 1) = some r := h
 clear h
 have H' := Aside0.mk H
 clear H
 go_enter Tryd.func99, Tryd.ntmps99
 go_wp2
 go_loopg [3] k (fun kq v3 w' => ∃ (x3_1 : Int), v3 = .int .u64 x3_1 ∧ Aside0 (spec_split.l0 kq a0 x3_1 = some r) ∧ Aside0 (kq ≤ k) ∧ Drawn0 w w')
 case atStart => exact ⟨(1), (by first | rfl | (simp; done) | (simp [*]; done)), H', ⟨Nat.le_refl _⟩, by repeat (first | exact Drawn0.refl _ | apply Drawn0.step)⟩
 case round =>
  clear H'
  obtain ⟨x3_1, rfl, HA, HK1, ⟨m1, rfl⟩⟩ := hrel
  cases gk with
  | zero => exact absurd HA.out (by simp [spec_split.l0])
  | succ k1 =>
   have H := HA.out
   clear HA
   simp only [spec_split.l0] at H
   by_cases c2 : x3_1 < (IntKind.u64.wrap (a0 - x3_1))
   ·rw [if_pos c2] at H
    have c2b0 : decide (x3_1 < (IntKind.u64.wrap (a0 - x3_1))) = true := decide_eq_true c2
    clear c2
    have H' := Aside0.mk H
    clear H
    go_wp2
    go_roundg k1
    case measure => have := HK1.out; omega
    case rel => exact ⟨(IntKind.u64.wrap (x3_1 * 2)), (by first | rfl | (simp; done) | (simp [*]; done)), H', ⟨by have := HK1.out; omega⟩, by repeat (first | exact Drawn0.refl _ | apply Drawn0.step)⟩
   ·rw [if_neg c2] at H
    have c2b0 : decide (x3_1 < (IntKind.u64.wrap (a0 - x3_1))) = false := decide_eq_false c2
    clear c2
    obtain rfl := Option.some.inj H
    go_wp2
    go_ret
    exact ⟨by first | rfl | (simp; done) | (simp [*]; done), by repeat (first | exact Drawn0.refl _ | apply Drawn0.step)⟩


/-! ### spec_Root: function 64 -/
def spec_Root.f : Nat → Int → Int → Int → Int → Int → Int → List (List Int) → Option (List Int)
 | 0, _, _, _, _, _, _, _ => none
 | k + 1, a0_0, a0_1, a0_2, a0_3, a0_4, a0_5, l1 => if (l1.length : Int) = 0 then ((spec_EmptyRoot.f k a0_0 a0_1 a0_2 a0_3 a0_4 a0_5).bind fun t255 => (some t255)) else (if (l1.length : Int) = 1 then (if 0 < (l1.length : Int) then (some (rd_L1 l1 0)) else (none)) else ((spec_split.f k (IntKind.u64.wrap ((l1.length : Int)))).bind fun t259 => (if 0 ≤ t259 then (if t259 ≤ (l1.length : Int) then ((spec_Root.f k a0_0 a0_1 a0_2 a0_3 a0_4 a0_5 (l1.take (t259 : Int).toNat)).bind fun t265 => ((spec_Root.f k a0_0 a0_1 a0_2 a0_3 a0_4 a0_5 (l1.drop (t259 : Int).toNat)).bind fun t273 => ((spec_HashChildren.f k a0_0 a0_1 a0_2 a0_3 a0_4 a0_5 t265 t273).bind fun t276 => (some t276)))) else (none)) else (none))))
theorem spec_Root.mono_l : ∀ k, (∀ y0 y1 y2 y3 y4 y5 y6, LeO (spec_Root.f k y0 y1 y2 y3 y4 y5 y6) (spec_Root.f (k + 1) y0 y1 y2 y3 y4 y5 y6))
 | 0 => fun _ _ _ _ _ _ _ r h => by simp [spec_Root.f] at h
 | k + 1 => by
  have ih0 := spec_Root.mono_l k
  ·intro y0 y1 y2 y3 y4 y5 y6
   unfold spec_Root.f
   repeat' first
   | (with_reducible exact ih0 _ _ _ _ _ _ _)
   | (with_reducible exact spec_EmptyRoot.mono _ _ _ _ _ _ _)
   | (with_reducible exact spec_HashChildren.mono _ _ _ _ _ _ _ _ _)
   | (with_reducible exact spec_split.mono _ _)
   | (with_reducible exact LeO.refl _)
   | (with_reducible exact LeO.none _)
   | (with_reducible refine LeO.ite ?_ ?_)
   | (with_reducible refine LeO.bind ?_ (fun _ => ?_))
   | exact ih0 _ _ _ _ _ _ _
   | exact spec_EmptyRoot.mono _ _ _ _ _ _ _
   | exact spec_HashChildren.mono _ _ _ _ _ _ _ _ _
   | exact spec_split.mono _ _
   | exact LeO.none _
   | refine LeO.ite ?_ ?_
   | refine LeO.bind ?_ (fun _ => ?_)
theorem spec_Root.mono : ∀ a0 a1 a2 a3 a4 a5 a6 k, LeO (spec_Root.f k a0 a1 a2 a3 a4 a5 a6) (spec_Root.f (k + 1) a0 a1 a2 a3 a4 a5 a6) := by
 intro a0 a1 a2 a3 a4 a5 a6 k
 have ih0 := spec_Root.mono_l k
 exact ih0 a0 a1 a2 a3 a4 a5 a6
def spec_Root.T7 : Bool × List (List Nat × List Nat) := (true, [([], []), ([], []), ([], []), ([], []), ([2, 3], [2, 3]), ([1, 4], [1, 4]), ([], []), ([], []), ([], []), ([7, 8], [7, 8]), ([6, 9, 5], [6, 9]), ([0, 5, 10, 10], [0, 5, 10]), ([11, 11, 0, 1, 2, 3, 4, 5, 6, 7, 8, 9, 10, 11], [11])])
def spec_Root.B7 : List Nat := [0, 0, 0, 0, 12, 30, 0, 0, 0, 384, 1022, 2047, 4095]
theorem spec_Root.tab7 : rtab .any (opsOf Tryd.f64 7) = spec_Root.T7 := by kernel_rfl
theorem spec_Root.bits7 : waitsOk spec_Root.T7.2 spec_Root.B7 = true := by kernel_rfl
set_option maxHeartbeats 8000000 in
set_option maxRecDepth 100000 in
theorem spec_Root.calls (k : Nat) : ∀ (a0_0 : Int) (a0_1 : Int) (a0_2 : Int) (a0_3 : Int) (a0_4 : Int) (a0_5 : Int) (P1_ : Nat → Prop) (A1 : Option Addr) (c1 : Nat) (l1 : List (List Int)) (r : List Int) (w : World) (hs1 : Kd.V (Kd.slice 5 (Kd.int .u8)) 27 w w.heap.size (fun k_ => P1_ k_) (.slice A1 l1.length c1) l1) (h : spec_Root.f k a0_0 a0_1 a0_2 a0_3 a0_4 a0_5 l1 = some r),
  Calls Tryd.prog 64 #[.agg #[.int .i64 a0_0, .int .i64 a0_1, .int .i64 a0_2, .int .u64 a0_3, .int .u64 a0_4, .int .u64 a0_5], .slice A1 l1.length c1] w fun e w' => ∃ v0_ : Value, e = .returned (v0_) ∧ Kd.V (Kd.int .u8) 5 w' w.heap.size (fun k_ => (P1_ k_ ∨ w.heap.size ≤ k_)) v0_ r ∧ Below w.heap.size w w' := by
 induction k using Nat.strongRecOn with
 | _ k ih =>
 intro a0_0 a0_1 a0_2 a0_3 a0_4 a0_5 P1_ A1 c1 l1 r w hs1 h
 cases k with
 | zero => exact absurd h (by simp [spec_Root.f])
 | succ k =>
 simp only [spec_Root.f] at h
 have hu24 := Tryd.underlying24
 have HO1 := Aside0.mk (show Kd.V (Kd.slice 5 (Kd.int .u8)) 27 w w.heap.size (fun k_ => (P1_ k_ ∨ w.heap.size ≤ k_)) (.slice A1 l1.length c1) l1 from Kd.V_mono hs1 (fun k_ hk => .inl hk))
 have HB := Aside0.mk (Below.refl w.heap.size w)
 have H : (if (l1.length : Int) = 0 then ((spec_EmptyRoot.f k a0_0 a0_1 a0_2 a0_3 a0_4 a0_5).bind fun t255 => (some t255)) else (if (l1.length : Int) = 1 then (if 0 < (l1.length : Int) then (some (rd_L1 l1 0)) else (none)) else ((spec_split.f k (IntKind.u64.wrap ((l1.length : Int)))).bind fun t259 => (if 0 ≤ t259 then (if t259 ≤ (l1.length : Int) then ((spec_Root.f k a0_0 a0_1 a0_2 a0_3 a0_4 a0_5 (l1.take (t259 : Int).toNat)).bind fun t265 => ((spec_Root.f k a0_0 a0_1 a0_2 a0_3 a0_4 a0_5 (l1.drop (t259 : Int).toNat)).bind fun t273 => ((spec_HashChildren.f k a0_0 a0_1 a0_2 a0_3 a0_4 a0_5 t265 t273).bind fun t276 => (some t276)))) else (none)) else (none))))) = some r := h
 clear h
 by_cases c3 : (l1.length : Int) = 0
 ·rw [if_pos c3] at H
  have c3b0 : ((l1.length : Int) == 0) = true := beq_iff_eq.mpr c3
  have c3b1 : ((l1.length : Int) != 0) = false := bne_eq_false_iff_eq.mpr c3
  clear c3
  replace H := Option.bind_eq_some_iff.mp H
  obtain ⟨t255, A40, H⟩ := H
  replace H : (some t255) = some r := H
  have A4 := Aside0.mk A40
  clear A40
  obtain rfl := Option.some.inj H
  go_enter Tryd.func64, Tryd.ntmps64
  go_wp2_with (first | ((with_reducible refine gate_dst (N := 2) rfl ?_); refine box_event ?hg (N := 2) ?hd (cs := #[.int .i64 a0_0, .int .i64 a0_1, .int .i64 a0_2, .int .u64 a0_3, .int .u64 a0_4, .int .u64 a0_5]) (t := 24) ?hr ?_; (case hd => rfl); (case hg => rfl); (case hr => first | (go_simp; done) | (go_simp; rfl)); intro gb254 hg w5 hbox hb; have n0_ := Aside0.mk (Kd.V_below (Kd.V_elderB (kV HO1.out) gb254 (Nat.le_of_eq hg.symm)) hb); have n1_ := Aside0.mk (below_step bB hb); have n2_ := Aside0.mk (hbox); have n3_ := Aside0.mk ((by rw [hg]; exact (below_size bB) : w.heap.size ≤ gb254)); have n4_ := Aside0.mk ((by rw [hg]; exact (below_size bB) : w.heap.size ≤ gb254)); clear HO1; clear HB; have HO1 := n0_; have HB := n1_; have BK254 := n2_; have GW254 := n3_; have GE254 := n4_; clear n0_ n1_ n2_ n3_ n4_; clear hb hbox hg; have hcz6_0 : w5.cell? ⟨gb254, 0, none⟩ = some (.int .i64 a0_0) := (blk_cell BK254.out 0).trans rfl; have hcz6_1 : w5.cell? ⟨gb254, 1, none⟩ = some (.int .i64 a0_1) := (blk_cell BK254.out 1).trans rfl; have hcz6_2 : w5.cell? ⟨gb254, 2, none⟩ = some (.int .i64 a0_2) := (blk_cell BK254.out 2).trans rfl; have hcz6_3 : w5.cell? ⟨gb254, 3, none⟩ = some (.int .u64 a0_3) := (blk_cell BK254.out 3).trans rfl; have hcz6_4 : w5.cell? ⟨gb254, 4, none⟩ = some (.int .u64 a0_4) := (blk_cell BK254.out 4).trans rfl; have hcz6_5 : w5.cell? ⟨gb254, 5, none⟩ = some (.int .u64 a0_5) := (blk_cell BK254.out 5).trans rfl; have hfz6_0 := blk_frozen BK254.out 0; have hfz6_1 := blk_frozen BK254.out 1; have hfz6_2 := blk_frozen BK254.out 2; have hfz6_3 := blk_frozen BK254.out 3; have hfz6_4 := blk_frozen BK254.out 4; have hfz6_5 := blk_frozen BK254.out 5) | ((with_reducible refine gate_callee (f := 98) rfl ?_); refine goesL_ (some 11) rfl rfl Tryd.func98 (by kernel_rfl) rfl #[.agg #[.int .i64 a0_0, .int .i64 a0_1, .int .i64 a0_2, .int .u64 a0_3, .int .u64 a0_4, .int .u64 a0_5]] rfl aV ?_; (with_reducible refine (spec_EmptyRoot.calls k a0_0 a0_1 a0_2 a0_3 a0_4 a0_5 t255 _ A4.out).mono ?_); rintro e w7 ⟨v256, rfl, ho0, hb⟩; refine ⟨_, rfl, ?_⟩; have n0_ := Aside0.mk (Kd.V_elder' (kV HO1.out) (Kd.R_base ho0) hb); have n1_ := Aside0.mk (Kd.R_lower (Kd.R_newM (M := fun k_ => (w.heap.size ≤ k_)) ho0 (below_size bB) (fun k_ h_ => h_)) (below_size bB)); have n2_ := Aside0.mk (blk_below (g := gb254) (o := .cells #[.int .i64 a0_0, .int .i64 a0_1, .int .i64 a0_2, .int .u64 a0_3, .int .u64 a0_4, .int .u64 a0_5] 24 (0, 0)) (kB BK254.out) hb); have n3_ := Aside0.mk (below_step bB hb); clear HO1; clear BK254; clear HB; have HO1 := n0_; have HO257 := n1_; have BK254 := n2_; have HB := n3_; clear n0_ n1_ n2_ n3_; (try clear hb); (try clear hb2); (try clear hk); (try clear hi); (try clear ho0)))
  go_ret
  exact ⟨_, by first | rfl | (simp [errW_none, errW_some] <;> rfl) | (simp [*, errW_none, errW_some] <;> rfl), Kd.V_mono (Kd.R_V (by (with_reducible repeat (first | apply Kd.R_alloc | apply Kd.R_drewN | apply Kd.R_drew)); exact Kd.R_mono HO257.out (fun _ hk => hk.1))) (fun k_ hk => by first | exact ⟨(.inr (hk.1)), hk.2⟩ | exact (.inr (hk))), bB⟩
 ·rw [if_neg c3] at H
  have c3b0 : ((l1.length : Int) == 0) = false := beq_eq_false_iff_ne.mpr c3
  have c3b1 : ((l1.length : Int) != 0) = true := bne_iff_ne.mpr c3
  have c3b2 : ¬ (l1 = []) := fun h_ => c3 (by rw [h_]; rfl)
  by_cases c8 : (l1.length : Int) = 1
  ·rw [if_pos c8] at H
   have c8b0 : ((l1.length : Int) == 1) = true := beq_iff_eq.mpr c8
   have c8b1 : ((l1.length : Int) != 1) = false := bne_eq_false_iff_eq.mpr c8
   clear c8
   by_cases c9 : 0 < (l1.length : Int)
   ·rw [if_pos c9] at H
    have c9b0 : decide (0 < (l1.length : Int)) = true := decide_eq_true c9
    have c9b1 : decide (0 < l1.length) = true := decide_eq_true (by omega)
    clear c9
    obtain rfl := Option.some.inj H
    go_enter Tryd.func64, Tryd.ntmps64
    go_wp2_with (first | ((with_reducible refine gate_dst (N := 2) rfl ?_); refine box_event ?hg (N := 2) ?hd (cs := #[.int .i64 a0_0, .int .i64 a0_1, .int .i64 a0_2, .int .u64 a0_3, .int .u64 a0_4, .int .u64 a0_5]) (t := 24) ?hr ?_; (case hd => rfl); (case hg => rfl); (case hr => first | (go_simp; done) | (go_simp; rfl)); intro gb254 hg w10 hbox hb; have n0_ := Aside0.mk (Kd.V_below (Kd.V_elderB (kV HO1.out) gb254 (Nat.le_of_eq hg.symm)) hb); have n1_ := Aside0.mk (below_step bB hb); have n2_ := Aside0.mk (hbox); have n3_ := Aside0.mk ((by rw [hg]; exact (below_size bB) : w.heap.size ≤ gb254)); have n4_ := Aside0.mk ((by rw [hg]; exact (below_size bB) : w.heap.size ≤ gb254)); clear HO1; clear HB; have HO1 := n0_; have HB := n1_; have BK254 := n2_; have GW254 := n3_; have GE254 := n4_; clear n0_ n1_ n2_ n3_ n4_; clear hb hbox hg; have p258 : 0 ≤ (0 : Int) := (by omega); have q258 : 0 < (l1.length : Int) := dA; obtain ⟨ad258, A258_0, c258_0, e258, hx258_0, hl258_0, hi258_0⟩ := at_L1 (Kd.V_reads' HO1.out).2.2 0 p258 q258; cases e258; obtain ⟨ce258, hce258, hMe258, hcc258⟩ := Kd.V_get HO1.out [] 0 p258 (by first | exact q258 | exact dA | (have e_ := (Kd.V_reads' HO1.out).1; omega)); obtain ⟨ua258_0, uc258_0, rfl, ul258_0, ge258_0⟩ := Kd.FK_slice_open hMe258; have hv258_0 := hcc258 0 _ rfl; rw [Nat.add_zero, show ((Kd.slice 5 (Kd.int .u8))).sz = 1 from rfl, Nat.mul_one] at hv258_0; replace hv258_0 := Option.some.inj (hv258_0.symm.trans hx258_0); injection hv258_0 with hva_ hvn_ hvc_; rw [hva_] at ge258_0; rw [hvc_] at ul258_0; have HL258_0 := Aside0.mk (show Kd.V (Kd.int .u8) 5 _ w.heap.size _ _ (rd_L1 l1 0) from Kd.V_mk ul258_0 ge258_0); clear hva_ hvn_ hvc_ ge258_0 ul258_0; clear hcc258 hce258; have qi258 : (0 < l1.length) = True := eq_true (by omega); (try rw [show ((0 : Int)).toNat = 0 from rfl] at hx258_0); (try rw [Addr.add_zero'] at hx258_0); have HR258_0 := Aside0.mk hi258_0; have HC258_0 := Aside0.mk hl258_0; clear hi258_0 hl258_0; replace p258 := eq_true p258; replace q258 := eq_true q258))
    go_ret
    exact ⟨_, by first | rfl | (simp [errW_none, errW_some] <;> rfl) | (simp [*, errW_none, errW_some] <;> rfl), by (with_reducible repeat (first | apply Kd.V_alloc | apply Kd.V_drewN | apply Kd.V_drew)); exact Kd.V_mono HL258_0.out (fun _ hk => hk.1), bB⟩
   ·rw [if_neg c9] at H
    exact absurd H (by simp)
  ·rw [if_neg c8] at H
   have c8b0 : ((l1.length : Int) == 1) = false := beq_eq_false_iff_ne.mpr c8
   have c8b1 : ((l1.length : Int) != 1) = true := bne_iff_ne.mpr c8
   replace H := Option.bind_eq_some_iff.mp H
   obtain ⟨t259, A110, H⟩ := H
   replace H : (if 0 ≤ t259 then (if t259 ≤ (l1.length : Int) then ((spec_Root.f k a0_0 a0_1 a0_2 a0_3 a0_4 a0_5 (l1.take (t259 : Int).toNat)).bind fun t265 => ((spec_Root.f k a0_0 a0_1 a0_2 a0_3 a0_4 a0_5 (l1.drop (t259 : Int).toNat)).bind fun t273 => ((spec_HashChildren.f k a0_0 a0_1 a0_2 a0_3 a0_4 a0_5 t265 t273).bind fun t276 => (some t276)))) else (none)) else (none)) = some r := H
   have A11 := Aside0.mk A110
   clear A110
   by_cases c12 : 0 ≤ t259
   ·rw [if_pos c12] at H
    have c12b0 := eq_true c12
    have c12b1 : decide (0 ≤ t259) = true := decide_eq_true c12
    clear c12
    by_cases c13 : t259 ≤ (l1.length : Int)
    ·rw [if_pos c13] at H
     have c13b0 := eq_true c13
     have c13b1 : decide (t259 ≤ (l1.length : Int)) = true := decide_eq_true c13
     clear c13
     obtain ⟨y260, hy260⟩ : ∃ y_ : List (List Int), y_ = (l1.take (t259 : Int).toNat) := ⟨_, rfl⟩
     replace H : ((spec_Root.f k a0_0 a0_1 a0_2 a0_3 a0_4 a0_5 y260).bind fun t265 => ((spec_Root.f k a0_0 a0_1 a0_2 a0_3 a0_4 a0_5 (l1.drop (t259 : Int).toNat)).bind fun t273 => ((spec_HashChildren.f k a0_0 a0_1 a0_2 a0_3 a0_4 a0_5 t265 t273).bind fun t276 => (some t276)))) = some r := by first | (rw [hy260]; with_reducible exact H) | (have H2_ := (Option.bind_some _ _).symm.trans H; rw [hy260]; with_reducible exact H2_) | (have H2_ := (Option.bind_some _ _).symm.trans H; with_reducible exact H2_) | with_reducible exact H | (rw [hy260]; exact H) | exact H
     have Ny260 := Aside0.mk hy260
     clear hy260
     replace H := Option.bind_eq_some_iff.mp H
     obtain ⟨t265, A140, H⟩ := H
     replace H : ((spec_Root.f k a0_0 a0_1 a0_2 a0_3 a0_4 a0_5 (l1.drop (t259 : Int).toNat)).bind fun t273 => ((spec_HashChildren.f k a0_0 a0_1 a0_2 a0_3 a0_4 a0_5 t265 t273).bind fun t276 => (some t276))) = some r := H
     have A14 := Aside0.mk A140
     clear A140
     have c15b0 := eq_true (dA : 0 ≤ t259)
     have c16b0 := eq_true (dA : t259 ≤ (l1.length : Int))
     obtain ⟨y268, hy268⟩ : ∃ y_ : List (List Int), y_ = (l1.drop (t259 : Int).toNat) := ⟨_, rfl⟩
     replace H : ((spec_Root.f k a0_0 a0_1 a0_2 a0_3 a0_4 a0_5 y268).bind fun t273 => ((spec_HashChildren.f k a0_0 a0_1 a0_2 a0_3 a0_4 a0_5 t265 t273).bind fun t276 => (some t276))) = some r := by first | (rw [hy268]; with_reducible exact H) | (have H2_ := (Option.bind_some _ _).symm.trans H; rw [hy268]; with_reducible exact H2_) | (have H2_ := (Option.bind_some _ _).symm.trans H; with_reducible exact H2_) | with_reducible exact H | (rw [hy268]; exact H) | exact H
     have Ny268 := Aside0.mk hy268
     clear hy268
     replace H := Option.bind_eq_some_iff.mp H
     obtain ⟨t273, A170, H⟩ := H
     replace H : ((spec_HashChildren.f k a0_0 a0_1 a0_2 a0_3 a0_4 a0_5 t265 t273).bind fun t276 => (some t276)) = some r := H
     have A17 := Aside0.mk A170
     clear A170
     replace H := Option.bind_eq_some_iff.mp H
     obtain ⟨t276, A180, H⟩ := H
     replace H : (some t276) = some r := H
     have A18 := Aside0.mk A180
     clear A180
     obtain rfl := Option.some.inj H
     go_enter Tryd.func64, Tryd.ntmps64
     try go_wp2_with (first | ((with_reducible refine gate_dst (N := 2) rfl ?_); refine box_event ?hg (N := 2) ?hd (cs := #[.int .i64 a0_0, .int .i64 a0_1, .int .i64 a0_2, .int .u64 a0_3, .int .u64 a0_4, .int .u64 a0_5]) (t := 24) ?hr ?_; (case hd => rfl); (case hg => rfl); (case hr => first | (go_simp; done) | (go_simp; rfl)); intro gb254 hg w19 hbox hb; have n0_ := Aside0.mk (Kd.V_below (Kd.V_elderB (kV HO1.out) gb254 (Nat.le_of_eq hg.symm)) hb); have n1_ := Aside0.mk (below_step bB hb); have n2_ := Aside0.mk (hbox); have n3_ := Aside0.mk ((by rw [hg]; exact (below_size bB) : w.heap.size ≤ gb254)); have n4_ := Aside0.mk ((by rw [hg]; exact (below_size bB) : w.heap.size ≤ gb254)); clear HO1; clear HB; have HO1 := n0_; have HB := n1_; have BK254 := n2_; have GW254 := n3_; have GE254 := n4_; clear n0_ n1_ n2_ n3_ n4_; clear hb hbox hg) | ((with_reducible refine gate_callee (f := 99) rfl ?_); refine goesL_ (some 20) rfl rfl Tryd.func99 (by kernel_rfl) rfl #[.int .u64 (IntKind.u64.wrap ((l1.length : Int)))] rfl aV ?_; (with_reducible refine (spec_split.calls k (IntKind.u64.wrap ((l1.length : Int))) t259 _ A11.out).mono ?_); rintro e w' ⟨rfl, ⟨nd, rfl⟩⟩; refine ⟨_, rfl, ?_⟩))
     (try (rw [drewN_self w19]; generalize hq_ : World.drewN w19 _ = w19; have n0_ : Aside0 (Kd.V (Kd.slice 5 (Kd.int .u8)) 27 w19 w.heap.size (fun k_ => (P1_ k_ ∨ w.heap.size ≤ k_) ∧ k_ ≠ gb254) (.slice A1 l1.length c1) l1) := ⟨by rw [← hq_]; exact (kV HO1.out)⟩; have n1_ : Aside0 (w19.heap[gb254]? = some (.cells #[.int .i64 a0_0, .int .i64 a0_1, .int .i64 a0_2, .int .u64 a0_3, .int .u64 a0_4, .int .u64 a0_5] 24 (0, 0))) := ⟨by rw [← hq_]; exact (kB BK254.out)⟩; have n2_ : Aside0 (Below w.heap.size w w19) := ⟨by rw [← hq_]; exact bB⟩; clear HO1 BK254 HB hq_; have HO1 := n0_; have BK254 := n1_; have HB := n2_; clear n0_ n1_ n2_))
     have n0_ := Aside0.mk (Kd.V_drew HO1.out)
     have n1_ := Aside0.mk (blk_drew BK254.out)
     have n2_ := Aside0.mk (below_drew1 HB.out)
     clear HO1
     clear BK254
     clear HB
     have HO1 := n0_
     have BK254 := n1_
     have HB := n2_
     clear n0_ n1_ n2_
     have q21 : (t259 : Int) ≤ ((l1.length : Int) : Int) := dA
     obtain ⟨i021, hi021, _, hsz21, _⟩ := info_parts info27
     have hroom21 : l1.length ≤ c1 := (Kd.V_reads' HO1.out).2.1
     have hC21 : Kd.F (Kd.slice 5 (Kd.int .u8)) _ _ A1 l1.length l1 := (Kd.V_at (base := w.heap.size) HO1.out).2.2
     have hcut21 := cut_to (P := Tryd.prog) 25 27 .u64 Tryd.underlying25 hi021 A1 l1.length c1 t259 dA q21 hroom21
     have hr21 := Kd.F_take (m := (t259 : Int).toNat) hC21 (by omega)
     have hy21 : y260.length = (t259 : Int).toNat := (by rw [Ny260.out, List.length_take]; omega)
     rw [← Ny260.out] at hr21
     rw [← hy21] at hcut21
     have HO264 := Aside0.mk (show Kd.V (Kd.slice 5 (Kd.int .u8)) 27 _ w.heap.size _ (.slice A1 y260.length c1) y260 from Kd.V_mk (by omega) hr21)
     have HC264 := Aside0.mk (show y260.length ≤ c1 from by omega)
     clear hr21 hC21 hroom21 hi021 hsz21
     have KY21 := Aside0.mk hy21
     clear hy21
     replace q21 := eq_true q21
     have q22 : (t259 : Int) ≤ ((l1.length : Int) : Int) := dA
     obtain ⟨i022, hi022, _, hsz22, _⟩ := info_parts info27
     have hroom22 : l1.length ≤ c1 := (Kd.V_reads' HO1.out).2.1
     have hC22 : Kd.F (Kd.slice 5 (Kd.int .u8)) _ _ A1 l1.length l1 := (Kd.V_at (base := w.heap.size) HO1.out).2.2
     have q022 : (0 : Int) ≤ (t259 : Int) := dA
     have hcut22 := cut_from (P := Tryd.prog) 25 27 .u64 Tryd.underlying25 hi022 1 hsz22 A1 l1.length c1 t259 q022 q22
     have hr22 := Kd.F_cut (m := (t259 : Int).toNat) (c := c1) hC22 (by omega) hroom22
     obtain ⟨A22, hA22⟩ : ∃ Aq_, Aq_ = (if c1 = (t259 : Int).toNat then A1 else (A1 : Option Addr).map (·.add ((t259 : Int).toNat * 1))) := ⟨_, rfl⟩
     obtain ⟨c22, hc22⟩ : ∃ cq_, cq_ = c1 - (t259 : Int).toNat := ⟨_, rfl⟩
     have hy22 : y268.length = l1.length - (t259 : Int).toNat := (by rw [Ny268.out, List.length_drop] <;> omega)
     rw [show (l1).drop (t259 : Int).toNat = y268 from Ny268.out.symm] at hr22
     replace hr22 : Kd.F (Kd.slice 5 (Kd.int .u8)) _ _ A22 y268.length y268 := (by rw [hA22]; exact hr22)
     rw [← hy22, ← hA22, ← hc22] at hcut22
     have HO272 := Aside0.mk (show Kd.V (Kd.slice 5 (Kd.int .u8)) 27 _ w.heap.size _ (.slice A22 y268.length c22) y268 from Kd.V_mk (by rw [hy22, hc22]; exact Nat.sub_le_sub_right hroom22 _) hr22)
     have HC272 := Aside0.mk (show y268.length ≤ c22 from by rw [hy22, hc22]; exact Nat.sub_le_sub_right hroom22 _)
     clear hr22 hC22 hroom22 hi022 hsz22 hc22
     have KY22 := Aside0.mk hy22
     have KA22 := Aside0.mk hA22
     clear hy22 hA22
     replace q22 := eq_true q22
     refine start_ (n := 13) (S := fun w' => w'.cell? ⟨gb254, 0, none⟩ = some (.int .i64 a0_0) ∧ w'.cell? ⟨gb254, 1, none⟩ = some (.int .i64 a0_1) ∧ w'.cell? ⟨gb254, 2, none⟩ = some (.int .i64 a0_2) ∧ w'.cell? ⟨gb254, 3, none⟩ = some (.int .u64 a0_3) ∧ w'.cell? ⟨gb254, 4, none⟩ = some (.int .u64 a0_4) ∧ w'.cell? ⟨gb254, 5, none⟩ = some (.int .u64 a0_5)) (ds := []) #[false, false, false, false, false, false, false, false, false, false, false, false, false] (by kernel_rfl) rfl rfl ⟨(blk_cell BK254.out 0).trans rfl, (blk_cell BK254.out 1).trans rfl, (blk_cell BK254.out 2).trans rfl, (blk_cell BK254.out 3).trans rfl, (blk_cell BK254.out 4).trans rfl, (blk_cell BK254.out 5).trans rfl⟩ (fun hHeld => ?_); refine with_tabW spec_Root.tab7 spec_Root.bits7 (fun HT_ HW_ => ?_)
     generalize w19.drew = w20 at HO1 BK254 HB HO264 HO272 hHeld ⊢
     refine pure_ (i := 2) (N := some 23) (v := ?_) (a' := ?_) #[false, false, true, false, false, false, false, false, false, false, false, false, false] rfl rfl (any_of HT_.out (by kernel_rfl)) (fun _ _ _ h => h) (Or.inl ⟨by rfl, ?_⟩) ?_ ?_
     rotate_left
     ·intro w'
      go_simp
      with_reducible rfl
     rotate_left
     ·simp only [Act.put, List.setIfInBounds_toArray, List.set_cons_zero, List.set_cons_succ, i64_w, i32_w]
      rfl
     refine pure_ (i := 3) (N := some 24) (v := ?_) (a' := ?_) #[false, false, true, true, false, false, false, false, false, false, false, false, false] rfl rfl (any_of HT_.out (by kernel_rfl)) (fun _ _ _ h => h) (Or.inl ⟨by rfl, ?_⟩) ?_ ?_
     rotate_left
     ·intro w'
      go_simp
      with_reducible rfl
     rotate_left
     ·simp only [Act.put, List.setIfInBounds_toArray, List.set_cons_zero, List.set_cons_succ, i64_w, i32_w]
      rfl
     refine pure_ (i := 4) (N := some 25) (v := ?_) (a' := ?_) #[false, false, true, true, true, false, false, false, false, false, false, false, false] rfl rfl (any_of HT_.out (by kernel_rfl)) (fun _ _ _ h => h) (Or.inl ⟨by rfl, ?_⟩) ?_ ?_
     rotate_left
     ·intro w'
      go_simp
      with_reducible rfl
     rotate_left
     ·simp only [Act.put, List.setIfInBounds_toArray, List.set_cons_zero, List.set_cons_succ, i64_w, i32_w]
      rfl
     refine pure_ (i := 7) (N := some 28) (v := ?_) (a' := ?_) #[false, false, true, true, true, false, false, true, false, false, false, false, false] rfl rfl (any_of HT_.out (by kernel_rfl)) (fun _ _ _ h => h) (Or.inl ⟨by rfl, ?_⟩) ?_ ?_
     rotate_left
     ·intro w'
      go_simp
      with_reducible rfl
     rotate_left
     ·simp only [Act.put, List.setIfInBounds_toArray, List.set_cons_zero, List.set_cons_succ, i64_w, i32_w]
      rfl
     refine pure_ (i := 8) (N := some 29) (v := ?_) (a' := ?_) #[false, false, true, true, true, false, false, true, true, false, false, false, false] rfl rfl (any_of HT_.out (by kernel_rfl)) (fun _ _ _ h => h) (Or.inl ⟨by rfl, ?_⟩) ?_ ?_
     rotate_left
     ·intro w'
      go_simp
      with_reducible rfl
     rotate_left
     ·simp only [Act.put, List.setIfInBounds_toArray, List.set_cons_zero, List.set_cons_succ, i64_w, i32_w]
      rfl
     refine pure_ (i := 9) (N := some 30) (v := ?_) (a' := ?_) #[false, false, true, true, true, false, false, true, true, true, false, false, false] rfl rfl (any_of HT_.out (by kernel_rfl)) (fun _ _ _ h => h) (Or.inl ⟨by rfl, ?_⟩) ?_ ?_
     rotate_left
     ·intro w'
      go_simp
      with_reducible rfl
     rotate_left
     ·simp only [Act.put, List.setIfInBounds_toArray, List.set_cons_zero, List.set_cons_succ, i64_w, i32_w]
      rfl
     refine take_ (i := 0) (N := some 21) (v := ?_) (a' := ?_) #[true, false, true, true, true, false, false, true, true, true, false, false, false] rfl rfl (take_ofW HT_.out HW_.out (by kernel_rfl)) (fun _ _ _ h => h) (Or.inl ⟨by rfl, ?_⟩) hHeld ?_ ?_
     rotate_left
     ·rintro w' ⟨s0, s1, s2, s3, s4, s5⟩
      go_simp
      with_reducible rfl
     rotate_left
     ·simp only [Act.put, List.setIfInBounds_toArray, List.set_cons_zero, List.set_cons_succ, i64_w, i32_w]
      rfl
     refine take_ (i := 1) (N := some 22) (v := ?_) (a' := ?_) #[true, true, true, true, true, false, false, true, true, true, false, false, false] rfl rfl (take_ofW HT_.out HW_.out (by kernel_rfl)) (fun _ _ _ h => h) (Or.inl ⟨by rfl, ?_⟩) hHeld ?_ ?_
     rotate_left
     ·rintro w' ⟨s0, s1, s2, s3, s4, s5⟩
      go_simp
      with_reducible rfl
     rotate_left
     ·simp only [Act.put, List.setIfInBounds_toArray, List.set_cons_zero, List.set_cons_succ, i64_w, i32_w]
      rfl
     refine take_ (i := 6) (N := some 27) (v := ?_) (a' := ?_) #[true, true, true, true, true, false, true, true, true, true, false, false, false] rfl rfl (take_ofW HT_.out HW_.out (by kernel_rfl)) (fun _ _ _ h => h) (Or.inl ⟨by rfl, ?_⟩) hHeld ?_ ?_
     rotate_left
     ·rintro w' ⟨s0, s1, s2, s3, s4, s5⟩
      go_simp
      with_reducible rfl
     rotate_left
     ·simp only [Act.put, List.setIfInBounds_toArray, List.set_cons_zero, List.set_cons_succ, i64_w, i32_w]
      rfl
     refine one_ (i := 5) (N := some 26) #[true, true, true, true, true, true, true, true, true, true, false, false, false] rfl rfl (one_of HT_.out (by kernel_rfl)) (by decide) (fun K hK => ?_)
     refine goes_ Tryd.func64 (by kernel_rfl) rfl #[.agg #[.int .i64 a0_0, .int .i64 a0_1, .int .i64 a0_2, .int .u64 a0_3, .int .u64 a0_4, .int .u64 a0_5], .slice A1 y260.length c1] (by rfl) rfl rfl aV ?_
     with_reducible refine (ih k (by omega) a0_0 a0_1 a0_2 a0_3 a0_4 a0_5 (fun k_ => ((P1_ k_ ∨ w.heap.size ≤ k_) ∧ k_ ≠ gb254)) _ _ y260 t265 _ ?side1 A14.out).mono ?_
     (case side1 => first | exact HO264.out | exact Kd.V_mono HO264.out (fun k_ h_ => by simp only [and_assoc] at h_ ⊢; exact h_))
     rintro e w23 ⟨v266, rfl, ho0, hb⟩
     refine ⟨_, rfl, ?_⟩
     have n0_ := Aside0.mk (Kd.V_below (kV HO1.out) hb)
     have n1_ := Aside0.mk (Kd.V_below (kV HO264.out) hb)
     have n2_ := Aside0.mk (Kd.V_below (kV HO272.out) hb)
     have n3_ := Aside0.mk (Kd.V_lower (Kd.V_mono (ok' := fun k_ => (P1_ k_ ∨ w.heap.size ≤ k_) ∧ k_ ≠ gb254) ho0 (fun k_ hk_ => ⟨Or.elim hk_ (fun hs_ => hs_.1) (fun hn_ => (.inr (Nat.le_trans (below_size bB) hn_))), Or.elim hk_ (fun hs_ => hs_.2) (fun hn_ => (Kd.freshB (g := gb254) (o := .cells #[.int .i64 a0_0, .int .i64 a0_1, .int .i64 a0_2, .int .u64 a0_3, .int .u64 a0_4, .int .u64 a0_5] 24 (0, 0)) (kB BK254.out) k_ hn_))⟩)) (below_size bB))
     have n4_ := Aside0.mk (blk_below (g := gb254) (o := .cells #[.int .i64 a0_0, .int .i64 a0_1, .int .i64 a0_2, .int .u64 a0_3, .int .u64 a0_4, .int .u64 a0_5] 24 (0, 0)) (kB BK254.out) hb)
     have n5_ := Aside0.mk (below_step bB hb)
     clear HO1
     clear HO264
     clear HO272
     clear BK254
     clear HB
     have HO1 := n0_
     have HO264 := n1_
     have HO272 := n2_
     have HO267 := n3_
     have BK254 := n4_
     have HB := n5_
     clear n0_ n1_ n2_ n3_ n4_ n5_
     (try clear hb)
     (try clear hb2)
     (try clear hk)
     (try clear hi)
     (try clear ho0)
     refine hK.out _ _ ⟨(blk_cell BK254.out 0).trans rfl, (blk_cell BK254.out 1).trans rfl, (blk_cell BK254.out 2).trans rfl, (blk_cell BK254.out 3).trans rfl, (blk_cell BK254.out 4).trans rfl, (blk_cell BK254.out 5).trans rfl⟩ (fun hHeld => ?_)
     clear hK K
     refine norm_ (a' := ?_) ?_ ?_
     rotate_left
     ·show Act.put _ (some 26) _ = _
      simp only [Act.put, List.setIfInBounds_toArray, List.set_cons_zero, List.set_cons_succ, i64_w, i32_w]
      rfl
     refine one_ (i := 10) (N := some 31) #[true, true, true, true, true, true, true, true, true, true, true, false, false] rfl rfl (one_of HT_.out (by kernel_rfl)) (by decide) (fun K hK => ?_)
     refine goes_ Tryd.func64 (by kernel_rfl) rfl #[.agg #[.int .i64 a0_0, .int .i64 a0_1, .int .i64 a0_2, .int .u64 a0_3, .int .u64 a0_4, .int .u64 a0_5], .slice A22 y268.length c22] (by rfl) rfl rfl aV ?_
     with_reducible refine (ih k (by omega) a0_0 a0_1 a0_2 a0_3 a0_4 a0_5 (fun k_ => ((P1_ k_ ∨ w.heap.size ≤ k_) ∧ k_ ≠ gb254)) _ _ y268 t273 _ ?side1 A17.out).mono ?_
     (case side1 => first | exact HO272.out | exact Kd.V_mono HO272.out (fun k_ h_ => by simp only [and_assoc] at h_ ⊢; exact h_))
     rintro e w24 ⟨v274, rfl, ho0, hb⟩
     refine ⟨_, rfl, ?_⟩
     have n0_ := Aside0.mk (Kd.V_below (kV HO1.out) hb)
     have n1_ := Aside0.mk (Kd.V_below (kV HO264.out) hb)
     have n2_ := Aside0.mk (Kd.V_below (kV HO272.out) hb)
     have n3_ := Aside0.mk (Kd.V_below (kV HO267.out) hb)
     have n4_ := Aside0.mk (Kd.V_lower (Kd.V_mono (ok' := fun k_ => (P1_ k_ ∨ w.heap.size ≤ k_) ∧ k_ ≠ gb254) ho0 (fun k_ hk_ => ⟨Or.elim hk_ (fun hs_ => hs_.1) (fun hn_ => (.inr (Nat.le_trans (below_size bB) hn_))), Or.elim hk_ (fun hs_ => hs_.2) (fun hn_ => (Kd.freshB (g := gb254) (o := .cells #[.int .i64 a0_0, .int .i64 a0_1, .int .i64 a0_2, .int .u64 a0_3, .int .u64 a0_4, .int .u64 a0_5] 24 (0, 0)) (kB BK254.out) k_ hn_))⟩)) (below_size bB))
     have n5_ := Aside0.mk (blk_below (g := gb254) (o := .cells #[.int .i64 a0_0, .int .i64 a0_1, .int .i64 a0_2, .int .u64 a0_3, .int .u64 a0_4, .int .u64 a0_5] 24 (0, 0)) (kB BK254.out) hb)
     have n6_ := Aside0.mk (below_step bB hb)
     clear HO1
     clear HO264
     clear HO272
     clear HO267
     clear BK254
     clear HB
     have HO1 := n0_
     have HO264 := n1_
     have HO272 := n2_
     have HO267 := n3_
     have HO275 := n4_
     have BK254 := n5_
     have HB := n6_
     clear n0_ n1_ n2_ n3_ n4_ n5_ n6_
     (try clear hb)
     (try clear hb2)
     (try clear hk)
     (try clear hi)
     (try clear ho0)
     obtain ⟨Ao25, co25, eo25⟩ := Kd.V_slice HO267.out
     (first | subst eo25 | (injection eo25 with f1_ f2_ f3_; have f4_ := f1_.symm; have f5_ := f3_.symm; clear f1_ f2_ f3_; subst f4_; subst f5_))
     obtain ⟨Ao26, co26, eo26⟩ := Kd.V_slice HO275.out
     (first | subst eo26 | (injection eo26 with f1_ f2_ f3_; have f4_ := f1_.symm; have f5_ := f3_.symm; clear f1_ f2_ f3_; subst f4_; subst f5_))
     refine hK.out _ _ ⟨(blk_cell BK254.out 0).trans rfl, (blk_cell BK254.out 1).trans rfl, (blk_cell BK254.out 2).trans rfl, (blk_cell BK254.out 3).trans rfl, (blk_cell BK254.out 4).trans rfl, (blk_cell BK254.out 5).trans rfl⟩ (fun hHeld => ?_)
     clear hK K
     refine norm_ (a' := ?_) ?_ ?_
     rotate_left
     ·show Act.put _ (some 31) _ = _
      simp only [Act.put, List.setIfInBounds_toArray, List.set_cons_zero, List.set_cons_succ, i64_w, i32_w]
      rfl
     refine one_ (i := 11) (N := some 32) #[true, true, true, true, true, true, true, true, true, true, true, true, false] rfl rfl (one_of HT_.out (by kernel_rfl)) (by decide) (fun K hK => ?_)
     refine goes_ Tryd.func97 (by kernel_rfl) rfl #[.agg #[.int .i64 a0_0, .int .i64 a0_1, .int .i64 a0_2, .int .u64 a0_3, .int .u64 a0_4, .int .u64 a0_5], .slice Ao25 t265.length co25, .slice Ao26 t273.length co26] (by rfl) rfl rfl aV ?_
     with_reducible refine (spec_HashChildren.calls k a0_0 a0_1 a0_2 a0_3 a0_4 a0_5 _ _ t265 _ _ t273 t276 _ ?side1 ?side2 ?side3 ?side4 A18.out).mono ?_
     (case side1 => repeat (first | exact (Kd.V_reads' HO267.out).2.2 | (with_reducible refine Kd.C_alloc ?_ _) | (with_reducible refine Kd.C_drewN ?_ _) | (with_reducible refine Kd.C_drew ?_)))
     (case side2 => exact (Kd.V_reads' HO267.out).2.1)
     (case side3 => repeat (first | exact (Kd.V_reads' HO275.out).2.2 | (with_reducible refine Kd.C_alloc ?_ _) | (with_reducible refine Kd.C_drewN ?_ _) | (with_reducible refine Kd.C_drew ?_)))
     (case side4 => exact (Kd.V_reads' HO275.out).2.1)
     rintro e w27 ⟨v277, rfl, ho0, hb⟩
     refine ⟨_, rfl, ?_⟩
     have n0_ := Aside0.mk (Kd.V_elder' (kV HO1.out) (Kd.R_base ho0) hb)
     have n1_ := Aside0.mk (Kd.V_elder' (kV HO264.out) (Kd.R_base ho0) hb)
     have n2_ := Aside0.mk (Kd.V_elder' (kV HO272.out) (Kd.R_base ho0) hb)
     have n3_ := Aside0.mk (Kd.V_elder' (kV HO267.out) (Kd.R_base ho0) hb)
     have n4_ := Aside0.mk (Kd.V_elder' (kV HO275.out) (Kd.R_base ho0) hb)
     have n5_ := Aside0.mk (Kd.R_lower (Kd.R_newM (M := fun k_ => (w.heap.size ≤ k_)) ho0 (below_size bB) (fun k_ h_ => h_)) (below_size bB))
     have n6_ := Aside0.mk (blk_below (g := gb254) (o := .cells #[.int .i64 a0_0, .int .i64 a0_1, .int .i64 a0_2, .int .u64 a0_3, .int .u64 a0_4, .int .u64 a0_5] 24 (0, 0)) (kB BK254.out) hb)
     have n7_ := Aside0.mk (below_step bB hb)
     clear HO1
     clear HO264
     clear HO272
     clear HO267
     clear HO275
     clear BK254
     clear HB
     have HO1 := n0_
     have HO264 := n1_
     have HO272 := n2_
     have HO267 := n3_
     have HO275 := n4_
     have HO278 := n5_
     have BK254 := n6_
     have HB := n7_
     clear n0_ n1_ n2_ n3_ n4_ n5_ n6_ n7_
     (try clear hb)
     (try clear hb2)
     (try clear hk)
     (try clear hi)
     (try clear ho0)
     refine hK.out _ _ ⟨(blk_cell BK254.out 0).trans rfl, (blk_cell BK254.out 1).trans rfl, (blk_cell BK254.out 2).trans rfl, (blk_cell BK254.out 3).trans rfl, (blk_cell BK254.out 4).trans rfl, (blk_cell BK254.out 5).trans rfl⟩ (fun hHeld => ?_)
     clear hK K
     refine norm_ (a' := ?_) ?_ ?_
     rotate_left
     ·show Act.put _ (some 32) _ = _
      simp only [Act.put, List.setIfInBounds_toArray, List.set_cons_zero, List.set_cons_succ, i64_w, i32_w]
      rfl
     refine pure_ (i := 12) (N := some 4) (v := ?_) (a' := ?_) #[true, true, true, true, true, true, true, true, true, true, true, true, true] rfl rfl (any_of HT_.out (by kernel_rfl)) (fun _ _ _ h => h) (Or.inl ⟨by rfl, ?_⟩) ?_ ?_
     rotate_left
     ·intro w'
      go_simp
      with_reducible rfl
     rotate_left
     ·simp only [Act.put, List.setIfInBounds_toArray, List.set_cons_zero, List.set_cons_succ, i64_w, i32_w]
      rfl
     refine done_ (done_of HT_.out (by kernel_rfl)) ?_
     try go_wp2
     go_ret
     exact ⟨_, by first | rfl | (simp [errW_none, errW_some] <;> rfl) | (simp [*, errW_none, errW_some] <;> rfl), Kd.V_mono (Kd.R_V (by (with_reducible repeat (first | apply Kd.R_alloc | apply Kd.R_drewN | apply Kd.R_drew)); exact Kd.R_mono HO278.out (fun _ hk => hk.1))) (fun k_ hk => by first | exact ⟨(.inr (hk.1)), hk.2⟩ | exact (.inr (hk))), bB⟩
    ·rw [if_neg c13] at H
     exact absurd H (by simp)
   ·rw [if_neg c12] at H
    exact absurd H (by simp)


/-! ### spec_RootOf: function 31 -/
def spec_RootOf.f (k : Nat) (a0_0 : Int) (a0_1 : Int) (a0_2 : Int) (a0_3 : Int) (a0_4 : Int) (a0_5 : Int) (l1 : List (List Int)) (a2_0 : Int) (a2_1 : Int) : Option (List Int) := if 0 ≤ a2_0 then (if a2_0 ≤ a2_1 then (if a2_1 ≤ (l1.length : Int) then ((spec_Root.f k a0_0 a0_1 a0_2 a0_3 a0_4 a0_5 ((l1.take (a2_1 : Int).toNat).drop (a2_0 : Int).toNat)).bind fun t286 => (some t286)) else (none)) else (none)) else (none)
theorem spec_RootOf.mono : ∀ a0 a1 a2 a3 a4 a5 a6 a7 a8 k, LeO (spec_RootOf.f k a0 a1 a2 a3 a4 a5 a6 a7 a8) (spec_RootOf.f (k + 1) a0 a1 a2 a3 a4 a5 a6 a7 a8) := by
 intro a0 a1 a2 a3 a4 a5 a6 a7 a8 k
 unfold spec_RootOf.f
 repeat' first
   | (with_reducible exact spec_Root.mono _ _ _ _ _ _ _ _)
   | (with_reducible exact LeO.refl _)
   | (with_reducible exact LeO.none _)
   | (with_reducible refine LeO.ite ?_ ?_)
   | (with_reducible refine LeO.bind ?_ (fun _ => ?_))
   | exact spec_Root.mono _ _ _ _ _ _ _ _
   | exact LeO.none _
   | refine LeO.ite ?_ ?_
   | refine LeO.bind ?_ (fun _ => ?_)
def spec_RootOf.T1 : Bool × List (List Nat × List Nat) := (true, [([], []), ([], []), ([], []), ([2], [2]), ([], []), ([4], [4]), ([1, 3, 5], [1, 3, 5]), ([0, 6], [0, 6]), ([7, 7, 0, 1, 2, 3, 4, 5, 6, 7], [7])])
def spec_RootOf.B1 : List Nat := [0, 0, 0, 4, 0, 16, 62, 127, 255]
theorem spec_RootOf.tab1 : rtab .any (opsOf Tryd.f31 1) = spec_RootOf.T1 := by kernel_rfl
theorem spec_RootOf.bits1 : waitsOk spec_RootOf.T1.2 spec_RootOf.B1 = true := by kernel_rfl
set_option maxHeartbeats 8000000 in
set_option maxRecDepth 100000 in
theorem spec_RootOf.calls (k : Nat) (a0_0 : Int) (a0_1 : Int) (a0_2 : Int) (a0_3 : Int) (a0_4 : Int) (a0_5 : Int) (P1_ : Nat → Prop) (A1 : Option Addr) (c1 : Nat) (l1 : List (List Int)) (a2_0 : Int) (a2_1 : Int) (r : List Int) (w : World) (hs1 : Kd.V (Kd.slice 5 (Kd.int .u8)) 27 w w.heap.size (fun k_ => P1_ k_) (.slice A1 l1.length c1) l1) (h : spec_RootOf.f k a0_0 a0_1 a0_2 a0_3 a0_4 a0_5 l1 a2_0 a2_1 = some r) :
  Calls Tryd.prog 31 #[.agg #[.int .i64 a0_0, .int .i64 a0_1, .int .i64 a0_2, .int .u64 a0_3, .int .u64 a0_4, .int .u64 a0_5], .slice A1 l1.length c1, .agg #[.int .u64 a2_0, .int .u64 a2_1]] w fun e w' => ∃ v0_ : Value, e = .returned (v0_) ∧ Kd.V (Kd.int .u8) 5 w' w.heap.size (fun k_ => (P1_ k_ ∨ w.heap.size ≤ k_)) v0_ r ∧ Below w.heap.size w w' := by
 have hu24 := Tryd.underlying24
 have hu57 := Tryd.underlying57
 have HO1 := Aside0.mk (show Kd.V (Kd.slice 5 (Kd.int .u8)) 27 w w.heap.size (fun k_ => (P1_ k_ ∨ w.heap.size ≤ k_)) (.slice A1 l1.length c1) l1 from Kd.V_mono hs1 (fun k_ hk => .inl hk))
 have HB := Aside0.mk (Below.refl w.heap.size w)
 have H : (if 0 ≤ a2_0 then (if a2_0 ≤ a2_1 then (if a2_1 ≤ (l1.length : Int) then ((spec_Root.f k a0_0 a0_1 a0_2 a0_3 a0_4 a0_5 ((l1.take (a2_1 : Int).toNat).drop (a2_0 : Int).toNat)).bind fun t286 => (some t286)) else (none)) else (none)) else (none)) = some r := h
 clear h
 by_cases c4 : 0 ≤ a2_0
 ·rw [if_pos c4] at H
  have c4b0 := eq_true c4
  have c4b1 : decide (0 ≤ a2_0) = true := decide_eq_true c4
  clear c4
  by_cases c5 : a2_0 ≤ a2_1
  ·rw [if_pos c5] at H
   have c5b0 := eq_true c5
   have c5b1 : decide (a2_0 ≤ a2_1) = true := decide_eq_true c5
   clear c5
   by_cases c6 : a2_1 ≤ (l1.length : Int)
   ·rw [if_pos c6] at H
    have c6b0 := eq_true c6
    have c6b1 : decide (a2_1 ≤ (l1.length : Int)) = true := decide_eq_true c6
    clear c6
    obtain ⟨y281, hy281⟩ : ∃ y_ : List (List Int), y_ = ((l1.take (a2_1 : Int).toNat).drop (a2_0 : Int).toNat) := ⟨_, rfl⟩
    replace H : ((spec_Root.f k a0_0 a0_1 a0_2 a0_3 a0_4 a0_5 y281).bind fun t286 => (some t286)) = some r := by first | (rw [hy281]; with_reducible exact H) | (have H2_ := (Option.bind_some _ _).symm.trans H; rw [hy281]; with_reducible exact H2_) | (have H2_ := (Option.bind_some _ _).symm.trans H; with_reducible exact H2_) | with_reducible exact H | (rw [hy281]; exact H) | exact H
    have Ny281 := Aside0.mk hy281
    clear hy281
    replace H := Option.bind_eq_some_iff.mp H
    obtain ⟨t286, A70, H⟩ := H
    replace H : (some t286) = some r := H
    have A7 := Aside0.mk A70
    clear A70
    obtain rfl := Option.some.inj H
    go_enter Tryd.func31, Tryd.ntmps31
    try go_wp2_with (first | ((with_reducible refine gate_dst (N := 3) rfl ?_); refine box_event ?hg (N := 3) ?hd (cs := #[.int .i64 a0_0, .int .i64 a0_1, .int .i64 a0_2, .int .u64 a0_3, .int .u64 a0_4, .int .u64 a0_5]) (t := 24) ?hr ?_; (case hd => rfl); (case hg => rfl); (case hr => first | (go_simp; done) | (go_simp; rfl)); intro gb279 hg w8 hbox hb; have n0_ := Aside0.mk (Kd.V_below (Kd.V_elderB (kV HO1.out) gb279 (Nat.le_of_eq hg.symm)) hb); have n1_ := Aside0.mk (below_step bB hb); have n2_ := Aside0.mk (hbox); have n3_ := Aside0.mk ((by rw [hg]; exact (below_size bB) : w.heap.size ≤ gb279)); have n4_ := Aside0.mk ((by rw [hg]; exact (below_size bB) : w.heap.size ≤ gb279)); clear HO1; clear HB; have HO1 := n0_; have HB := n1_; have BK279 := n2_; have GW279 := n3_; have GE279 := n4_; clear n0_ n1_ n2_ n3_ n4_; clear hb hbox hg) | ((with_reducible refine gate_dst (N := 5) rfl ?_); refine box_event ?hg (N := 5) ?hd (cs := #[.int .u64 a2_0, .int .u64 a2_1]) (t := 57) ?hr ?_; (case hd => rfl); (case hg => rfl); (case hr => first | (go_simp; done) | (go_simp; rfl)); intro gb280 hg w9 hbox hb; have n0_ := Aside0.mk (Kd.V_below (Kd.V_elderB (kV HO1.out) gb280 (Nat.le_of_eq hg.symm)) hb); have n1_ := Aside0.mk (blk_below (g := gb279) (o := .cells #[.int .i64 a0_0, .int .i64 a0_1, .int .i64 a0_2, .int .u64 a0_3, .int .u64 a0_4, .int .u64 a0_5] 24 (0, 0)) (kB BK279.out) hb); have n2_ := Aside0.mk (below_step bB hb); have n3_ := Aside0.mk (hbox); have n4_ := Aside0.mk ((by rw [hg]; exact (below_size bB) : w.heap.size ≤ gb280)); have n5_ := Aside0.mk ((by rw [hg]; exact (below_size bB) : w.heap.size ≤ gb280)); have n6_ := Aside0.mk ((by rw [hg]; exact Nat.ne_of_lt (blk_lt (g := gb279) (o := .cells #[.int .i64 a0_0, .int .i64 a0_1, .int .i64 a0_2, .int .u64 a0_3, .int .u64 a0_4, .int .u64 a0_5] 24 (0, 0)) (kB BK279.out)) : gb279 ≠ gb280)); have n7_ := Aside0.mk ((by rw [hg]; exact Nat.ne_of_gt (blk_lt (g := gb279) (o := .cells #[.int .i64 a0_0, .int .i64 a0_1, .int .i64 a0_2, .int .u64 a0_3, .int .u64 a0_4, .int .u64 a0_5] 24 (0, 0)) (kB BK279.out)) : gb280 ≠ gb279)); clear HO1; clear BK279; clear HB; have HO1 := n0_; have BK279 := n1_; have HB := n2_; have BK280 := n3_; have GW280 := n4_; have GE280 := n5_; have NB279_280 := n6_; have NB280_279 := n7_; clear n0_ n1_ n2_ n3_ n4_ n5_ n6_ n7_; clear hb hbox hg))
    have n0_ := Aside0.mk (Kd.V_drew HO1.out)
    have n1_ := Aside0.mk (blk_drew BK279.out)
    have n2_ := Aside0.mk (blk_drew BK280.out)
    have n3_ := Aside0.mk (below_drew1 HB.out)
    clear HO1
    clear BK279
    clear BK280
    clear HB
    have HO1 := n0_
    have BK279 := n1_
    have BK280 := n2_
    have HB := n3_
    clear n0_ n1_ n2_ n3_
    have q11 : (a2_1 : Int) ≤ ((l1.length : Int) : Int) := dA
    obtain ⟨i011, hi011, _, hsz11, _⟩ := info_parts info27
    have hroom11 : l1.length ≤ c1 := (Kd.V_reads' HO1.out).2.1
    have hC11 : Kd.F (Kd.slice 5 (Kd.int .u8)) _ _ A1 l1.length l1 := (Kd.V_at (base := w.heap.size) HO1.out).2.2
    have ql11 : (a2_0 : Int) ≤ (a2_1 : Int) := dA
    have q011 : (0 : Int) ≤ (a2_0 : Int) := dA
    have hcut11 := cut_mid (P := Tryd.prog) 25 27 .u64 .u64 Tryd.underlying25 hi011 1 hsz11 A1 l1.length c1 a2_0 a2_1 q011 ql11 q11 hroom11
    have hr11 := Kd.F_mid (lo := (a2_0 : Int).toNat) (hi := (a2_1 : Int).toNat) (c := c1) hC11 (by omega) (by omega) hroom11
    obtain ⟨A11, hA11⟩ : ∃ Aq_, Aq_ = (if c1 = (a2_0 : Int).toNat then A1 else (A1 : Option Addr).map (·.add ((a2_0 : Int).toNat * 1))) := ⟨_, rfl⟩
    obtain ⟨c11, hc11⟩ : ∃ cq_, cq_ = c1 - (a2_0 : Int).toNat := ⟨_, rfl⟩
    have hy11 : y281.length = (a2_1 : Int).toNat - (a2_0 : Int).toNat := (by rw [Ny281.out, List.length_drop, List.length_take] <;> omega)
    rw [show ((l1).take (a2_1 : Int).toNat).drop (a2_0 : Int).toNat = y281 from Ny281.out.symm] at hr11
    replace hr11 : Kd.F (Kd.slice 5 (Kd.int .u8)) _ _ A11 y281.length y281 := (by rw [hA11]; exact hr11)
    rw [← hy11, ← hA11, ← hc11] at hcut11
    have HO285 := Aside0.mk (show Kd.V (Kd.slice 5 (Kd.int .u8)) 27 _ w.heap.size _ (.slice A11 y281.length c11) y281 from Kd.V_mk (by rw [hy11, hc11]; exact Nat.sub_le_sub_right (Nat.le_trans (by omega) hroom11) _) hr11)
    have HC285 := Aside0.mk (show y281.length ≤ c11 from by rw [hy11, hc11]; exact Nat.sub_le_sub_right (Nat.le_trans (by omega) hroom11) _)
    clear hr11 hC11 hroom11 hi011 hsz11 hc11
    have KY11 := Aside0.mk hy11
    have KA11 := Aside0.mk hA11
    clear hy11 hA11
    replace q11 := eq_true q11
    refine start_ (n := 9) (S := fun w' => w'.cell? ⟨gb279, 0, none⟩ = some (.int .i64 a0_0) ∧ w'.cell? ⟨gb279, 1, none⟩ = some (.int .i64 a0_1) ∧ w'.cell? ⟨gb279, 2, none⟩ = some (.int .i64 a0_2) ∧ w'.cell? ⟨gb279, 3, none⟩ = some (.int .u64 a0_3) ∧ w'.cell? ⟨gb279, 4, none⟩ = some (.int .u64 a0_4) ∧ w'.cell? ⟨gb279, 5, none⟩ = some (.int .u64 a0_5) ∧ w'.cell? ⟨gb280, 0, none⟩ = some (.int .u64 a2_0) ∧ w'.cell? ⟨gb280, 1, none⟩ = some (.int .u64 a2_1)) (ds := []) #[false, false, false, false, false, false, false, false, false] (by kernel_rfl) rfl rfl ⟨(blk_cell BK279.out 0).trans rfl, (blk_cell BK279.out 1).trans rfl, (blk_cell BK279.out 2).trans rfl, (blk_cell BK279.out 3).trans rfl, (blk_cell BK279.out 4).trans rfl, (blk_cell BK279.out 5).trans rfl, (blk_cell BK280.out 0).trans rfl, (blk_cell BK280.out 1).trans rfl⟩ (fun hHeld => ?_); refine with_tabW spec_RootOf.tab1 spec_RootOf.bits1 (fun HT_ HW_ => ?_)
    generalize w9.drew = w10 at HO1 BK279 BK280 HB HO285 hHeld ⊢
    refine pure_ (i := 1) (N := some 8) (v := ?_) (a' := ?_) #[false, true, false, false, false, false, false, false, false] rfl rfl (any_of HT_.out (by kernel_rfl)) (fun _ _ _ h => h) (Or.inl ⟨by rfl, ?_⟩) ?_ ?_
    rotate_left
    ·intro w'
     go_simp
     with_reducible rfl
    rotate_left
    ·simp only [Act.put, List.setIfInBounds_toArray, List.set_cons_zero, List.set_cons_succ, i64_w, i32_w]
     rfl
    refine pure_ (i := 2) (N := some 9) (v := ?_) (a' := ?_) #[false, true, true, false, false, false, false, false, false] rfl rfl (any_of HT_.out (by kernel_rfl)) (fun _ _ _ h => h) (Or.inl ⟨by rfl, ?_⟩) ?_ ?_
    rotate_left
    ·intro w'
     go_simp
     with_reducible rfl
    rotate_left
    ·simp only [Act.put, List.setIfInBounds_toArray, List.set_cons_zero, List.set_cons_succ, i64_w, i32_w]
     rfl
    refine pure_ (i := 4) (N := some 11) (v := ?_) (a' := ?_) #[false, true, true, false, true, false, false, false, false] rfl rfl (any_of HT_.out (by kernel_rfl)) (fun _ _ _ h => h) (Or.inl ⟨by rfl, ?_⟩) ?_ ?_
    rotate_left
    ·intro w'
     go_simp
     with_reducible rfl
    rotate_left
    ·simp only [Act.put, List.setIfInBounds_toArray, List.set_cons_zero, List.set_cons_succ, i64_w, i32_w]
     rfl
    refine take_ (i := 0) (N := some 7) (v := ?_) (a' := ?_) #[true, true, true, false, true, false, false, false, false] rfl rfl (take_ofW HT_.out HW_.out (by kernel_rfl)) (fun _ _ _ h => h) (Or.inl ⟨by rfl, ?_⟩) hHeld ?_ ?_
    rotate_left
    ·rintro w' ⟨s0, s1, s2, s3, s4, s5, s6, s7⟩
     go_simp
     with_reducible rfl
    rotate_left
    ·simp only [Act.put, List.setIfInBounds_toArray, List.set_cons_zero, List.set_cons_succ, i64_w, i32_w]
     rfl
    refine take_ (i := 3) (N := some 10) (v := ?_) (a' := ?_) #[true, true, true, true, true, false, false, false, false] rfl rfl (take_ofW HT_.out HW_.out (by kernel_rfl)) (fun _ _ _ h => h) (Or.inl ⟨by rfl, ?_⟩) hHeld ?_ ?_
    rotate_left
    ·rintro w' ⟨s0, s1, s2, s3, s4, s5, s6, s7⟩
     go_simp
     with_reducible rfl
    rotate_left
    ·simp only [Act.put, List.setIfInBounds_toArray, List.set_cons_zero, List.set_cons_succ, i64_w, i32_w]
     rfl
    refine take_ (i := 5) (N := some 12) (v := ?_) (a' := ?_) #[true, true, true, true, true, true, false, false, false] rfl rfl (take_ofW HT_.out HW_.out (by kernel_rfl)) (fun _ _ _ h => h) (Or.inl ⟨by rfl, ?_⟩) hHeld ?_ ?_
    rotate_left
    ·rintro w' ⟨s0, s1, s2, s3, s4, s5, s6, s7⟩
     go_simp
     with_reducible rfl
    rotate_left
    ·simp only [Act.put, List.setIfInBounds_toArray, List.set_cons_zero, List.set_cons_succ, i64_w, i32_w]
     rfl
    refine pure_ (i := 6) (N := some 13) (v := ?_) (a' := ?_) #[true, true, true, true, true, true, true, false, false] rfl rfl (any_of HT_.out (by kernel_rfl)) (fun _ _ _ h => h) (Or.inl ⟨by rfl, ?_⟩) ?_ ?_
    rotate_left
    ·intro w'
     go_simp
     with_reducible rfl
    rotate_left
    ·simp only [Act.put, List.setIfInBounds_toArray, List.set_cons_zero, List.set_cons_succ, i64_w, i32_w]
     rfl
    refine one_ (i := 7) (N := some 14) #[true, true, true, true, true, true, true, true, false] rfl rfl (one_of HT_.out (by kernel_rfl)) (by decide) (fun K hK => ?_)
    refine goes_ Tryd.func64 (by kernel_rfl) rfl #[.agg #[.int .i64 a0_0, .int .i64 a0_1, .int .i64 a0_2, .int .u64 a0_3, .int .u64 a0_4, .int .u64 a0_5], .slice A11 y281.length c11] (by rfl) rfl rfl aV ?_
    with_reducible refine (spec_Root.calls k a0_0 a0_1 a0_2 a0_3 a0_4 a0_5 (fun k_ => (((P1_ k_ ∨ w.heap.size ≤ k_) ∧ k_ ≠ gb279) ∧ k_ ≠ gb280)) _ _ y281 t286 _ ?side1 A7.out).mono ?_
    (case side1 => first | exact HO285.out | exact Kd.V_mono HO285.out (fun k_ h_ => by simp only [and_assoc] at h_ ⊢; exact h_))
    rintro e w12 ⟨v287, rfl, ho0, hb⟩
    refine ⟨_, rfl, ?_⟩
    have n0_ := Aside0.mk (Kd.V_below (kV HO1.out) hb)
    have n1_ := Aside0.mk (Kd.V_below (kV HO285.out) hb)
    have n2_ := Aside0.mk (Kd.V_lower (Kd.V_mono (ok' := fun k_ => (P1_ k_ ∨ w.heap.size ≤ k_) ∧ k_ ≠ gb279 ∧ k_ ≠ gb280) ho0 (fun k_ hk_ => ⟨Or.elim hk_ (fun hs_ => hs_.1.1) (fun hn_ => (.inr (Nat.le_trans (below_size bB) hn_))), Or.elim hk_ (fun hs_ => hs_.1.2) (fun hn_ => (Kd.freshB (g := gb279) (o := .cells #[.int .i64 a0_0, .int .i64 a0_1, .int .i64 a0_2, .int .u64 a0_3, .int .u64 a0_4, .int .u64 a0_5] 24 (0, 0)) (kB BK279.out) k_ hn_)), Or.elim hk_ (fun hs_ => hs_.2) (fun hn_ => (Kd.freshB (g := gb280) (o := .cells #[.int .u64 a2_0, .int .u64 a2_1] 57 (0, 0)) (kB BK280.out) k_ hn_))⟩)) (below_size bB))
    have n3_ := Aside0.mk (blk_below (g := gb279) (o := .cells #[.int .i64 a0_0, .int .i64 a0_1, .int .i64 a0_2, .int .u64 a0_3, .int .u64 a0_4, .int .u64 a0_5] 24 (0, 0)) (kB BK279.out) hb)
    have n4_ := Aside0.mk (blk_below (g := gb280) (o := .cells #[.int .u64 a2_0, .int .u64 a2_1] 57 (0, 0)) (kB BK280.out) hb)
    have n5_ := Aside0.mk (below_step bB hb)
    clear HO1
    clear HO285
    clear BK279
    clear BK280
    clear HB
    have HO1 := n0_
    have HO285 := n1_
    have HO288 := n2_
    have BK279 := n3_
    have BK280 := n4_
    have HB := n5_
    clear n0_ n1_ n2_ n3_ n4_ n5_
    (try clear hb)
    (try clear hb2)
    (try clear hk)
    (try clear hi)
    (try clear ho0)
    refine hK.out _ _ ⟨(blk_cell BK279.out 0).trans rfl, (blk_cell BK279.out 1).trans rfl, (blk_cell BK279.out 2).trans rfl, (blk_cell BK279.out 3).trans rfl, (blk_cell BK279.out 4).trans rfl, (blk_cell BK279.out 5).trans rfl, (blk_cell BK280.out 0).trans rfl, (blk_cell BK280.out 1).trans rfl⟩ (fun hHeld => ?_)
    clear hK K
    refine norm_ (a' := ?_) ?_ ?_
    rotate_left
    ·show Act.put _ (some 14) _ = _
     simp only [Act.put, List.setIfInBounds_toArray, List.set_cons_zero, List.set_cons_succ, i64_w, i32_w]
     rfl
    refine pure_ (i := 8) (N := some 6) (v := ?_) (a' := ?_) #[true, true, true, true, true, true, true, true, true] rfl rfl (any_of HT_.out (by kernel_rfl)) (fun _ _ _ h => h) (Or.inl ⟨by rfl, ?_⟩) ?_ ?_
    rotate_left
    ·intro w'
     go_simp
     with_reducible rfl
    rotate_left
    ·simp only [Act.put, List.setIfInBounds_toArray, List.set_cons_zero, List.set_cons_succ, i64_w, i32_w]
     rfl
    refine done_ (done_of HT_.out (by kernel_rfl)) ?_
    try go_wp2
    go_ret
    exact ⟨_, by first | rfl | (simp [errW_none, errW_some] <;> rfl) | (simp [*, errW_none, errW_some] <;> rfl), by (with_reducible repeat (first | apply Kd.V_alloc | apply Kd.V_drewN | apply Kd.V_drew)); exact Kd.V_mono HO288.out (fun _ hk => hk.1), bB⟩
   ·rw [if_neg c6] at H
    exact absurd H (by simp)
  ·rw [if_neg c5] at H
   exact absurd H (by simp)
 ·rw [if_neg c4] at H
  exact absurd H (by simp)


/-! ### errors_New: function 80 -/
def errors_New.f (a0 : ByteArray) : Option (Option Int) := some (some 0)
theorem errors_New.calls (a0 : ByteArray) (r : Option Int) (w : World) (h : errors_New.f a0 = some r) :
  Calls Tryd.prog 80 #[.string a0] w fun e w' => ∃ (T_ : Int → TypeId) (X_ : Int → Value), e = .returned (errW T_ X_ r) ∧ Below w.heap.size w w' := by
 injection h with h
 subst h
 go_enter Tryd.func80, Tryd.ntmps80
 go_wp2
 go_ret
 exact ⟨fun _ => 178, fun _ => .pointer (some ⟨w.heap.size, 0, none⟩), rfl, (Below.refl _ _).alloc (Nat.le_refl _) _⟩

end Go.Proofs.YtkmdkmlgahfcpaaDoor.M

