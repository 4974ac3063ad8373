-- Written by a program of ours (wip/xp) out of the translation; Lean checks it.
import Derived.Test.YtkkkaegocinkeaaDoorMm1
import Derived.Test.YtkkkaegocinkeaaDoorMm5
import Derived.Test.YtkkkaegocinkeaaDoorMm4
namespace Go.Proofs.YtkkkaegocinkeaaDoor.M
open Go.RowKit Go.Proofs.YtkkkaegocinkeaaDoorW.PrintWords Go.Proofs.YtkkkaegocinkeaaDoorW.PrintLast Go.Proofs.YtkkkaegocinkeaaDoorW.PrintMore
attribute [local go_sem] max2_int min2_int max_two min_two max_three min_three max_four min_four   -- for this text's walks alone
set_option linter.unusedVariables false
set_option linter.unusedSimpArgs false

/-! ### laws_FnConsistencyIsTwoRanges: function 6 -/
mutual
def laws_FnConsistencyIsTwoRanges.j0 : Nat → Int → Int → Bool → Option (Bool)
  | 0, _, _, _ => none
  | k + 1, x0, x1, x18 => if x18 = true then (some true) else ((impl_Consistency.f k x0 x1).bind fun bt219 => ((impl_RangeNodes.f k 0 x0 ([] : List (S28))).bind fun t228 => (if (t228.length : Int) = 1 then (laws_FnConsistencyIsTwoRanges.j1 k x0 x1 bt219.2.2.2.2.2 ([] : List (S28)) bt219.1 bt219.2.1 bt219.2.2.1 bt219.2.2.2.1 bt219.2.2.2.2.1) else (laws_FnConsistencyIsTwoRanges.j1 k x0 x1 bt219.2.2.2.2.2 t228 bt219.1 bt219.2.1 bt219.2.2.1 bt219.2.2.2.1 bt219.2.2.2.2.1))))
def laws_FnConsistencyIsTwoRanges.j1 : Nat → Int → Int → Bool → List (S28) → List (S28) → Int → Int → Int → Int → Option (Bool)
  | 0, _, _, _, _, _, _, _, _, _ => none
  | k + 1, x0, x1, x6, x7, x228000, x228001, x228002, x228003, x228004 => (impl_RangeNodes.f k x0 x1 x7).bind fun t231 => (laws_FnConsistencyIsTwoRanges.l0 k x6 t231 x228000 (x228000.length : Int) 0 x228000 x228001 x228002 x228003 x228004)
def laws_FnConsistencyIsTwoRanges.l0 : Nat → Bool → List (S28) → List (S28) → Int → Int → List (S28) → Int → Int → Int → Int → Option (Bool)
  | 0, _, _, _, _, _, _, _, _, _, _ => none
  | k + 1, x6, x7, x35, x36, x37, x228000, x228001, x228002, x228003, x228004 => if x37 < x36 then (if 0 ≤ x37 then (if x37 < (x35.length : Int) then ((spec_HasNode.f k x7 ((rd_T28 x35 x37).f0) ((rd_T28 x35 x37).f1)).bind fun t236 => (if t236 = true then (laws_FnConsistencyIsTwoRanges.l0 k x6 x7 x35 x36 (wrap64 (x37 + 1)) x228000 x228001 x228002 x228003 x228004) else (some false))) else (none)) else (none)) else (laws_FnConsistencyIsTwoRanges.l1 k x6 x7 (x7.length : Int) 0 x228000 x228001 x228002 x228003 x228004)
def laws_FnConsistencyIsTwoRanges.l1 : Nat → Bool → List (S28) → Int → Int → List (S28) → Int → Int → Int → Int → Option (Bool)
  | 0, _, _, _, _, _, _, _, _, _ => none
  | k + 1, x6, x7, x47, x48, x228000, x228001, x228002, x228003, x228004 => if x48 < x47 then (if 0 ≤ x48 then (if x48 < (x7.length : Int) then ((spec_HasNode.f k x228000 ((rd_T28 x7 x48).f0) ((rd_T28 x7 x48).f1)).bind fun t239 => (if t239 = true then (laws_FnConsistencyIsTwoRanges.l1 k x6 x7 x47 (wrap64 (x48 + 1)) x228000 x228001 x228002 x228003 x228004) else (some false))) else (none)) else (none)) else (if x6 = true then (some ((x228000.length : Int) == (x7.length : Int))) else (some false))
end
def laws_FnConsistencyIsTwoRanges.f (k : Nat) (a0 : Int) (a1 : Int) : Option (Bool) := if a0 = 0 then (laws_FnConsistencyIsTwoRanges.j0 k a0 a1 true) else (laws_FnConsistencyIsTwoRanges.j0 k a0 a1 (decide (a0 ≥ a1)))
theorem laws_FnConsistencyIsTwoRanges.mono_l : ∀ k, (∀ y0 y1 y2, LeO (laws_FnConsistencyIsTwoRanges.j0 k y0 y1 y2) (laws_FnConsistencyIsTwoRanges.j0 (k + 1) y0 y1 y2)) ∧ (∀ y0 y1 y2 y3 y4 y5 y6 y7 y8, LeO (laws_FnConsistencyIsTwoRanges.j1 k y0 y1 y2 y3 y4 y5 y6 y7 y8) (laws_FnConsistencyIsTwoRanges.j1 (k + 1) y0 y1 y2 y3 y4 y5 y6 y7 y8)) ∧ (∀ y0 y1 y2 y3 y4 y5 y6 y7 y8 y9, LeO (laws_FnConsistencyIsTwoRanges.l0 k y0 y1 y2 y3 y4 y5 y6 y7 y8 y9) (laws_FnConsistencyIsTwoRanges.l0 (k + 1) y0 y1 y2 y3 y4 y5 y6 y7 y8 y9)) ∧ (∀ y0 y1 y2 y3 y4 y5 y6 y7 y8, LeO (laws_FnConsistencyIsTwoRanges.l1 k y0 y1 y2 y3 y4 y5 y6 y7 y8) (laws_FnConsistencyIsTwoRanges.l1 (k + 1) y0 y1 y2 y3 y4 y5 y6 y7 y8))
  | 0 => ⟨fun _ _ _ r h => by simp [laws_FnConsistencyIsTwoRanges.j0] at h, fun _ _ _ _ _ _ _ _ _ r h => by simp [laws_FnConsistencyIsTwoRanges.j1] at h, fun _ _ _ _ _ _ _ _ _ _ r h => by simp [laws_FnConsistencyIsTwoRanges.l0] at h, fun _ _ _ _ _ _ _ _ _ r h => by simp [laws_FnConsistencyIsTwoRanges.l1] at h⟩
  | k + 1 => by
    obtain ⟨ih0, ih1, ih2, ih3⟩ := laws_FnConsistencyIsTwoRanges.mono_l k
    refine ⟨?_, ?_, ?_, ?_⟩
    · intro y0 y1 y2
      unfold laws_FnConsistencyIsTwoRanges.j0
      repeat' first
      | (with_reducible exact ih0 _ _ _)
      | (with_reducible exact ih1 _ _ _ _ _ _ _ _ _)
      | (with_reducible exact ih2 _ _ _ _ _ _ _ _ _ _)
      | (with_reducible exact ih3 _ _ _ _ _ _ _ _ _)
      | (with_reducible exact impl_Consistency.mono _ _ _)
      | (with_reducible exact impl_RangeNodes.mono _ _ _ _)
      | (with_reducible exact spec_HasNode.mono _ _ _ _)
      | (with_reducible exact LeO.refl _)
      | (with_reducible exact LeO.none _)
      | (with_reducible refine LeO.ite ?_ ?_)
      | (with_reducible refine LeO.bind ?_ (fun _ => ?_))
      | exact ih0 _ _ _
      | exact ih1 _ _ _ _ _ _ _ _ _
      | exact ih2 _ _ _ _ _ _ _ _ _ _
      | exact ih3 _ _ _ _ _ _ _ _ _
      | exact impl_Consistency.mono _ _ _
      | exact impl_RangeNodes.mono _ _ _ _
      | exact spec_HasNode.mono _ _ _ _
      | exact LeO.none _
      | refine LeO.ite ?_ ?_
      | refine LeO.bind ?_ (fun _ => ?_)
    · intro y0 y1 y2 y3 y4 y5 y6 y7 y8
      unfold laws_FnConsistencyIsTwoRanges.j1
      repeat' first
      | (with_reducible exact ih0 _ _ _)
      | (with_reducible exact ih1 _ _ _ _ _ _ _ _ _)
      | (with_reducible exact ih2 _ _ _ _ _ _ _ _ _ _)
      | (with_reducible exact ih3 _ _ _ _ _ _ _ _ _)
      | (with_reducible exact impl_Consistency.mono _ _ _)
      | (with_reducible exact impl_RangeNodes.mono _ _ _ _)
      | (with_reducible exact spec_HasNode.mono _ _ _ _)
      | (with_reducible exact LeO.refl _)
      | (with_reducible exact LeO.none _)
      | (with_reducible refine LeO.ite ?_ ?_)
      | (with_reducible refine LeO.bind ?_ (fun _ => ?_))
      | exact ih0 _ _ _
      | exact ih1 _ _ _ _ _ _ _ _ _
      | exact ih2 _ _ _ _ _ _ _ _ _ _
      | exact ih3 _ _ _ _ _ _ _ _ _
      | exact impl_Consistency.mono _ _ _
      | exact impl_RangeNodes.mono _ _ _ _
      | exact spec_HasNode.mono _ _ _ _
      | exact LeO.none _
      | refine LeO.ite ?_ ?_
      | refine LeO.bind ?_ (fun _ => ?_)
    · intro y0 y1 y2 y3 y4 y5 y6 y7 y8 y9
      unfold laws_FnConsistencyIsTwoRanges.l0
      repeat' first
      | (with_reducible exact ih0 _ _ _)
      | (with_reducible exact ih1 _ _ _ _ _ _ _ _ _)
      | (with_reducible exact ih2 _ _ _ _ _ _ _ _ _ _)
      | (with_reducible exact ih3 _ _ _ _ _ _ _ _ _)
      | (with_reducible exact impl_Consistency.mono _ _ _)
      | (with_reducible exact impl_RangeNodes.mono _ _ _ _)
      | (with_reducible exact spec_HasNode.mono _ _ _ _)
      | (with_reducible exact LeO.refl _)
      | (with_reducible exact LeO.none _)
      | (with_reducible refine LeO.ite ?_ ?_)
      | (with_reducible refine LeO.bind ?_ (fun _ => ?_))
      | exact ih0 _ _ _
      | exact ih1 _ _ _ _ _ _ _ _ _
      | exact ih2 _ _ _ _ _ _ _ _ _ _
      | exact ih3 _ _ _ _ _ _ _ _ _
      | exact impl_Consistency.mono _ _ _
      | exact impl_RangeNodes.mono _ _ _ _
      | exact spec_HasNode.mono _ _ _ _
      | exact LeO.none _
      | refine LeO.ite ?_ ?_
      | refine LeO.bind ?_ (fun _ => ?_)
    · intro y0 y1 y2 y3 y4 y5 y6 y7 y8
      unfold laws_FnConsistencyIsTwoRanges.l1
      repeat' first
      | (with_reducible exact ih0 _ _ _)
      | (with_reducible exact ih1 _ _ _ _ _ _ _ _ _)
      | (with_reducible exact ih2 _ _ _ _ _ _ _ _ _ _)
      | (with_reducible exact ih3 _ _ _ _ _ _ _ _ _)
      | (with_reducible exact impl_Consistency.mono _ _ _)
      | (with_reducible exact impl_RangeNodes.mono _ _ _ _)
      | (with_reducible exact spec_HasNode.mono _ _ _ _)
      | (with_reducible exact LeO.refl _)
      | (with_reducible exact LeO.none _)
      | (with_reducible refine LeO.ite ?_ ?_)
      | (with_reducible refine LeO.bind ?_ (fun _ => ?_))
      | exact ih0 _ _ _
      | exact ih1 _ _ _ _ _ _ _ _ _
      | exact ih2 _ _ _ _ _ _ _ _ _ _
      | exact ih3 _ _ _ _ _ _ _ _ _
      | exact impl_Consistency.mono _ _ _
      | exact impl_RangeNodes.mono _ _ _ _
      | exact spec_HasNode.mono _ _ _ _
      | exact LeO.none _
      | refine LeO.ite ?_ ?_
      | refine LeO.bind ?_ (fun _ => ?_)
theorem laws_FnConsistencyIsTwoRanges.mono : ∀ a0 a1 k, LeO (laws_FnConsistencyIsTwoRanges.f k a0 a1) (laws_FnConsistencyIsTwoRanges.f (k + 1) a0 a1) := by
  intro a0 a1 k
  obtain ⟨ih0, ih1, ih2, ih3⟩ := laws_FnConsistencyIsTwoRanges.mono_l k
  unfold laws_FnConsistencyIsTwoRanges.f
  repeat' first
      | (with_reducible exact ih0 _ _ _)
      | (with_reducible exact ih1 _ _ _ _ _ _ _ _ _)
      | (with_reducible exact ih2 _ _ _ _ _ _ _ _ _ _)
      | (with_reducible exact ih3 _ _ _ _ _ _ _ _ _)
      | (with_reducible exact impl_Consistency.mono _ _ _)
      | (with_reducible exact impl_RangeNodes.mono _ _ _ _)
      | (with_reducible exact spec_HasNode.mono _ _ _ _)
      | (with_reducible exact LeO.refl _)
      | (with_reducible exact LeO.none _)
      | (with_reducible refine LeO.ite ?_ ?_)
      | (with_reducible refine LeO.bind ?_ (fun _ => ?_))
      | exact ih0 _ _ _
      | exact ih1 _ _ _ _ _ _ _ _ _
      | exact ih2 _ _ _ _ _ _ _ _ _ _
      | exact ih3 _ _ _ _ _ _ _ _ _
      | exact impl_Consistency.mono _ _ _
      | exact impl_RangeNodes.mono _ _ _ _
      | exact spec_HasNode.mono _ _ _ _
      | exact LeO.none _
      | refine LeO.ite ?_ ?_
      | refine LeO.bind ?_ (fun _ => ?_)
set_option maxHeartbeats 8000000 in
set_option maxRecDepth 100000 in
theorem laws_FnConsistencyIsTwoRanges.calls (k : Nat) (a0 : Int) (a1 : Int) (r : Bool) (w : World) (hT : TabOK w) (h : laws_FnConsistencyIsTwoRanges.f k a0 a1 = some r) :
    Calls Tryd.prog 6 #[.int .u64 a0, .int .u64 a1] w fun e w' => e = .returned (.bool r) ∧ Below w.heap.size w w' := by
  have hu39 := Tryd.underlying39
  have hu28 := Tryd.underlying28
  have HT := Aside0.mk hT
  clear hT
  have HB := Aside0.mk (Below.refl w.heap.size w)
  have H : (if a0 = 0 then (laws_FnConsistencyIsTwoRanges.j0 k a0 a1 true) else (laws_FnConsistencyIsTwoRanges.j0 k a0 a1 (decide (a0 ≥ a1)))) = some r := h
  clear h
  have HC3 := Aside0.mk H
  clear H
  go_enter Tryd.func6, Tryd.ntmps6
  go_upto_region 1 with (fail)
  go_cut [18] (fun v18 wc => ∃ (kq : Nat) (x18_2 : Bool), v18 = .bool x18_2 ∧ Aside0 (laws_FnConsistencyIsTwoRanges.j0 kq a0 a1 x18_2 = some r) ∧ Aside0 (kq ≤ k) ∧ Aside0 (Below w.heap.size w wc))
  case first =>
    have H := HC3.out
    clear HC3
    by_cases c4 : a0 = 0
    · rw [if_pos c4] at H
      have c4b0 : (a0 == 0) = true := beq_iff_eq.mpr c4
      have c4b1 : (a0 != 0) = false := bne_eq_false_iff_eq.mpr c4
      clear c4
      (first | rw [c4b0] | (simp only [i64_w, i32_w]; rw [c4b0]) | skip)
      have H' := Aside0.mk H
      clear H
      go_wp2
      go_meet
      case rel => exact ⟨_, (true), (by first | rfl | (simp; done) | (simp [*]; done)), H', ⟨by first | omega | exact Nat.le_refl _⟩, ⟨by repeat (first | (with_reducible first | exact HB.out | apply below_alloc | apply pw_below_drewN | apply below_drew1) | exact HB.out)⟩⟩
    · rw [if_neg c4] at H
      have c4b0 : (a0 == 0) = false := beq_eq_false_iff_ne.mpr c4
      have c4b1 : (a0 != 0) = true := bne_iff_ne.mpr c4
      (first | rw [c4b0] | (simp only [i64_w, i32_w]; rw [c4b0]) | skip)
      have H' := Aside0.mk H
      clear H
      go_wp2
      go_meet
      case rel => exact ⟨_, (decide (a0 ≥ a1)), (by first | rfl | (simp; done) | (simp [*]; done)), H', ⟨by first | omega | exact Nat.le_refl _⟩, ⟨by repeat (first | (with_reducible first | exact HB.out | apply below_alloc | apply pw_below_drewN | apply below_drew1) | exact HB.out)⟩⟩
  case rest =>
    clear HC3
    try clear p2
    try clear c4
    try clear c4b0
    try clear c4b1
    obtain ⟨kq, x18_2, rfl, HA, HJ2, HB⟩ := hcut
    cases kq with
    | zero => exact absurd HA.out (by simp [laws_FnConsistencyIsTwoRanges.j0])
    | succ kj2 =>
      have H := HA.out
      clear HA
      simp only [laws_FnConsistencyIsTwoRanges.j0] at H
      by_cases c5 : x18_2 = true
      · subst c5
        have H1 : (some true) = some r := by rw [if_pos rfl] at H; exact H
        clear H
        have H := H1
        clear H1
        obtain rfl := Option.some.inj H
        go_wp2
        go_ret
        exact ⟨by first | rfl | (simp [errW_none, errW_some] <;> rfl) | (simp [*, errW_none, errW_some] <;> rfl), by repeat (first | (with_reducible first | exact HB.out | apply below_alloc | apply pw_below_drewN | apply below_drew1) | exact HB.out)⟩
      · replace c5 := Bool.eq_false_iff.mpr c5
        subst c5
        have H1 : ((impl_Consistency.f kj2 a0 a1).bind fun bt219 => ((impl_RangeNodes.f kj2 0 a0 ([] : List (S28))).bind fun t228 => (if (t228.length : Int) = 1 then (laws_FnConsistencyIsTwoRanges.j1 kj2 a0 a1 bt219.2.2.2.2.2 ([] : List (S28)) bt219.1 bt219.2.1 bt219.2.2.1 bt219.2.2.2.1 bt219.2.2.2.2.1) else (laws_FnConsistencyIsTwoRanges.j1 kj2 a0 a1 bt219.2.2.2.2.2 t228 bt219.1 bt219.2.1 bt219.2.2.1 bt219.2.2.2.1 bt219.2.2.2.2.1)))) = some r := by rw [if_neg (show ¬ (false = true) by decide)] at H; exact H
        clear H
        have H := H1
        clear H1
        replace H := Option.bind_eq_some_iff.mp H
        obtain ⟨⟨t219, t222, t223, t224, t225, t226⟩, A60, H⟩ := H
        replace H : ((impl_RangeNodes.f kj2 0 a0 ([] : List (S28))).bind fun t228 => (if (t228.length : Int) = 1 then (laws_FnConsistencyIsTwoRanges.j1 kj2 a0 a1 t226 ([] : List (S28)) t219 t222 t223 t224 t225) else (laws_FnConsistencyIsTwoRanges.j1 kj2 a0 a1 t226 t228 t219 t222 t223 t224 t225))) = some r := H
        have A6 := Aside0.mk A60
        clear A60
        replace H := Option.bind_eq_some_iff.mp H
        obtain ⟨t228, A70, H⟩ := H
        replace H : (if (t228.length : Int) = 1 then (laws_FnConsistencyIsTwoRanges.j1 kj2 a0 a1 t226 ([] : List (S28)) t219 t222 t223 t224 t225) else (laws_FnConsistencyIsTwoRanges.j1 kj2 a0 a1 t226 t228 t219 t222 t223 t224 t225)) = some r := H
        have A7 := Aside0.mk A70
        clear A70
        have HC8 := Aside0.mk H
        clear H
        go_upto_if 29 with (first | ((with_reducible refine gate_callee (f := 19) rfl ?_); refine goesL_ (some 22) rfl rfl Tryd.func19 (by kernel_rfl) rfl #[.int .u64 a0, .int .u64 a1] rfl (by (try simp only [List.map_toArray, List.map_cons, List.map_nil]); first | done | rfl | (simp only [List.length_drop, List.length_take]; rfl)) ?_; (with_reducible refine (impl_Consistency.calls kj2 a0 a1 t219 t222 t223 t224 t225 t226 _ ?side1 A6.out).mono ?_); (case side1 => exact TabOK.below HT.out (by repeat (first | (with_reducible first | exact HB.out | apply below_alloc | apply pw_below_drewN | apply below_drew1) | exact HB.out))); rintro e w9 ⟨v220, rfl, ho0, hb⟩; refine ⟨_, rfl, ?_⟩; have n0_ := Aside0.mk (Kd.R_lower ho0 (below_size (by repeat (first | (with_reducible first | exact HB.out | apply below_alloc | apply pw_below_drewN | apply below_drew1) | exact HB.out)))); have n1_ := Aside0.mk (below_step (by repeat (first | (with_reducible first | exact HB.out | apply below_alloc | apply pw_below_drewN | apply below_drew1) | exact HB.out)) hb); clear HB; have HO221 := n0_; have HB := n1_; clear n0_ n1_; (try clear hb); (try clear hb2); (try clear hk); (try clear hi); (try clear ho0)) | ((with_reducible refine gate_dst (N := 5) rfl ?_); (try (refine gate_guard (by rfl) ?_; dsimp only)); refine box_event ?hg (N := 5) ?hd (cs := #[.slice none 0 0, .int .u64 0, .int .u64 0, .int .i64 0, .int .i64 0]) (t := 39) ?hr ?_; (case hd => rfl); (case hg => rfl); (case hr => first | (go_simp; done) | (go_simp; rfl)); intro gb227 hg w10 hbox hb; have n0_ := Aside0.mk (Kd.R_below (by (with_reducible repeat (first | apply Kd.R_alloc | apply Kd.R_drewN | apply Kd.R_drew)); exact HO221.out) hb); have n1_ := Aside0.mk (below_step (by repeat (first | (with_reducible first | exact HB.out | apply below_alloc | apply pw_below_drewN | apply below_drew1) | exact HB.out)) hb); have n2_ := Aside0.mk (hbox); have n3_ := Aside0.mk ((by rw [hg]; exact (below_size (by repeat (first | (with_reducible first | exact HB.out | apply below_alloc | apply pw_below_drewN | apply below_drew1) | exact HB.out))) : w.heap.size ≤ gb227)); have n4_ := Aside0.mk ((by rw [hg]; exact (below_size (by repeat (first | (with_reducible first | exact HB.out | apply below_alloc | apply pw_below_drewN | apply below_drew1) | exact HB.out))) : w.heap.size ≤ gb227)); clear HO221; clear HB; have HO221 := n0_; have HB := n1_; have BK227 := n2_; have GW227 := n3_; have GE227 := n4_; clear n0_ n1_ n2_ n3_ n4_; clear hb hbox hg; obtain ⟨Ao11, co11, eo11⟩ := Kd.R_slice HO221.out; subst eo11; have hcz12_0 : w10.cell? ⟨gb227, 0, none⟩ = some (.slice none 0 0) := (blk_cell BK227.out 0).trans rfl; have hcz12_1 : w10.cell? ⟨gb227, 1, none⟩ = some (.int .u64 0) := (blk_cell BK227.out 1).trans rfl; have hcz12_2 : w10.cell? ⟨gb227, 2, none⟩ = some (.int .u64 0) := (blk_cell BK227.out 2).trans rfl; have hcz12_3 : w10.cell? ⟨gb227, 3, none⟩ = some (.int .i64 0) := (blk_cell BK227.out 3).trans rfl; have hcz12_4 : w10.cell? ⟨gb227, 4, none⟩ = some (.int .i64 0) := (blk_cell BK227.out 4).trans rfl; have hfz12_0 := blk_frozen BK227.out 0; have hfz12_1 := blk_frozen BK227.out 1; have hfz12_2 := blk_frozen BK227.out 2; have hfz12_3 := blk_frozen BK227.out 3; have hfz12_4 := blk_frozen BK227.out 4) | ((with_reducible refine gate_callee (f := 8) rfl ?_); refine goesL_ (some 26) rfl rfl Tryd.func8 (by kernel_rfl) rfl #[.int .u64 0, .int .u64 a0, .slice none 0 0] rfl (by (try simp only [List.map_toArray, List.map_cons, List.map_nil]); first | done | rfl | (simp only [List.length_drop, List.length_take]; rfl)) ?_; (refine (impl_RangeNodes.calls kj2 0 a0 _ _ ([] : List (S28)) t228 _ ?side1 ?side2 ?side3 A7.out).mono ?_); (case side1 => exact TabOK.below HT.out (by repeat (first | (with_reducible first | exact HB.out | apply below_alloc | apply pw_below_drewN | apply below_drew1 | refine below_set ?_ GE227.out) | exact HB.out))); (case side2 => exact Kd.C_nil _ _); (case side3 => exact Nat.le_refl _); rintro e w13 ⟨v229, rfl, ho0, hb⟩; refine ⟨_, rfl, ?_⟩; have n0_ := Aside0.mk (Kd.R_elder' (by (with_reducible repeat (first | apply Kd.R_alloc | apply Kd.R_drewN | apply Kd.R_drew)); exact (Kd.R_mono (Kd.R_far (p := ⟨gb227, 4, none⟩) (Kd.R_far (p := ⟨gb227, 3, none⟩) (Kd.R_far (p := ⟨gb227, 2, none⟩) (Kd.R_far (p := ⟨gb227, 1, none⟩) (Kd.R_far (p := ⟨gb227, 0, none⟩) (Kd.R_types HO221.out BK227.out (by decide)) (fun _ hk => hk.2) (.slice Ao11 t219.length co11)) (fun _ hk => hk.2) (.int .u64 t222)) (fun _ hk => hk.2) (.int .u64 t223)) (fun _ hk => hk.2) (.int .i64 t224)) (fun _ hk => hk.2) (.int .i64 t225)) (fun _ h_ => h_.1))) (Kd.R_base ho0) hb); have n1_ := Aside0.mk (Kd.R_lower (Kd.R_new' ho0 (Kd.R_lt (by (with_reducible repeat (first | apply Kd.R_alloc | apply Kd.R_drewN | apply Kd.R_drew)); exact (Kd.R_mono (Kd.R_far (p := ⟨gb227, 4, none⟩) (Kd.R_far (p := ⟨gb227, 3, none⟩) (Kd.R_far (p := ⟨gb227, 2, none⟩) (Kd.R_far (p := ⟨gb227, 1, none⟩) (Kd.R_far (p := ⟨gb227, 0, none⟩) (Kd.R_types HO221.out BK227.out (by decide)) (fun _ hk => hk.2) (.slice Ao11 t219.length co11)) (fun _ hk => hk.2) (.int .u64 t222)) (fun _ hk => hk.2) (.int .u64 t223)) (fun _ hk => hk.2) (.int .i64 t224)) (fun _ hk => hk.2) (.int .i64 t225)) (fun _ h_ => h_.1))))) (below_size (by repeat (first | (with_reducible first | exact HB.out | apply below_alloc | apply pw_below_drewN | apply below_drew1 | refine below_set ?_ GE227.out) | exact HB.out)))); have n2_ := Aside0.mk (blk_below (g := gb227) (o := .cells #[.slice Ao11 t219.length co11, .int .u64 t222, .int .u64 t223, .int .i64 t224, .int .i64 t225] 39 (0, 0)) (by (with_reducible repeat (first | refine blk_drewN ?_ _ | refine blk_drew ?_ | refine blk_alloc ?_ _)); refine blk_put (cs := #[.slice Ao11 t219.length co11, .int .u64 t222, .int .u64 t223, .int .i64 t224, .int .i64 0]) ?_ 4 _ rfl; (with_reducible repeat (first | refine blk_drewN ?_ _ | refine blk_drew ?_ | refine blk_alloc ?_ _)); refine blk_put (cs := #[.slice Ao11 t219.length co11, .int .u64 t222, .int .u64 t223, .int .i64 0, .int .i64 0]) ?_ 3 _ rfl; (with_reducible repeat (first | refine blk_drewN ?_ _ | refine blk_drew ?_ | refine blk_alloc ?_ _)); refine blk_put (cs := #[.slice Ao11 t219.length co11, .int .u64 t222, .int .u64 0, .int .i64 0, .int .i64 0]) ?_ 2 _ rfl; (with_reducible repeat (first | refine blk_drewN ?_ _ | refine blk_drew ?_ | refine blk_alloc ?_ _)); refine blk_put (cs := #[.slice Ao11 t219.length co11, .int .u64 0, .int .u64 0, .int .i64 0, .int .i64 0]) ?_ 1 _ rfl; (with_reducible repeat (first | refine blk_drewN ?_ _ | refine blk_drew ?_ | refine blk_alloc ?_ _)); refine blk_put (cs := #[.slice none 0 0, .int .u64 0, .int .u64 0, .int .i64 0, .int .i64 0]) ?_ 0 _ rfl; (with_reducible repeat (first | refine blk_drewN ?_ _ | refine blk_drew ?_ | refine blk_alloc ?_ _)); exact BK227.out) hb); have n3_ := Aside0.mk (below_step (by repeat (first | (with_reducible first | exact HB.out | apply below_alloc | apply pw_below_drewN | apply below_drew1 | refine below_set ?_ GE227.out) | exact HB.out)) hb); clear HO221; clear BK227; clear HB; have HO221 := n0_; have HO230 := n1_; have BK227 := n2_; have HB := n3_; clear n0_ n1_ n2_ n3_; (try clear hb); (try clear hb2); (try clear hk); (try clear hi); (try clear ho0); obtain ⟨Ao14, co14, eo14⟩ := Kd.R_slice HO230.out; subst eo14))
        (try simp only [Act.put, List.setIfInBounds_toArray, List.set_cons_zero, List.set_cons_succ])
        go_cut [7] (fun v7 wc => ∃ (kq : Nat) (x7_7 : List (S28)), Aside0 (laws_FnConsistencyIsTwoRanges.j1 kq a0 a1 t226 x7_7 t219 t222 t223 t224 t225 = some r) ∧ Aside0 (kq ≤ kj2) ∧ Aside0 (Kd.R k28 28 wc w.heap.size (fun k_ => some k_ ≠ ((.slice Ao11 t219.length co11) : Value).ownBlock) v7 x7_7) ∧ Aside0 (Kd.R k28 28 wc w.heap.size (fun k_ => some k_ ≠ (v7 : Value).ownBlock) (.slice Ao11 t219.length co11) t219) ∧ Aside0 (wc.heap[gb227]? = some (.cells #[(.slice Ao11 t219.length co11), .int .u64 t222, .int .u64 t223, .int .i64 t224, .int .i64 t225] 39 (0, 0))) ∧ Aside0 (Below w.heap.size w wc))
        case first =>
          have H := HC8.out
          clear HC8
          by_cases c15 : (t228.length : Int) = 1
          · rw [if_pos c15] at H
            have c15b0 : ((t228.length : Int) == 1) = true := beq_iff_eq.mpr c15
            have c15b1 : ((t228.length : Int) != 1) = false := bne_eq_false_iff_eq.mpr c15
            clear c15
            (first | rw [c15b0] | (simp only [i64_w, i32_w]; rw [c15b0]) | skip)
            have H' := Aside0.mk H
            clear H
            go_wp2
            go_meet
            case rel => exact ⟨_, (([] : List (S28))), H', ⟨by have := HJ2.out; first | omega | exact Nat.le_refl _⟩, ⟨by first | exact Kd.R_nil _ _ _ _ _ | exact Kd.N_nil _ _ _ _ _ | exact Kd.V_nil _ _ _ _ _ | exact Kd.Q_nil _ _ _ _ _ | exact Kd.S_nil _ _ _ _ _⟩, ⟨by (with_reducible repeat (first | apply Kd.R_alloc | apply Kd.R_drewN | apply Kd.R_drew)); exact Kd.R_mono HO221.out (fun _ hk => (by simp [Value.ownBlock]))⟩, ⟨by (with_reducible repeat (first | refine blk_drewN ?_ _ | refine blk_drew ?_ | refine blk_alloc ?_ _)); exact BK227.out⟩, ⟨by repeat (first | (with_reducible first | exact HB.out | apply below_alloc | apply pw_below_drewN | apply below_drew1 | refine below_set ?_ GE227.out) | exact HB.out)⟩⟩
          · rw [if_neg c15] at H
            have c15b0 : ((t228.length : Int) == 1) = false := beq_eq_false_iff_ne.mpr c15
            have c15b1 : ((t228.length : Int) != 1) = true := bne_iff_ne.mpr c15
            (first | rw [c15b0] | (simp only [i64_w, i32_w]; rw [c15b0]) | skip)
            have H' := Aside0.mk H
            clear H
            go_wp2
            go_meet
            case rel => exact ⟨_, (t228), H', ⟨by have := HJ2.out; first | omega | exact Nat.le_refl _⟩, ⟨by (with_reducible repeat (first | apply Kd.R_alloc | apply Kd.R_drewN | apply Kd.R_drew)); exact Kd.R_mono HO230.out (fun _ hk => hk.2)⟩, ⟨by (with_reducible repeat (first | apply Kd.R_alloc | apply Kd.R_drewN | apply Kd.R_drew)); exact Kd.R_mono HO221.out (fun _ hk => hk.2)⟩, ⟨by (with_reducible repeat (first | refine blk_drewN ?_ _ | refine blk_drew ?_ | refine blk_alloc ?_ _)); exact BK227.out⟩, ⟨by repeat (first | (with_reducible first | exact HB.out | apply below_alloc | apply pw_below_drewN | apply below_drew1 | refine below_set ?_ GE227.out) | exact HB.out)⟩⟩
        case rest =>
          clear HC8
          try clear c1
          try clear p2
          try clear c4
          try clear c4b0
          try clear c4b1
          try clear c5
          try clear c6
          try clear c8
          try clear c15
          try clear c15b0
          try clear c15b1
          try clear hcz12_0
          try clear hcz12_1
          try clear hcz12_2
          try clear hcz12_3
          try clear hcz12_4
          try clear hfz12_0
          try clear hfz12_1
          try clear hfz12_2
          try clear hfz12_3
          try clear hfz12_4
          try clear p2
          obtain ⟨kq, x7_7, HA, HJ7, HO_7, HO_228000, BK227, HB⟩ := hcut
          cases kq with
          | zero => exact absurd HA.out (by simp [laws_FnConsistencyIsTwoRanges.j1])
          | succ kj7 =>
            have H := HA.out
            clear HA
            simp only [laws_FnConsistencyIsTwoRanges.j1] at H
            replace H := Option.bind_eq_some_iff.mp H
            obtain ⟨t231, A160, H⟩ := H
            replace H : (laws_FnConsistencyIsTwoRanges.l0 kj7 t226 t231 t219 (t219.length : Int) 0 t219 t222 t223 t224 t225) = some r := H
            have A16 := Aside0.mk A160
            clear A160
            have H' := Aside0.mk H
            clear H
            obtain ⟨Ao17, co17, eo17⟩ := Kd.R_slice HO_7.out
            subst eo17
            go_wp2_with (first | ((with_reducible refine gate_callee (f := 8) rfl ?_); refine goesL_ (some 33) rfl rfl Tryd.func8 (by kernel_rfl) rfl #[.int .u64 a0, .int .u64 a1, .slice Ao17 x7_7.length co17] rfl (by (try simp only [List.map_toArray, List.map_cons, List.map_nil]); first | done | rfl | (simp only [List.length_drop, List.length_take]; rfl)) ?_; (with_reducible refine (impl_RangeNodes.calls kj7 a0 a1 _ _ x7_7 t231 _ ?side1 ?side2 ?side3 A16.out).mono ?_); (case side1 => exact TabOK.below HT.out (by repeat (first | (with_reducible first | exact HB.out | apply below_alloc | apply pw_below_drewN | apply below_drew1 | refine below_set ?_ GE227.out) | exact HB.out))); (case side2 => repeat (first | exact (Kd.R_reads' HO_7.out).2.2 | (with_reducible refine Kd.C_alloc ?_ _) | (with_reducible refine Kd.C_drewN ?_ _) | (with_reducible refine Kd.C_drew ?_))); (case side3 => exact (Kd.R_reads' HO_7.out).2.1); rintro e w18 ⟨v232, rfl, ho0, hb⟩; refine ⟨_, rfl, ?_⟩; have n0_ := Aside0.mk (Kd.R_elder' (by (with_reducible repeat (first | apply Kd.R_alloc | apply Kd.R_drewN | apply Kd.R_drew)); exact HO_7.out) (Kd.R_base ho0) hb); have n1_ := Aside0.mk (Kd.R_elder' (by (with_reducible repeat (first | apply Kd.R_alloc | apply Kd.R_drewN | apply Kd.R_drew)); exact HO_228000.out) (Kd.R_base ho0) hb); have n2_ := Aside0.mk (Kd.R_lower (Kd.R_new' (Kd.R_new' ho0 (Kd.R_lt (by (with_reducible repeat (first | apply Kd.R_alloc | apply Kd.R_drewN | apply Kd.R_drew)); exact HO_7.out))) (Kd.R_lt (by (with_reducible repeat (first | apply Kd.R_alloc | apply Kd.R_drewN | apply Kd.R_drew)); exact HO_228000.out))) (below_size (by repeat (first | (with_reducible first | exact HB.out | apply below_alloc | apply pw_below_drewN | apply below_drew1 | refine below_set ?_ GE227.out) | exact HB.out)))); have n3_ := Aside0.mk (blk_below (g := gb227) (o := .cells #[.slice Ao11 t219.length co11, .int .u64 t222, .int .u64 t223, .int .i64 t224, .int .i64 t225] 39 (0, 0)) (by (with_reducible repeat (first | refine blk_drewN ?_ _ | refine blk_drew ?_ | refine blk_alloc ?_ _)); exact BK227.out) hb); have n4_ := Aside0.mk (below_step (by repeat (first | (with_reducible first | exact HB.out | apply below_alloc | apply pw_below_drewN | apply below_drew1 | refine below_set ?_ GE227.out) | exact HB.out)) hb); clear HO_7; clear HO_228000; clear BK227; clear HB; have HO_7 := n0_; have HO_228000 := n1_; have HO233 := n2_; have BK227 := n3_; have HB := n4_; clear n0_ n1_ n2_ n3_ n4_; (try clear hb); (try clear hb2); (try clear hk); (try clear hi); (try clear ho0); have hcz19_0 : w18.cell? ⟨gb227, 0, none⟩ = some (.slice Ao11 t219.length co11) := (blk_cell BK227.out 0).trans rfl; have hcz19_1 : w18.cell? ⟨gb227, 1, none⟩ = some (.int .u64 t222) := (blk_cell BK227.out 1).trans rfl; have hcz19_2 : w18.cell? ⟨gb227, 2, none⟩ = some (.int .u64 t223) := (blk_cell BK227.out 2).trans rfl; have hcz19_3 : w18.cell? ⟨gb227, 3, none⟩ = some (.int .i64 t224) := (blk_cell BK227.out 3).trans rfl; have hcz19_4 : w18.cell? ⟨gb227, 4, none⟩ = some (.int .i64 t225) := (blk_cell BK227.out 4).trans rfl; have hfz19_0 := blk_frozen BK227.out 0; have hfz19_1 := blk_frozen BK227.out 1; have hfz19_2 := blk_frozen BK227.out 2; have hfz19_3 := blk_frozen BK227.out 3; have hfz19_4 := blk_frozen BK227.out 4))
            go_loopg [37] kj7 (fun kq v37 w' => ∃ (x37_3 : Int), v37 = .int .i64 x37_3 ∧ Aside0 (laws_FnConsistencyIsTwoRanges.l0 kq t226 t231 t219 (t219.length : Int) x37_3 t219 t222 t223 t224 t225 = some r) ∧ Aside0 (kq ≤ kj7) ∧ Aside0 (Kd.R k28 28 w' w.heap.size (fun k_ => some k_ ≠ ((.slice Ao11 t219.length co11) : Value).ownBlock ∧ some k_ ≠ ((.slice Ao11 t219.length co11) : Value).ownBlock) v232 t231) ∧ Aside0 (Kd.R k28 28 w' w.heap.size (fun k_ => some k_ ≠ (v232 : Value).ownBlock) (.slice Ao11 t219.length co11) t219) ∧ Aside0 (Kd.R k28 28 w' w.heap.size (fun k_ => some k_ ≠ (v232 : Value).ownBlock) (.slice Ao11 t219.length co11) t219) ∧ Aside0 (w'.heap[gb227]? = some (.cells #[(.slice Ao11 t219.length co11), .int .u64 t222, .int .u64 t223, .int .i64 t224, .int .i64 t225] 39 (0, 0))) ∧ Aside0 (Below w.heap.size w w'))
            case atStart => exact ⟨(0), (by first | rfl | (simp; done) | (simp [*]; done)), H', ⟨Nat.le_refl _⟩, ⟨by (with_reducible repeat (first | apply Kd.R_alloc | apply Kd.R_drewN | apply Kd.R_drew)); exact Kd.R_mono HO233.out (fun _ hk => ⟨hk.2, hk.2⟩)⟩, ⟨by (with_reducible repeat (first | apply Kd.R_alloc | apply Kd.R_drewN | apply Kd.R_drew)); exact Kd.R_mono HO_228000.out (fun _ hk => hk.2)⟩, ⟨by (with_reducible repeat (first | apply Kd.R_alloc | apply Kd.R_drewN | apply Kd.R_drew)); exact Kd.R_mono HO_228000.out (fun _ hk => hk.2)⟩, ⟨by (with_reducible repeat (first | refine blk_drewN ?_ _ | refine blk_drew ?_ | refine blk_alloc ?_ _)); exact BK227.out⟩, ⟨by repeat (first | (with_reducible first | exact HB.out | apply below_alloc | apply pw_below_drewN | apply below_drew1 | refine below_set ?_ GE227.out) | exact HB.out)⟩⟩
            case round =>
              clear H'
              try clear c1
              try clear p2
              try clear c4
              try clear c4b0
              try clear c4b1
              try clear c5
              try clear c6
              try clear c8
              try clear c15
              try clear c15b0
              try clear c15b1
              try clear c19
              try clear hcz12_0
              try clear hcz12_1
              try clear hcz12_2
              try clear hcz12_3
              try clear hcz12_4
              try clear hcz19_0
              try clear hcz19_1
              try clear hcz19_2
              try clear hcz19_3
              try clear hcz19_4
              try clear hfz12_0
              try clear hfz12_1
              try clear hfz12_2
              try clear hfz12_3
              try clear hfz12_4
              try clear hfz19_0
              try clear hfz19_1
              try clear hfz19_2
              try clear hfz19_3
              try clear hfz19_4
              try clear p2
              obtain ⟨x37_3, rfl, HA, HK3, HO_7, HO_35, HO_228000, BK227, HB⟩ := hrel
              cases gk with
              | zero => exact absurd HA.out (by simp [laws_FnConsistencyIsTwoRanges.l0])
              | succ k3 =>
                have H := HA.out
                clear HA
                simp only [laws_FnConsistencyIsTwoRanges.l0] at H
                by_cases c20 : x37_3 < (t219.length : Int)
                · rw [if_pos c20] at H
                  have c20b0 : decide (x37_3 < (t219.length : Int)) = true := decide_eq_true c20
                  clear c20
                  by_cases c21 : 0 ≤ x37_3
                  · rw [if_pos c21] at H
                    have c21b0 : decide (0 ≤ x37_3) = true := decide_eq_true c21
                    clear c21
                    by_cases c22 : x37_3 < (t219.length : Int)
                    · rw [if_pos c22] at H
                      have c22b0 : decide (x37_3 < (t219.length : Int)) = true := decide_eq_true c22
                      clear c22
                      replace H := Option.bind_eq_some_iff.mp H
                      obtain ⟨t236, A230, H⟩ := H
                      replace H : (if t236 = true then (laws_FnConsistencyIsTwoRanges.l0 k3 t226 t231 t219 (t219.length : Int) (wrap64 (x37_3 + 1)) t219 t222 t223 t224 t225) else (some false)) = some r := H
                      have A23 := Aside0.mk A230
                      clear A230
                      by_cases c24 : t236 = true
                      · subst c24
                        have H1 : (laws_FnConsistencyIsTwoRanges.l0 k3 t226 t231 t219 (t219.length : Int) (wrap64 (x37_3 + 1)) t219 t222 t223 t224 t225) = some r := by rw [if_pos rfl] at H; exact H
                        clear H
                        have H := H1
                        clear H1
                        have H' := Aside0.mk H
                        clear H
                        have p234 : 0 ≤ (x37_3 : Int) := of_decide_eq_true (by first | (with_reducible assumption) | assumption)
                        have q234 : x37_3 < (t219.length : Int) := of_decide_eq_true (by first | (with_reducible assumption) | assumption)
                        obtain ⟨ad234, e234, hx234_0, hx234_1⟩ := at_T28 (Kd.R_reads' HO_35.out).2.2 x37_3 p234 q234
                        cases e234
                        replace p234 := eq_true p234
                        replace q234 := eq_true q234
                        go_wp2_with (first | ((with_reducible refine gate_dst (N := 9) rfl ?_); (try (refine gate_guard (by rfl) ?_; dsimp only)); refine box_event ?hg (N := 9) ?hd (cs := #[.int .u64 0, .int .u64 0]) (t := 28) ?hr ?_; (case hd => rfl); (case hg => rfl); (case hr => first | (go_simp; done) | (go_simp; rfl)); intro gb235 hg w25 hbox hb; have n0_ := Aside0.mk (Kd.R_below (Kd.R_elderB (by (with_reducible repeat (first | apply Kd.R_alloc | apply Kd.R_drewN | apply Kd.R_drew)); exact HO_7.out) gb235 (Nat.le_of_eq hg.symm)) hb); have n1_ := Aside0.mk (Kd.R_below (Kd.R_elderB (by (with_reducible repeat (first | apply Kd.R_alloc | apply Kd.R_drewN | apply Kd.R_drew)); exact HO_35.out) gb235 (Nat.le_of_eq hg.symm)) hb); have n2_ := Aside0.mk (Kd.R_below (Kd.R_elderB (by (with_reducible repeat (first | apply Kd.R_alloc | apply Kd.R_drewN | apply Kd.R_drew)); exact HO_228000.out) gb235 (Nat.le_of_eq hg.symm)) hb); have n3_ := Aside0.mk (blk_below (g := gb227) (o := .cells #[.slice (some ad234) t219.length co11, .int .u64 t222, .int .u64 t223, .int .i64 t224, .int .i64 t225] 39 (0, 0)) (by (with_reducible repeat (first | refine blk_drewN ?_ _ | refine blk_drew ?_ | refine blk_alloc ?_ _)); exact BK227.out) hb); have n4_ := Aside0.mk (below_step (by repeat (first | (with_reducible first | exact HB.out | apply below_alloc | apply pw_below_drewN | apply below_drew1 | refine below_set ?_ GE227.out) | exact HB.out)) hb); have n5_ := Aside0.mk (hbox); have n6_ := Aside0.mk ((by rw [hg]; exact (below_size (by repeat (first | (with_reducible first | exact HB.out | apply below_alloc | apply pw_below_drewN | apply below_drew1 | refine below_set ?_ GE227.out) | exact HB.out))) : w.heap.size ≤ gb235)); have n7_ := Aside0.mk ((by rw [hg]; exact (below_size (by repeat (first | (with_reducible first | exact HB.out | apply below_alloc | apply pw_below_drewN | apply below_drew1 | refine below_set ?_ GE227.out) | exact HB.out))) : w.heap.size ≤ gb235)); have n8_ := Aside0.mk ((by rw [hg]; exact Nat.ne_of_lt (blk_lt (g := gb227) (o := .cells #[.slice (some ad234) t219.length co11, .int .u64 t222, .int .u64 t223, .int .i64 t224, .int .i64 t225] 39 (0, 0)) (by (with_reducible repeat (first | refine blk_drewN ?_ _ | refine blk_drew ?_ | refine blk_alloc ?_ _)); exact BK227.out)) : gb227 ≠ gb235)); have n9_ := Aside0.mk ((by rw [hg]; exact Nat.ne_of_gt (blk_lt (g := gb227) (o := .cells #[.slice (some ad234) t219.length co11, .int .u64 t222, .int .u64 t223, .int .i64 t224, .int .i64 t225] 39 (0, 0)) (by (with_reducible repeat (first | refine blk_drewN ?_ _ | refine blk_drew ?_ | refine blk_alloc ?_ _)); exact BK227.out)) : gb235 ≠ gb227)); clear HO_7; clear HO_35; clear HO_228000; clear BK227; clear HB; have HO_7 := n0_; have HO_35 := n1_; have HO_228000 := n2_; have BK227 := n3_; have HB := n4_; have BK235 := n5_; have GW235 := n6_; have GE235 := n7_; have NB227_235 := n8_; have NB235_227 := n9_; clear n0_ n1_ n2_ n3_ n4_ n5_ n6_ n7_ n8_ n9_; clear hb hbox hg; have hnb26 := NB235_227.out; have hnc26 := NB227_235.out; have hcz27_0 : w25.cell? ⟨gb235, 0, none⟩ = some (.int .u64 0) := (blk_cell BK235.out 0).trans rfl; have hcz27_1 : w25.cell? ⟨gb235, 1, none⟩ = some (.int .u64 0) := (blk_cell BK235.out 1).trans rfl; have hfz27_0 := blk_frozen BK235.out 0; have hfz27_1 := blk_frozen BK235.out 1; obtain ⟨Ao28, co28, eo28⟩ := Kd.R_slice HO_7.out; subst eo28) | ((with_reducible refine gate_callee (f := 20) rfl ?_); refine goesL_ (some 43) rfl rfl Tryd.func20 (by kernel_rfl) rfl #[.slice Ao28 t231.length co28, .agg #[.int .u64 ((rd_T28 t219 x37_3).f0), .int .u64 ((rd_T28 t219 x37_3).f1)]] rfl (by (try simp only [List.map_toArray, List.map_cons, List.map_nil]); first | done | rfl | (simp only [List.length_drop, List.length_take]; rfl)) ?_; (with_reducible refine (spec_HasNode.calls k3 _ _ t231 ((rd_T28 t219 x37_3).f0) ((rd_T28 t219 x37_3).f1) true _ ?side1 ?side2 A23.out).mono ?_); (case side1 => refine (Kd.R_reads' (e := 28) (base := w.heap.size) (ok := fun k_ => ((some k_ ≠ (.slice (some ad234) t219.length co11 : Value).ownBlock ∧ some k_ ≠ (.slice (some ad234) t219.length co11 : Value).ownBlock) ∧ k_ ≠ gb235)) (n := t231.length) (c := co28) ?_).2.2; exact (by (with_reducible repeat (first | apply Kd.R_alloc | apply Kd.R_drewN | apply Kd.R_drew)); exact (Kd.R_mono (Kd.R_far (p := ⟨gb235, 1, none⟩) (Kd.R_far (p := ⟨gb235, 0, none⟩) (Kd.R_mono HO_7.out (fun k_ hk => (⟨hk, hk.2⟩ : _ ∧ k_ ≠ gb235))) (fun _ hk => hk.2) (.int .u64 ((rd_T28 t219 x37_3).f0))) (fun _ hk => hk.2) (.int .u64 ((rd_T28 t219 x37_3).f1))) (fun _ h_ => h_.1)))); (case side2 => exact (Kd.R_reads' HO_7.out).2.1); rintro e w29 ⟨rfl, hb⟩; refine ⟨_, rfl, ?_⟩; have n0_ := Aside0.mk (Kd.R_below (by (with_reducible repeat (first | apply Kd.R_alloc | apply Kd.R_drewN | apply Kd.R_drew)); exact (Kd.R_mono (Kd.R_far (p := ⟨gb235, 1, none⟩) (Kd.R_far (p := ⟨gb235, 0, none⟩) (Kd.R_mono HO_7.out (fun k_ hk => (⟨hk, hk.2⟩ : _ ∧ k_ ≠ gb235))) (fun _ hk => hk.2) (.int .u64 ((rd_T28 t219 x37_3).f0))) (fun _ hk => hk.2) (.int .u64 ((rd_T28 t219 x37_3).f1))) (fun _ h_ => h_.1))) hb); have n1_ := Aside0.mk (Kd.R_below (by (with_reducible repeat (first | apply Kd.R_alloc | apply Kd.R_drewN | apply Kd.R_drew)); exact (Kd.R_mono (Kd.R_far (p := ⟨gb235, 1, none⟩) (Kd.R_far (p := ⟨gb235, 0, none⟩) (Kd.R_mono HO_35.out (fun k_ hk => (⟨hk, hk.2⟩ : _ ∧ k_ ≠ gb235))) (fun _ hk => hk.2) (.int .u64 ((rd_T28 t219 x37_3).f0))) (fun _ hk => hk.2) (.int .u64 ((rd_T28 t219 x37_3).f1))) (fun _ h_ => h_.1))) hb); have n2_ := Aside0.mk (Kd.R_below (by (with_reducible repeat (first | apply Kd.R_alloc | apply Kd.R_drewN | apply Kd.R_drew)); exact (Kd.R_mono (Kd.R_far (p := ⟨gb235, 1, none⟩) (Kd.R_far (p := ⟨gb235, 0, none⟩) (Kd.R_mono HO_228000.out (fun k_ hk => (⟨hk, hk.2⟩ : _ ∧ k_ ≠ gb235))) (fun _ hk => hk.2) (.int .u64 ((rd_T28 t219 x37_3).f0))) (fun _ hk => hk.2) (.int .u64 ((rd_T28 t219 x37_3).f1))) (fun _ h_ => h_.1))) hb); have n3_ := Aside0.mk (blk_below (g := gb227) (o := .cells #[.slice (some ad234) t219.length co11, .int .u64 t222, .int .u64 t223, .int .i64 t224, .int .i64 t225] 39 (0, 0)) (by (with_reducible repeat (first | refine blk_drewN ?_ _ | refine blk_drew ?_ | refine blk_alloc ?_ _)); refine blk_far ?_ NB227_235.out _; (with_reducible repeat (first | refine blk_drewN ?_ _ | refine blk_drew ?_ | refine blk_alloc ?_ _)); refine blk_far ?_ NB227_235.out _; (with_reducible repeat (first | refine blk_drewN ?_ _ | refine blk_drew ?_ | refine blk_alloc ?_ _)); exact BK227.out) hb); have n4_ := Aside0.mk (blk_below (g := gb235) (o := .cells #[.int .u64 ((rd_T28 t219 x37_3).f0), .int .u64 ((rd_T28 t219 x37_3).f1)] 28 (0, 0)) (by (with_reducible repeat (first | refine blk_drewN ?_ _ | refine blk_drew ?_ | refine blk_alloc ?_ _)); refine blk_put (cs := #[.int .u64 ((rd_T28 t219 x37_3).f0), .int .u64 0]) ?_ 1 _ rfl; (with_reducible repeat (first | refine blk_drewN ?_ _ | refine blk_drew ?_ | refine blk_alloc ?_ _)); refine blk_put (cs := #[.int .u64 0, .int .u64 0]) ?_ 0 _ rfl; (with_reducible repeat (first | refine blk_drewN ?_ _ | refine blk_drew ?_ | refine blk_alloc ?_ _)); exact BK235.out) hb); have n5_ := Aside0.mk (below_step (by repeat (first | (with_reducible first | exact HB.out | apply below_alloc | apply pw_below_drewN | apply below_drew1 | refine below_set ?_ GE227.out | refine below_set ?_ GE235.out) | exact HB.out)) hb); clear HO_7; clear HO_35; clear HO_228000; clear BK227; clear BK235; clear HB; have HO_7 := n0_; have HO_35 := n1_; have HO_228000 := n2_; have BK227 := n3_; have BK235 := n4_; have HB := n5_; clear n0_ n1_ n2_ n3_ n4_ n5_; (try clear hb); (try clear hb2); (try clear hk); (try clear hi)))
                        go_roundg k3
                        case measure => have := HJ2.out; have := HJ7.out; have := HK3.out; omega
                        case rel => exact ⟨(wrap64 (x37_3 + 1)), (by first | rfl | (simp; done) | (simp [*]; done)), H', ⟨by have := HJ2.out; have := HJ7.out; have := HK3.out; omega⟩, ⟨by (with_reducible repeat (first | apply Kd.R_alloc | apply Kd.R_drewN | apply Kd.R_drew)); exact Kd.R_mono HO_7.out (fun _ hk => ⟨hk.1.1, hk.1.2⟩)⟩, ⟨by (with_reducible repeat (first | apply Kd.R_alloc | apply Kd.R_drewN | apply Kd.R_drew)); exact Kd.R_mono HO_35.out (fun _ hk => hk.1)⟩, ⟨by (with_reducible repeat (first | apply Kd.R_alloc | apply Kd.R_drewN | apply Kd.R_drew)); exact Kd.R_mono HO_228000.out (fun _ hk => hk.1)⟩, ⟨by (with_reducible repeat (first | refine blk_drewN ?_ _ | refine blk_drew ?_ | refine blk_alloc ?_ _)); exact BK227.out⟩, ⟨by repeat (first | (with_reducible first | exact HB.out | apply below_alloc | apply pw_below_drewN | apply below_drew1 | refine below_set ?_ GE227.out | refine below_set ?_ GE235.out) | exact HB.out)⟩⟩
                      · replace c24 := Bool.eq_false_iff.mpr c24
                        subst c24
                        have H1 : (some false) = some r := by rw [if_neg (show ¬ (false = true) by decide)] at H; exact H
                        clear H
                        have H := H1
                        clear H1
                        obtain rfl := Option.some.inj H
                        have p234 : 0 ≤ (x37_3 : Int) := of_decide_eq_true (by first | (with_reducible assumption) | assumption)
                        have q234 : x37_3 < (t219.length : Int) := of_decide_eq_true (by first | (with_reducible assumption) | assumption)
                        obtain ⟨ad234, e234, hx234_0, hx234_1⟩ := at_T28 (Kd.R_reads' HO_35.out).2.2 x37_3 p234 q234
                        cases e234
                        replace p234 := eq_true p234
                        replace q234 := eq_true q234
                        go_wp2_with (first | ((with_reducible refine gate_dst (N := 9) rfl ?_); (try (refine gate_guard (by rfl) ?_; dsimp only)); refine box_event ?hg (N := 9) ?hd (cs := #[.int .u64 0, .int .u64 0]) (t := 28) ?hr ?_; (case hd => rfl); (case hg => rfl); (case hr => first | (go_simp; done) | (go_simp; rfl)); intro gb235 hg w30 hbox hb; have n0_ := Aside0.mk (Kd.R_below (Kd.R_elderB (by (with_reducible repeat (first | apply Kd.R_alloc | apply Kd.R_drewN | apply Kd.R_drew)); exact HO_7.out) gb235 (Nat.le_of_eq hg.symm)) hb); have n1_ := Aside0.mk (Kd.R_below (Kd.R_elderB (by (with_reducible repeat (first | apply Kd.R_alloc | apply Kd.R_drewN | apply Kd.R_drew)); exact HO_35.out) gb235 (Nat.le_of_eq hg.symm)) hb); have n2_ := Aside0.mk (Kd.R_below (Kd.R_elderB (by (with_reducible repeat (first | apply Kd.R_alloc | apply Kd.R_drewN | apply Kd.R_drew)); exact HO_228000.out) gb235 (Nat.le_of_eq hg.symm)) hb); have n3_ := Aside0.mk (blk_below (g := gb227) (o := .cells #[.slice (some ad234) t219.length co11, .int .u64 t222, .int .u64 t223, .int .i64 t224, .int .i64 t225] 39 (0, 0)) (by (with_reducible repeat (first | refine blk_drewN ?_ _ | refine blk_drew ?_ | refine blk_alloc ?_ _)); exact BK227.out) hb); have n4_ := Aside0.mk (below_step (by repeat (first | (with_reducible first | exact HB.out | apply below_alloc | apply pw_below_drewN | apply below_drew1 | refine below_set ?_ GE227.out) | exact HB.out)) hb); have n5_ := Aside0.mk (hbox); have n6_ := Aside0.mk ((by rw [hg]; exact (below_size (by repeat (first | (with_reducible first | exact HB.out | apply below_alloc | apply pw_below_drewN | apply below_drew1 | refine below_set ?_ GE227.out) | exact HB.out))) : w.heap.size ≤ gb235)); have n7_ := Aside0.mk ((by rw [hg]; exact (below_size (by repeat (first | (with_reducible first | exact HB.out | apply below_alloc | apply pw_below_drewN | apply below_drew1 | refine below_set ?_ GE227.out) | exact HB.out))) : w.heap.size ≤ gb235)); have n8_ := Aside0.mk ((by rw [hg]; exact Nat.ne_of_lt (blk_lt (g := gb227) (o := .cells #[.slice (some ad234) t219.length co11, .int .u64 t222, .int .u64 t223, .int .i64 t224, .int .i64 t225] 39 (0, 0)) (by (with_reducible repeat (first | refine blk_drewN ?_ _ | refine blk_drew ?_ | refine blk_alloc ?_ _)); exact BK227.out)) : gb227 ≠ gb235)); have n9_ := Aside0.mk ((by rw [hg]; exact Nat.ne_of_gt (blk_lt (g := gb227) (o := .cells #[.slice (some ad234) t219.length co11, .int .u64 t222, .int .u64 t223, .int .i64 t224, .int .i64 t225] 39 (0, 0)) (by (with_reducible repeat (first | refine blk_drewN ?_ _ | refine blk_drew ?_ | refine blk_alloc ?_ _)); exact BK227.out)) : gb235 ≠ gb227)); clear HO_7; clear HO_35; clear HO_228000; clear BK227; clear HB; have HO_7 := n0_; have HO_35 := n1_; have HO_228000 := n2_; have BK227 := n3_; have HB := n4_; have BK235 := n5_; have GW235 := n6_; have GE235 := n7_; have NB227_235 := n8_; have NB235_227 := n9_; clear n0_ n1_ n2_ n3_ n4_ n5_ n6_ n7_ n8_ n9_; clear hb hbox hg; have hnb31 := NB235_227.out; have hnc31 := NB227_235.out; have hcz32_0 : w30.cell? ⟨gb235, 0, none⟩ = some (.int .u64 0) := (blk_cell BK235.out 0).trans rfl; have hcz32_1 : w30.cell? ⟨gb235, 1, none⟩ = some (.int .u64 0) := (blk_cell BK235.out 1).trans rfl; have hfz32_0 := blk_frozen BK235.out 0; have hfz32_1 := blk_frozen BK235.out 1; obtain ⟨Ao33, co33, eo33⟩ := Kd.R_slice HO_7.out; subst eo33) | ((with_reducible refine gate_callee (f := 20) rfl ?_); refine goesL_ (some 43) rfl rfl Tryd.func20 (by kernel_rfl) rfl #[.slice Ao33 t231.length co33, .agg #[.int .u64 ((rd_T28 t219 x37_3).f0), .int .u64 ((rd_T28 t219 x37_3).f1)]] rfl (by (try simp only [List.map_toArray, List.map_cons, List.map_nil]); first | done | rfl | (simp only [List.length_drop, List.length_take]; rfl)) ?_; (with_reducible refine (spec_HasNode.calls k3 _ _ t231 ((rd_T28 t219 x37_3).f0) ((rd_T28 t219 x37_3).f1) false _ ?side1 ?side2 A23.out).mono ?_); (case side1 => refine (Kd.R_reads' (e := 28) (base := w.heap.size) (ok := fun k_ => ((some k_ ≠ (.slice (some ad234) t219.length co11 : Value).ownBlock ∧ some k_ ≠ (.slice (some ad234) t219.length co11 : Value).ownBlock) ∧ k_ ≠ gb235)) (n := t231.length) (c := co33) ?_).2.2; exact (by (with_reducible repeat (first | apply Kd.R_alloc | apply Kd.R_drewN | apply Kd.R_drew)); exact (Kd.R_mono (Kd.R_far (p := ⟨gb235, 1, none⟩) (Kd.R_far (p := ⟨gb235, 0, none⟩) (Kd.R_mono HO_7.out (fun k_ hk => (⟨hk, hk.2⟩ : _ ∧ k_ ≠ gb235))) (fun _ hk => hk.2) (.int .u64 ((rd_T28 t219 x37_3).f0))) (fun _ hk => hk.2) (.int .u64 ((rd_T28 t219 x37_3).f1))) (fun _ h_ => h_.1)))); (case side2 => exact (Kd.R_reads' HO_7.out).2.1); rintro e w34 ⟨rfl, hb⟩; refine ⟨_, rfl, ?_⟩; have n0_ := Aside0.mk (Kd.R_below (by (with_reducible repeat (first | apply Kd.R_alloc | apply Kd.R_drewN | apply Kd.R_drew)); exact (Kd.R_mono (Kd.R_far (p := ⟨gb235, 1, none⟩) (Kd.R_far (p := ⟨gb235, 0, none⟩) (Kd.R_mono HO_7.out (fun k_ hk => (⟨hk, hk.2⟩ : _ ∧ k_ ≠ gb235))) (fun _ hk => hk.2) (.int .u64 ((rd_T28 t219 x37_3).f0))) (fun _ hk => hk.2) (.int .u64 ((rd_T28 t219 x37_3).f1))) (fun _ h_ => h_.1))) hb); have n1_ := Aside0.mk (Kd.R_below (by (with_reducible repeat (first | apply Kd.R_alloc | apply Kd.R_drewN | apply Kd.R_drew)); exact (Kd.R_mono (Kd.R_far (p := ⟨gb235, 1, none⟩) (Kd.R_far (p := ⟨gb235, 0, none⟩) (Kd.R_mono HO_35.out (fun k_ hk => (⟨hk, hk.2⟩ : _ ∧ k_ ≠ gb235))) (fun _ hk => hk.2) (.int .u64 ((rd_T28 t219 x37_3).f0))) (fun _ hk => hk.2) (.int .u64 ((rd_T28 t219 x37_3).f1))) (fun _ h_ => h_.1))) hb); have n2_ := Aside0.mk (Kd.R_below (by (with_reducible repeat (first | apply Kd.R_alloc | apply Kd.R_drewN | apply Kd.R_drew)); exact (Kd.R_mono (Kd.R_far (p := ⟨gb235, 1, none⟩) (Kd.R_far (p := ⟨gb235, 0, none⟩) (Kd.R_mono HO_228000.out (fun k_ hk => (⟨hk, hk.2⟩ : _ ∧ k_ ≠ gb235))) (fun _ hk => hk.2) (.int .u64 ((rd_T28 t219 x37_3).f0))) (fun _ hk => hk.2) (.int .u64 ((rd_T28 t219 x37_3).f1))) (fun _ h_ => h_.1))) hb); have n3_ := Aside0.mk (blk_below (g := gb227) (o := .cells #[.slice (some ad234) t219.length co11, .int .u64 t222, .int .u64 t223, .int .i64 t224, .int .i64 t225] 39 (0, 0)) (by (with_reducible repeat (first | refine blk_drewN ?_ _ | refine blk_drew ?_ | refine blk_alloc ?_ _)); refine blk_far ?_ NB227_235.out _; (with_reducible repeat (first | refine blk_drewN ?_ _ | refine blk_drew ?_ | refine blk_alloc ?_ _)); refine blk_far ?_ NB227_235.out _; (with_reducible repeat (first | refine blk_drewN ?_ _ | refine blk_drew ?_ | refine blk_alloc ?_ _)); exact BK227.out) hb); have n4_ := Aside0.mk (blk_below (g := gb235) (o := .cells #[.int .u64 ((rd_T28 t219 x37_3).f0), .int .u64 ((rd_T28 t219 x37_3).f1)] 28 (0, 0)) (by (with_reducible repeat (first | refine blk_drewN ?_ _ | refine blk_drew ?_ | refine blk_alloc ?_ _)); refine blk_put (cs := #[.int .u64 ((rd_T28 t219 x37_3).f0), .int .u64 0]) ?_ 1 _ rfl; (with_reducible repeat (first | refine blk_drewN ?_ _ | refine blk_drew ?_ | refine blk_alloc ?_ _)); refine blk_put (cs := #[.int .u64 0, .int .u64 0]) ?_ 0 _ rfl; (with_reducible repeat (first | refine blk_drewN ?_ _ | refine blk_drew ?_ | refine blk_alloc ?_ _)); exact BK235.out) hb); have n5_ := Aside0.mk (below_step (by repeat (first | (with_reducible first | exact HB.out | apply below_alloc | apply pw_below_drewN | apply below_drew1 | refine below_set ?_ GE227.out | refine below_set ?_ GE235.out) | exact HB.out)) hb); clear HO_7; clear HO_35; clear HO_228000; clear BK227; clear BK235; clear HB; have HO_7 := n0_; have HO_35 := n1_; have HO_228000 := n2_; have BK227 := n3_; have BK235 := n4_; have HB := n5_; clear n0_ n1_ n2_ n3_ n4_ n5_; (try clear hb); (try clear hb2); (try clear hk); (try clear hi)))
                        go_ret
                        exact ⟨by first | rfl | (simp [errW_none, errW_some] <;> rfl) | (simp [*, errW_none, errW_some] <;> rfl), by repeat (first | (with_reducible first | exact HB.out | apply below_alloc | apply pw_below_drewN | apply below_drew1 | refine below_set ?_ GE227.out | refine below_set ?_ GE235.out) | exact HB.out)⟩
                    · rw [if_neg c22] at H
                      exact absurd H (by simp)
                  · rw [if_neg c21] at H
                    exact absurd H (by simp)
                · rw [if_neg c20] at H
                  have c20b0 : decide (x37_3 < (t219.length : Int)) = false := decide_eq_false c20
                  clear c20
                  have H' := Aside0.mk H
                  clear H
                  obtain ⟨Ao35, co35, eo35⟩ := Kd.R_slice HO_7.out
                  subst eo35
                  go_wp2
                  go_loopg [48] k3 (fun kq v48 w' => ∃ (x48_4 : Int), v48 = .int .i64 x48_4 ∧ Aside0 (laws_FnConsistencyIsTwoRanges.l1 kq t226 t231 (t231.length : Int) x48_4 t219 t222 t223 t224 t225 = some r) ∧ Aside0 (kq ≤ k3) ∧ Aside0 (Kd.R k28 28 w' w.heap.size (fun k_ => some k_ ≠ ((.slice Ao11 t219.length co11) : Value).ownBlock) (.slice Ao35 t231.length co35) t231) ∧ Aside0 (Kd.R k28 28 w' w.heap.size (fun k_ => some k_ ≠ ((.slice Ao35 t231.length co35) : Value).ownBlock) (.slice Ao11 t219.length co11) t219) ∧ Aside0 (w'.heap[gb227]? = some (.cells #[(.slice Ao11 t219.length co11), .int .u64 t222, .int .u64 t223, .int .i64 t224, .int .i64 t225] 39 (0, 0))) ∧ Aside0 (Below w.heap.size w w'))
                  case atStart => exact ⟨(0), (by first | rfl | (simp; done) | (simp [*]; done)), H', ⟨Nat.le_refl _⟩, ⟨by (with_reducible repeat (first | apply Kd.R_alloc | apply Kd.R_drewN | apply Kd.R_drew)); exact Kd.R_mono HO_7.out (fun _ hk => hk.2)⟩, ⟨by (with_reducible repeat (first | apply Kd.R_alloc | apply Kd.R_drewN | apply Kd.R_drew)); exact HO_228000.out⟩, ⟨by (with_reducible repeat (first | refine blk_drewN ?_ _ | refine blk_drew ?_ | refine blk_alloc ?_ _)); exact BK227.out⟩, ⟨by repeat (first | (with_reducible first | exact HB.out | apply below_alloc | apply pw_below_drewN | apply below_drew1 | refine below_set ?_ GE227.out) | exact HB.out)⟩⟩
                  case round =>
                    clear H'
                    try clear c1
                    try clear c2
                    try clear p2
                    try clear q2
                    try clear hx2
                    try clear c3
                    try clear c4
                    try clear c4b0
                    try clear c4b1
                    try clear c5
                    try clear c6
                    try clear p6
                    try clear c8
                    try clear c15
                    try clear c15b0
                    try clear c15b1
                    try clear c19
                    try clear c20
                    try clear c20b0
                    try clear c21
                    try clear c21b0
                    try clear c22
                    try clear c22b0
                    try clear p23
                    try clear q23
                    try clear hx23
                    try clear c24
                    try clear c26
                    try clear c31
                    try clear hcz12_0
                    try clear hcz12_1
                    try clear hcz12_2
                    try clear hcz12_3
                    try clear hcz12_4
                    try clear hcz19_0
                    try clear hcz19_1
                    try clear hcz19_2
                    try clear hcz19_3
                    try clear hcz19_4
                    try clear hcz27_0
                    try clear hcz27_1
                    try clear hcz32_0
                    try clear hcz32_1
                    try clear hfz12_0
                    try clear hfz12_1
                    try clear hfz12_2
                    try clear hfz12_3
                    try clear hfz12_4
                    try clear hfz19_0
                    try clear hfz19_1
                    try clear hfz19_2
                    try clear hfz19_3
                    try clear hfz19_4
                    try clear hfz27_0
                    try clear hfz27_1
                    try clear hfz32_0
                    try clear hfz32_1
                    try clear hx234_0
                    try clear hx234_1
                    try clear p2
                    try clear p234
                    try clear q234
                    obtain ⟨x48_4, rfl, HA, HK4, HO_7, HO_228000, BK227, HB⟩ := hrel
                    cases gk with
                    | zero => exact absurd HA.out (by simp [laws_FnConsistencyIsTwoRanges.l1])
                    | succ k4 =>
                      have H := HA.out
                      clear HA
                      simp only [laws_FnConsistencyIsTwoRanges.l1] at H
                      by_cases c36 : x48_4 < (t231.length : Int)
                      · rw [if_pos c36] at H
                        have c36b0 : decide (x48_4 < (t231.length : Int)) = true := decide_eq_true c36
                        clear c36
                        by_cases c37 : 0 ≤ x48_4
                        · rw [if_pos c37] at H
                          have c37b0 : decide (0 ≤ x48_4) = true := decide_eq_true c37
                          clear c37
                          by_cases c38 : x48_4 < (t231.length : Int)
                          · rw [if_pos c38] at H
                            have c38b0 : decide (x48_4 < (t231.length : Int)) = true := decide_eq_true c38
                            clear c38
                            replace H := Option.bind_eq_some_iff.mp H
                            obtain ⟨t239, A390, H⟩ := H
                            replace H : (if t239 = true then (laws_FnConsistencyIsTwoRanges.l1 k4 t226 t231 (t231.length : Int) (wrap64 (x48_4 + 1)) t219 t222 t223 t224 t225) else (some false)) = some r := H
                            have A39 := Aside0.mk A390
                            clear A390
                            by_cases c40 : t239 = true
                            · subst c40
                              have H1 : (laws_FnConsistencyIsTwoRanges.l1 k4 t226 t231 (t231.length : Int) (wrap64 (x48_4 + 1)) t219 t222 t223 t224 t225) = some r := by rw [if_pos rfl] at H; exact H
                              clear H
                              have H := H1
                              clear H1
                              have H' := Aside0.mk H
                              clear H
                              have p237 : 0 ≤ (x48_4 : Int) := of_decide_eq_true (by first | (with_reducible assumption) | assumption)
                              have q237 : x48_4 < (t231.length : Int) := of_decide_eq_true (by first | (with_reducible assumption) | assumption)
                              obtain ⟨ad237, e237, hx237_0, hx237_1⟩ := at_T28 (Kd.R_reads' HO_7.out).2.2 x48_4 p237 q237
                              cases e237
                              replace p237 := eq_true p237
                              replace q237 := eq_true q237
                              go_wp2_with (first | ((with_reducible refine gate_dst (N := 11) rfl ?_); (try (refine gate_guard (by rfl) ?_; dsimp only)); refine box_event ?hg (N := 11) ?hd (cs := #[.int .u64 0, .int .u64 0]) (t := 28) ?hr ?_; (case hd => rfl); (case hg => rfl); (case hr => first | (go_simp; done) | (go_simp; rfl)); intro gb238 hg w41 hbox hb; have n0_ := Aside0.mk (Kd.R_below (Kd.R_elderB (by (with_reducible repeat (first | apply Kd.R_alloc | apply Kd.R_drewN | apply Kd.R_drew)); exact HO_7.out) gb238 (Nat.le_of_eq hg.symm)) hb); have n1_ := Aside0.mk (Kd.R_below (Kd.R_elderB (by (with_reducible repeat (first | apply Kd.R_alloc | apply Kd.R_drewN | apply Kd.R_drew)); exact HO_228000.out) gb238 (Nat.le_of_eq hg.symm)) hb); have n2_ := Aside0.mk (blk_below (g := gb227) (o := .cells #[.slice Ao11 t219.length co11, .int .u64 t222, .int .u64 t223, .int .i64 t224, .int .i64 t225] 39 (0, 0)) (by (with_reducible repeat (first | refine blk_drewN ?_ _ | refine blk_drew ?_ | refine blk_alloc ?_ _)); exact BK227.out) hb); have n3_ := Aside0.mk (below_step (by repeat (first | (with_reducible first | exact HB.out | apply below_alloc | apply pw_below_drewN | apply below_drew1 | refine below_set ?_ GE227.out) | exact HB.out)) hb); have n4_ := Aside0.mk (hbox); have n5_ := Aside0.mk ((by rw [hg]; exact (below_size (by repeat (first | (with_reducible first | exact HB.out | apply below_alloc | apply pw_below_drewN | apply below_drew1 | refine below_set ?_ GE227.out) | exact HB.out))) : w.heap.size ≤ gb238)); have n6_ := Aside0.mk ((by rw [hg]; exact (below_size (by repeat (first | (with_reducible first | exact HB.out | apply below_alloc | apply pw_below_drewN | apply below_drew1 | refine below_set ?_ GE227.out) | exact HB.out))) : w.heap.size ≤ gb238)); have n7_ := Aside0.mk ((by rw [hg]; exact Nat.ne_of_lt (blk_lt (g := gb227) (o := .cells #[.slice Ao11 t219.length co11, .int .u64 t222, .int .u64 t223, .int .i64 t224, .int .i64 t225] 39 (0, 0)) (by (with_reducible repeat (first | refine blk_drewN ?_ _ | refine blk_drew ?_ | refine blk_alloc ?_ _)); exact BK227.out)) : gb227 ≠ gb238)); have n8_ := Aside0.mk ((by rw [hg]; exact Nat.ne_of_gt (blk_lt (g := gb227) (o := .cells #[.slice Ao11 t219.length co11, .int .u64 t222, .int .u64 t223, .int .i64 t224, .int .i64 t225] 39 (0, 0)) (by (with_reducible repeat (first | refine blk_drewN ?_ _ | refine blk_drew ?_ | refine blk_alloc ?_ _)); exact BK227.out)) : gb238 ≠ gb227)); clear HO_7; clear HO_228000; clear BK227; clear HB; have HO_7 := n0_; have HO_228000 := n1_; have BK227 := n2_; have HB := n3_; have BK238 := n4_; have GW238 := n5_; have GE238 := n6_; have NB227_238 := n7_; have NB238_227 := n8_; clear n0_ n1_ n2_ n3_ n4_ n5_ n6_ n7_ n8_; clear hb hbox hg; have hnb42 := NB238_227.out; have hnc42 := NB227_238.out; have hcz43_0 : w41.cell? ⟨gb238, 0, none⟩ = some (.int .u64 0) := (blk_cell BK238.out 0).trans rfl; have hcz43_1 : w41.cell? ⟨gb238, 1, none⟩ = some (.int .u64 0) := (blk_cell BK238.out 1).trans rfl; have hfz43_0 := blk_frozen BK238.out 0; have hfz43_1 := blk_frozen BK238.out 1; have hcz44_0 : w41.cell? ⟨gb227, 0, none⟩ = some (.slice Ao11 t219.length co11) := (blk_cell BK227.out 0).trans rfl; have hcz44_1 : w41.cell? ⟨gb227, 1, none⟩ = some (.int .u64 t222) := (blk_cell BK227.out 1).trans rfl; have hcz44_2 : w41.cell? ⟨gb227, 2, none⟩ = some (.int .u64 t223) := (blk_cell BK227.out 2).trans rfl; have hcz44_3 : w41.cell? ⟨gb227, 3, none⟩ = some (.int .i64 t224) := (blk_cell BK227.out 3).trans rfl; have hcz44_4 : w41.cell? ⟨gb227, 4, none⟩ = some (.int .i64 t225) := (blk_cell BK227.out 4).trans rfl; have hfz44_0 := blk_frozen BK227.out 0; have hfz44_1 := blk_frozen BK227.out 1; have hfz44_2 := blk_frozen BK227.out 2; have hfz44_3 := blk_frozen BK227.out 3; have hfz44_4 := blk_frozen BK227.out 4) | ((with_reducible refine gate_callee (f := 20) rfl ?_); refine goesL_ (some 55) rfl rfl Tryd.func20 (by kernel_rfl) rfl #[.slice Ao11 t219.length co11, .agg #[.int .u64 ((rd_T28 t231 x48_4).f0), .int .u64 ((rd_T28 t231 x48_4).f1)]] rfl (by (try simp only [List.map_toArray, List.map_cons, List.map_nil]); first | done | rfl | (simp only [List.length_drop, List.length_take]; rfl)) ?_; (with_reducible refine (spec_HasNode.calls k4 _ _ t219 ((rd_T28 t231 x48_4).f0) ((rd_T28 t231 x48_4).f1) true _ ?side1 ?side2 A39.out).mono ?_); (case side1 => refine (Kd.R_reads' (e := 28) (base := w.heap.size) (ok := fun k_ => (some k_ ≠ (.slice (some ad237) t231.length co35 : Value).ownBlock ∧ k_ ≠ gb238)) (n := t219.length) (c := co11) ?_).2.2; exact (by (with_reducible repeat (first | apply Kd.R_alloc | apply Kd.R_drewN | apply Kd.R_drew)); exact (Kd.R_mono (Kd.R_far (p := ⟨gb238, 1, none⟩) (Kd.R_far (p := ⟨gb238, 0, none⟩) (Kd.R_mono HO_228000.out (fun k_ hk => (⟨hk, hk.2⟩ : _ ∧ k_ ≠ gb238))) (fun _ hk => hk.2) (.int .u64 ((rd_T28 t231 x48_4).f0))) (fun _ hk => hk.2) (.int .u64 ((rd_T28 t231 x48_4).f1))) (fun _ h_ => h_.1)))); (case side2 => exact (Kd.R_reads' HO_228000.out).2.1); rintro e w45 ⟨rfl, hb⟩; refine ⟨_, rfl, ?_⟩; have n0_ := Aside0.mk (Kd.R_below (by (with_reducible repeat (first | apply Kd.R_alloc | apply Kd.R_drewN | apply Kd.R_drew)); exact (Kd.R_mono (Kd.R_far (p := ⟨gb238, 1, none⟩) (Kd.R_far (p := ⟨gb238, 0, none⟩) (Kd.R_mono HO_7.out (fun k_ hk => (⟨hk, hk.2⟩ : _ ∧ k_ ≠ gb238))) (fun _ hk => hk.2) (.int .u64 ((rd_T28 t231 x48_4).f0))) (fun _ hk => hk.2) (.int .u64 ((rd_T28 t231 x48_4).f1))) (fun _ h_ => h_.1))) hb); have n1_ := Aside0.mk (Kd.R_below (by (with_reducible repeat (first | apply Kd.R_alloc | apply Kd.R_drewN | apply Kd.R_drew)); exact (Kd.R_mono (Kd.R_far (p := ⟨gb238, 1, none⟩) (Kd.R_far (p := ⟨gb238, 0, none⟩) (Kd.R_mono HO_228000.out (fun k_ hk => (⟨hk, hk.2⟩ : _ ∧ k_ ≠ gb238))) (fun _ hk => hk.2) (.int .u64 ((rd_T28 t231 x48_4).f0))) (fun _ hk => hk.2) (.int .u64 ((rd_T28 t231 x48_4).f1))) (fun _ h_ => h_.1))) hb); have n2_ := Aside0.mk (blk_below (g := gb227) (o := .cells #[.slice Ao11 t219.length co11, .int .u64 t222, .int .u64 t223, .int .i64 t224, .int .i64 t225] 39 (0, 0)) (by (with_reducible repeat (first | refine blk_drewN ?_ _ | refine blk_drew ?_ | refine blk_alloc ?_ _)); refine blk_far ?_ NB227_238.out _; (with_reducible repeat (first | refine blk_drewN ?_ _ | refine blk_drew ?_ | refine blk_alloc ?_ _)); refine blk_far ?_ NB227_238.out _; (with_reducible repeat (first | refine blk_drewN ?_ _ | refine blk_drew ?_ | refine blk_alloc ?_ _)); exact BK227.out) hb); have n3_ := Aside0.mk (blk_below (g := gb238) (o := .cells #[.int .u64 ((rd_T28 t231 x48_4).f0), .int .u64 ((rd_T28 t231 x48_4).f1)] 28 (0, 0)) (by (with_reducible repeat (first | refine blk_drewN ?_ _ | refine blk_drew ?_ | refine blk_alloc ?_ _)); refine blk_put (cs := #[.int .u64 ((rd_T28 t231 x48_4).f0), .int .u64 0]) ?_ 1 _ rfl; (with_reducible repeat (first | refine blk_drewN ?_ _ | refine blk_drew ?_ | refine blk_alloc ?_ _)); refine blk_put (cs := #[.int .u64 0, .int .u64 0]) ?_ 0 _ rfl; (with_reducible repeat (first | refine blk_drewN ?_ _ | refine blk_drew ?_ | refine blk_alloc ?_ _)); exact BK238.out) hb); have n4_ := Aside0.mk (below_step (by repeat (first | (with_reducible first | exact HB.out | apply below_alloc | apply pw_below_drewN | apply below_drew1 | refine below_set ?_ GE227.out | refine below_set ?_ GE238.out) | exact HB.out)) hb); clear HO_7; clear HO_228000; clear BK227; clear BK238; clear HB; have HO_7 := n0_; have HO_228000 := n1_; have BK227 := n2_; have BK238 := n3_; have HB := n4_; clear n0_ n1_ n2_ n3_ n4_; (try clear hb); (try clear hb2); (try clear hk); (try clear hi)))
                              go_roundg k4
                              case measure => have := HJ2.out; have := HJ7.out; have := HK3.out; have := HK4.out; omega
                              case rel => exact ⟨(wrap64 (x48_4 + 1)), (by first | rfl | (simp; done) | (simp [*]; done)), H', ⟨by have := HJ2.out; have := HJ7.out; have := HK3.out; have := HK4.out; omega⟩, ⟨by (with_reducible repeat (first | apply Kd.R_alloc | apply Kd.R_drewN | apply Kd.R_drew)); exact Kd.R_mono HO_7.out (fun _ hk => hk.1)⟩, ⟨by (with_reducible repeat (first | apply Kd.R_alloc | apply Kd.R_drewN | apply Kd.R_drew)); exact Kd.R_mono HO_228000.out (fun _ hk => hk.1)⟩, ⟨by (with_reducible repeat (first | refine blk_drewN ?_ _ | refine blk_drew ?_ | refine blk_alloc ?_ _)); exact BK227.out⟩, ⟨by repeat (first | (with_reducible first | exact HB.out | apply below_alloc | apply pw_below_drewN | apply below_drew1 | refine below_set ?_ GE227.out | refine below_set ?_ GE238.out) | exact HB.out)⟩⟩
                            · replace c40 := Bool.eq_false_iff.mpr c40
                              subst c40
                              have H1 : (some false) = some r := by rw [if_neg (show ¬ (false = true) by decide)] at H; exact H
                              clear H
                              have H := H1
                              clear H1
                              obtain rfl := Option.some.inj H
                              have p237 : 0 ≤ (x48_4 : Int) := of_decide_eq_true (by first | (with_reducible assumption) | assumption)
                              have q237 : x48_4 < (t231.length : Int) := of_decide_eq_true (by first | (with_reducible assumption) | assumption)
                              obtain ⟨ad237, e237, hx237_0, hx237_1⟩ := at_T28 (Kd.R_reads' HO_7.out).2.2 x48_4 p237 q237
                              cases e237
                              replace p237 := eq_true p237
                              replace q237 := eq_true q237
                              go_wp2_with (first | ((with_reducible refine gate_dst (N := 11) rfl ?_); (try (refine gate_guard (by rfl) ?_; dsimp only)); refine box_event ?hg (N := 11) ?hd (cs := #[.int .u64 0, .int .u64 0]) (t := 28) ?hr ?_; (case hd => rfl); (case hg => rfl); (case hr => first | (go_simp; done) | (go_simp; rfl)); intro gb238 hg w46 hbox hb; have n0_ := Aside0.mk (Kd.R_below (Kd.R_elderB (by (with_reducible repeat (first | apply Kd.R_alloc | apply Kd.R_drewN | apply Kd.R_drew)); exact HO_7.out) gb238 (Nat.le_of_eq hg.symm)) hb); have n1_ := Aside0.mk (Kd.R_below (Kd.R_elderB (by (with_reducible repeat (first | apply Kd.R_alloc | apply Kd.R_drewN | apply Kd.R_drew)); exact HO_228000.out) gb238 (Nat.le_of_eq hg.symm)) hb); have n2_ := Aside0.mk (blk_below (g := gb227) (o := .cells #[.slice Ao11 t219.length co11, .int .u64 t222, .int .u64 t223, .int .i64 t224, .int .i64 t225] 39 (0, 0)) (by (with_reducible repeat (first | refine blk_drewN ?_ _ | refine blk_drew ?_ | refine blk_alloc ?_ _)); exact BK227.out) hb); have n3_ := Aside0.mk (below_step (by repeat (first | (with_reducible first | exact HB.out | apply below_alloc | apply pw_below_drewN | apply below_drew1 | refine below_set ?_ GE227.out) | exact HB.out)) hb); have n4_ := Aside0.mk (hbox); have n5_ := Aside0.mk ((by rw [hg]; exact (below_size (by repeat (first | (with_reducible first | exact HB.out | apply below_alloc | apply pw_below_drewN | apply below_drew1 | refine below_set ?_ GE227.out) | exact HB.out))) : w.heap.size ≤ gb238)); have n6_ := Aside0.mk ((by rw [hg]; exact (below_size (by repeat (first | (with_reducible first | exact HB.out | apply below_alloc | apply pw_below_drewN | apply below_drew1 | refine below_set ?_ GE227.out) | exact HB.out))) : w.heap.size ≤ gb238)); have n7_ := Aside0.mk ((by rw [hg]; exact Nat.ne_of_lt (blk_lt (g := gb227) (o := .cells #[.slice Ao11 t219.length co11, .int .u64 t222, .int .u64 t223, .int .i64 t224, .int .i64 t225] 39 (0, 0)) (by (with_reducible repeat (first | refine blk_drewN ?_ _ | refine blk_drew ?_ | refine blk_alloc ?_ _)); exact BK227.out)) : gb227 ≠ gb238)); have n8_ := Aside0.mk ((by rw [hg]; exact Nat.ne_of_gt (blk_lt (g := gb227) (o := .cells #[.slice Ao11 t219.length co11, .int .u64 t222, .int .u64 t223, .int .i64 t224, .int .i64 t225] 39 (0, 0)) (by (with_reducible repeat (first | refine blk_drewN ?_ _ | refine blk_drew ?_ | refine blk_alloc ?_ _)); exact BK227.out)) : gb238 ≠ gb227)); clear HO_7; clear HO_228000; clear BK227; clear HB; have HO_7 := n0_; have HO_228000 := n1_; have BK227 := n2_; have HB := n3_; have BK238 := n4_; have GW238 := n5_; have GE238 := n6_; have NB227_238 := n7_; have NB238_227 := n8_; clear n0_ n1_ n2_ n3_ n4_ n5_ n6_ n7_ n8_; clear hb hbox hg; have hnb47 := NB238_227.out; have hnc47 := NB227_238.out; have hcz48_0 : w46.cell? ⟨gb238, 0, none⟩ = some (.int .u64 0) := (blk_cell BK238.out 0).trans rfl; have hcz48_1 : w46.cell? ⟨gb238, 1, none⟩ = some (.int .u64 0) := (blk_cell BK238.out 1).trans rfl; have hfz48_0 := blk_frozen BK238.out 0; have hfz48_1 := blk_frozen BK238.out 1; have hcz49_0 : w46.cell? ⟨gb227, 0, none⟩ = some (.slice Ao11 t219.length co11) := (blk_cell BK227.out 0).trans rfl; have hcz49_1 : w46.cell? ⟨gb227, 1, none⟩ = some (.int .u64 t222) := (blk_cell BK227.out 1).trans rfl; have hcz49_2 : w46.cell? ⟨gb227, 2, none⟩ = some (.int .u64 t223) := (blk_cell BK227.out 2).trans rfl; have hcz49_3 : w46.cell? ⟨gb227, 3, none⟩ = some (.int .i64 t224) := (blk_cell BK227.out 3).trans rfl; have hcz49_4 : w46.cell? ⟨gb227, 4, none⟩ = some (.int .i64 t225) := (blk_cell BK227.out 4).trans rfl; have hfz49_0 := blk_frozen BK227.out 0; have hfz49_1 := blk_frozen BK227.out 1; have hfz49_2 := blk_frozen BK227.out 2; have hfz49_3 := blk_frozen BK227.out 3; have hfz49_4 := blk_frozen BK227.out 4) | ((with_reducible refine gate_callee (f := 20) rfl ?_); refine goesL_ (some 55) rfl rfl Tryd.func20 (by kernel_rfl) rfl #[.slice Ao11 t219.length co11, .agg #[.int .u64 ((rd_T28 t231 x48_4).f0), .int .u64 ((rd_T28 t231 x48_4).f1)]] rfl (by (try simp only [List.map_toArray, List.map_cons, List.map_nil]); first | done | rfl | (simp only [List.length_drop, List.length_take]; rfl)) ?_; (with_reducible refine (spec_HasNode.calls k4 _ _ t219 ((rd_T28 t231 x48_4).f0) ((rd_T28 t231 x48_4).f1) false _ ?side1 ?side2 A39.out).mono ?_); (case side1 => refine (Kd.R_reads' (e := 28) (base := w.heap.size) (ok := fun k_ => (some k_ ≠ (.slice (some ad237) t231.length co35 : Value).ownBlock ∧ k_ ≠ gb238)) (n := t219.length) (c := co11) ?_).2.2; exact (by (with_reducible repeat (first | apply Kd.R_alloc | apply Kd.R_drewN | apply Kd.R_drew)); exact (Kd.R_mono (Kd.R_far (p := ⟨gb238, 1, none⟩) (Kd.R_far (p := ⟨gb238, 0, none⟩) (Kd.R_mono HO_228000.out (fun k_ hk => (⟨hk, hk.2⟩ : _ ∧ k_ ≠ gb238))) (fun _ hk => hk.2) (.int .u64 ((rd_T28 t231 x48_4).f0))) (fun _ hk => hk.2) (.int .u64 ((rd_T28 t231 x48_4).f1))) (fun _ h_ => h_.1)))); (case side2 => exact (Kd.R_reads' HO_228000.out).2.1); rintro e w50 ⟨rfl, hb⟩; refine ⟨_, rfl, ?_⟩; have n0_ := Aside0.mk (Kd.R_below (by (with_reducible repeat (first | apply Kd.R_alloc | apply Kd.R_drewN | apply Kd.R_drew)); exact (Kd.R_mono (Kd.R_far (p := ⟨gb238, 1, none⟩) (Kd.R_far (p := ⟨gb238, 0, none⟩) (Kd.R_mono HO_7.out (fun k_ hk => (⟨hk, hk.2⟩ : _ ∧ k_ ≠ gb238))) (fun _ hk => hk.2) (.int .u64 ((rd_T28 t231 x48_4).f0))) (fun _ hk => hk.2) (.int .u64 ((rd_T28 t231 x48_4).f1))) (fun _ h_ => h_.1))) hb); have n1_ := Aside0.mk (Kd.R_below (by (with_reducible repeat (first | apply Kd.R_alloc | apply Kd.R_drewN | apply Kd.R_drew)); exact (Kd.R_mono (Kd.R_far (p := ⟨gb238, 1, none⟩) (Kd.R_far (p := ⟨gb238, 0, none⟩) (Kd.R_mono HO_228000.out (fun k_ hk => (⟨hk, hk.2⟩ : _ ∧ k_ ≠ gb238))) (fun _ hk => hk.2) (.int .u64 ((rd_T28 t231 x48_4).f0))) (fun _ hk => hk.2) (.int .u64 ((rd_T28 t231 x48_4).f1))) (fun _ h_ => h_.1))) hb); have n2_ := Aside0.mk (blk_below (g := gb227) (o := .cells #[.slice Ao11 t219.length co11, .int .u64 t222, .int .u64 t223, .int .i64 t224, .int .i64 t225] 39 (0, 0)) (by (with_reducible repeat (first | refine blk_drewN ?_ _ | refine blk_drew ?_ | refine blk_alloc ?_ _)); refine blk_far ?_ NB227_238.out _; (with_reducible repeat (first | refine blk_drewN ?_ _ | refine blk_drew ?_ | refine blk_alloc ?_ _)); refine blk_far ?_ NB227_238.out _; (with_reducible repeat (first | refine blk_drewN ?_ _ | refine blk_drew ?_ | refine blk_alloc ?_ _)); exact BK227.out) hb); have n3_ := Aside0.mk (blk_below (g := gb238) (o := .cells #[.int .u64 ((rd_T28 t231 x48_4).f0), .int .u64 ((rd_T28 t231 x48_4).f1)] 28 (0, 0)) (by (with_reducible repeat (first | refine blk_drewN ?_ _ | refine blk_drew ?_ | refine blk_alloc ?_ _)); refine blk_put (cs := #[.int .u64 ((rd_T28 t231 x48_4).f0), .int .u64 0]) ?_ 1 _ rfl; (with_reducible repeat (first | refine blk_drewN ?_ _ | refine blk_drew ?_ | refine blk_alloc ?_ _)); refine blk_put (cs := #[.int .u64 0, .int .u64 0]) ?_ 0 _ rfl; (with_reducible repeat (first | refine blk_drewN ?_ _ | refine blk_drew ?_ | refine blk_alloc ?_ _)); exact BK238.out) hb); have n4_ := Aside0.mk (below_step (by repeat (first | (with_reducible first | exact HB.out | apply below_alloc | apply pw_below_drewN | apply below_drew1 | refine below_set ?_ GE227.out | refine below_set ?_ GE238.out) | exact HB.out)) hb); clear HO_7; clear HO_228000; clear BK227; clear BK238; clear HB; have HO_7 := n0_; have HO_228000 := n1_; have BK227 := n2_; have BK238 := n3_; have HB := n4_; clear n0_ n1_ n2_ n3_ n4_; (try clear hb); (try clear hb2); (try clear hk); (try clear hi)))
                              go_ret
                              exact ⟨by first | rfl | (simp [errW_none, errW_some] <;> rfl) | (simp [*, errW_none, errW_some] <;> rfl), by repeat (first | (with_reducible first | exact HB.out | apply below_alloc | apply pw_below_drewN | apply below_drew1 | refine below_set ?_ GE227.out | refine below_set ?_ GE238.out) | exact HB.out)⟩
                          · rw [if_neg c38] at H
                            exact absurd H (by simp)
                        · rw [if_neg c37] at H
                          exact absurd H (by simp)
                      · rw [if_neg c36] at H
                        have c36b0 : decide (x48_4 < (t231.length : Int)) = false := decide_eq_false c36
                        clear c36
                        by_cases c51 : t226 = true
                        · subst c51
                          have H1 : (some ((t219.length : Int) == (t231.length : Int))) = some r := by rw [if_pos rfl] at H; exact H
                          clear H
                          have H := H1
                          clear H1
                          obtain rfl := Option.some.inj H
                          have hcz52_0 : wr.cell? ⟨gb227, 0, none⟩ = some (.slice Ao11 t219.length co11) := (blk_cell BK227.out 0).trans rfl
                          have hcz52_1 : wr.cell? ⟨gb227, 1, none⟩ = some (.int .u64 t222) := (blk_cell BK227.out 1).trans rfl
                          have hcz52_2 : wr.cell? ⟨gb227, 2, none⟩ = some (.int .u64 t223) := (blk_cell BK227.out 2).trans rfl
                          have hcz52_3 : wr.cell? ⟨gb227, 3, none⟩ = some (.int .i64 t224) := (blk_cell BK227.out 3).trans rfl
                          have hcz52_4 : wr.cell? ⟨gb227, 4, none⟩ = some (.int .i64 t225) := (blk_cell BK227.out 4).trans rfl
                          have hfz52_0 := blk_frozen BK227.out 0
                          have hfz52_1 := blk_frozen BK227.out 1
                          have hfz52_2 := blk_frozen BK227.out 2
                          have hfz52_3 := blk_frozen BK227.out 3
                          have hfz52_4 := blk_frozen BK227.out 4
                          go_wp2
                          go_ret
                          exact ⟨by first | rfl | (simp [errW_none, errW_some] <;> rfl) | (simp [*, errW_none, errW_some] <;> rfl), by repeat (first | (with_reducible first | exact HB.out | apply below_alloc | apply pw_below_drewN | apply below_drew1 | refine below_set ?_ GE227.out) | exact HB.out)⟩
                        · replace c51 := Bool.eq_false_iff.mpr c51
                          subst c51
                          have H1 : (some false) = some r := by rw [if_neg (show ¬ (false = true) by decide)] at H; exact H
                          clear H
                          have H := H1
                          clear H1
                          obtain rfl := Option.some.inj H
                          go_wp2
                          go_ret
                          exact ⟨by first | rfl | (simp [errW_none, errW_some] <;> rfl) | (simp [*, errW_none, errW_some] <;> rfl), by repeat (first | (with_reducible first | exact HB.out | apply below_alloc | apply pw_below_drewN | apply below_drew1 | refine below_set ?_ GE227.out) | exact HB.out)⟩

end Go.Proofs.YtkkkaegocinkeaaDoor.M

