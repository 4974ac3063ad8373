-- Written by a program of ours (wip/xp) out of the translation; Lean checks it.
import Derived.Test.YtkmdkmlgahfcpaaDoorMm1
namespace Go.Proofs.YtkmdkmlgahfcpaaDoor.M
open Go.RowKit Go.Proofs.YtkmdkmlgahfcpaaDoorW.PrintWords Go.Proofs.YtkmdkmlgahfcpaaDoorW.PrintLast Go.Proofs.YtkmdkmlgahfcpaaDoorW.PrintMore
attribute [local go_sem] max2_int min2_int max_two min_two max_three min_three max_four min_four   -- for this text's walks alone
set_option linter.unusedVariables false
set_option linter.unusedSimpArgs false

/-! ### laws_FnTreeOfTrees: function 3 -/
mutual
def laws_FnTreeOfTrees.j0 : Nat → List (List Int) → Int → Bool → Int → Int → Int → Int → Int → Int → Option (Bool)
  | 0, _, _, _, _, _, _, _, _, _ => none
  | k + 1, x1, x2, x34, x182000, x182001, x182002, x182003, x182004, x182005 => if x34 = true then (some true) else (laws_FnTreeOfTrees.l0 k x1 x2 ([] : List (List Int)) 0 x182000 x182001 x182002 x182003 x182004 x182005)
def laws_FnTreeOfTrees.l0 : Nat → List (List Int) → Int → List (List Int) → Int → Int → Int → Int → Int → Int → Int → Option (Bool)
  | 0, _, _, _, _, _, _, _, _, _, _ => none
  | k + 1, x1, x2, x7, x8, x182000, x182001, x182002, x182003, x182004, x182005 => if x8 < (x1.length : Int) then (if 0 ≤ x2 then (if 0 ≤ x8 then (if x8 ≤ (mn (x1.length : Int) (wrap64 (x8 + (shl .i64 1 x2)))) then (if (mn (x1.length : Int) (wrap64 (x8 + (shl .i64 1 x2)))) ≤ (x1.length : Int) then ((some ((x1.take ((mn (x1.length : Int) (wrap64 (x8 + (shl .i64 1 x2)))) : Int).toNat).drop (x8 : Int).toNat : List (List Int))).bind fun y184 => ((impl_TreeRoot.f k x182000 x182001 x182002 x182003 x182004 x182005 y184 (IntKind.u64.wrap ((y184.length : Int)))).bind fun bt188 => (if bt188.2 = true then (if x7.length < 5864062014805 then (laws_FnTreeOfTrees.l0 k x1 x2 (x7 ++ [bt188.1]) (wrap64 (x8 + (shl .i64 1 x2))) x182000 x182001 x182002 x182003 x182004 x182005) else (none)) else (some false)))) else (none)) else (none)) else (none)) else (none)) else ((impl_TreeRoot.f k x182000 x182001 x182002 x182003 x182004 x182005 x1 (IntKind.u64.wrap ((x1.length : Int)))).bind fun bt195 => ((impl_TreeRoot.f k x182000 x182001 x182002 x182003 x182004 x182005 x7 (IntKind.u64.wrap ((x7.length : Int)))).bind fun bt199 => (if bt195.2 = true then (if bt199.2 = true then ((spec_SameText.f bt195.1 bt199.1).bind fun t203 => (some t203)) else (some false)) else (some false))))
end
def laws_FnTreeOfTrees.f (k : Nat) (a0_0 : Int) (a0_1 : Int) (a0_2 : Int) (a0_3 : Int) (a0_4 : Int) (a0_5 : Int) (l1 : List (List Int)) (a2 : Int) : Option (Bool) := (laws_zzFits2.f k l1).bind fun t182 => (if t182 = true then (if a2 < 0 then (laws_FnTreeOfTrees.j0 k l1 a2 true a0_0 a0_1 a0_2 a0_3 a0_4 a0_5) else (if a2 > 9 then (laws_FnTreeOfTrees.j0 k l1 a2 true a0_0 a0_1 a0_2 a0_3 a0_4 a0_5) else ((laws_logSmall.f k l1).bind fun t183 => (if t183 = true then (laws_FnTreeOfTrees.j0 k l1 a2 ((l1.length : Int) == 0) a0_0 a0_1 a0_2 a0_3 a0_4 a0_5) else (laws_FnTreeOfTrees.j0 k l1 a2 true a0_0 a0_1 a0_2 a0_3 a0_4 a0_5))))) else (some true))
theorem laws_FnTreeOfTrees.mono_l : ∀ k, (∀ y0 y1 y2 y3 y4 y5 y6 y7 y8, LeO (laws_FnTreeOfTrees.j0 k y0 y1 y2 y3 y4 y5 y6 y7 y8) (laws_FnTreeOfTrees.j0 (k + 1) y0 y1 y2 y3 y4 y5 y6 y7 y8)) ∧ (∀ y0 y1 y2 y3 y4 y5 y6 y7 y8 y9, LeO (laws_FnTreeOfTrees.l0 k y0 y1 y2 y3 y4 y5 y6 y7 y8 y9) (laws_FnTreeOfTrees.l0 (k + 1) y0 y1 y2 y3 y4 y5 y6 y7 y8 y9))
  | 0 => ⟨fun _ _ _ _ _ _ _ _ _ r h => by simp [laws_FnTreeOfTrees.j0] at h, fun _ _ _ _ _ _ _ _ _ _ r h => by simp [laws_FnTreeOfTrees.l0] at h⟩
  | k + 1 => by
    obtain ⟨ih0, ih1⟩ := laws_FnTreeOfTrees.mono_l k
    refine ⟨?_, ?_⟩
    · intro y0 y1 y2 y3 y4 y5 y6 y7 y8
      unfold laws_FnTreeOfTrees.j0
      repeat' first
      | (with_reducible exact ih0 _ _ _ _ _ _ _ _ _)
      | (with_reducible exact ih1 _ _ _ _ _ _ _ _ _ _)
      | (with_reducible exact impl_TreeRoot.mono _ _ _ _ _ _ _ _ _)
      | (with_reducible exact laws_logSmall.mono _ _)
      | (with_reducible exact laws_zzFits2.mono _ _)
      | (with_reducible exact LeO.refl _)
      | (with_reducible exact LeO.none _)
      | (with_reducible refine LeO.ite ?_ ?_)
      | (with_reducible refine LeO.bind ?_ (fun _ => ?_))
      | exact ih0 _ _ _ _ _ _ _ _ _
      | exact ih1 _ _ _ _ _ _ _ _ _ _
      | exact impl_TreeRoot.mono _ _ _ _ _ _ _ _ _
      | exact laws_logSmall.mono _ _
      | exact laws_zzFits2.mono _ _
      | exact LeO.none _
      | refine LeO.ite ?_ ?_
      | refine LeO.bind ?_ (fun _ => ?_)
    · intro y0 y1 y2 y3 y4 y5 y6 y7 y8 y9
      unfold laws_FnTreeOfTrees.l0
      repeat' first
      | (with_reducible exact ih0 _ _ _ _ _ _ _ _ _)
      | (with_reducible exact ih1 _ _ _ _ _ _ _ _ _ _)
      | (with_reducible exact impl_TreeRoot.mono _ _ _ _ _ _ _ _ _)
      | (with_reducible exact laws_logSmall.mono _ _)
      | (with_reducible exact laws_zzFits2.mono _ _)
      | (with_reducible exact LeO.refl _)
      | (with_reducible exact LeO.none _)
      | (with_reducible refine LeO.ite ?_ ?_)
      | (with_reducible refine LeO.bind ?_ (fun _ => ?_))
      | exact ih0 _ _ _ _ _ _ _ _ _
      | exact ih1 _ _ _ _ _ _ _ _ _ _
      | exact impl_TreeRoot.mono _ _ _ _ _ _ _ _ _
      | exact laws_logSmall.mono _ _
      | exact laws_zzFits2.mono _ _
      | exact LeO.none _
      | refine LeO.ite ?_ ?_
      | refine LeO.bind ?_ (fun _ => ?_)
theorem laws_FnTreeOfTrees.mono : ∀ a0 a1 a2 a3 a4 a5 a6 a7 k, LeO (laws_FnTreeOfTrees.f k a0 a1 a2 a3 a4 a5 a6 a7) (laws_FnTreeOfTrees.f (k + 1) a0 a1 a2 a3 a4 a5 a6 a7) := by
  intro a0 a1 a2 a3 a4 a5 a6 a7 k
  obtain ⟨ih0, ih1⟩ := laws_FnTreeOfTrees.mono_l k
  unfold laws_FnTreeOfTrees.f
  repeat' first
      | (with_reducible exact ih0 _ _ _ _ _ _ _ _ _)
      | (with_reducible exact ih1 _ _ _ _ _ _ _ _ _ _)
      | (with_reducible exact impl_TreeRoot.mono _ _ _ _ _ _ _ _ _)
      | (with_reducible exact laws_logSmall.mono _ _)
      | (with_reducible exact laws_zzFits2.mono _ _)
      | (with_reducible exact LeO.refl _)
      | (with_reducible exact LeO.none _)
      | (with_reducible refine LeO.ite ?_ ?_)
      | (with_reducible refine LeO.bind ?_ (fun _ => ?_))
      | exact ih0 _ _ _ _ _ _ _ _ _
      | exact ih1 _ _ _ _ _ _ _ _ _ _
      | exact impl_TreeRoot.mono _ _ _ _ _ _ _ _ _
      | exact laws_logSmall.mono _ _
      | exact laws_zzFits2.mono _ _
      | exact LeO.none _
      | refine LeO.ite ?_ ?_
      | refine LeO.bind ?_ (fun _ => ?_)
set_option maxHeartbeats 8000000 in
set_option maxRecDepth 100000 in
theorem laws_FnTreeOfTrees.calls (k : Nat) (a0_0 : Int) (a0_1 : Int) (a0_2 : Int) (a0_3 : Int) (a0_4 : Int) (a0_5 : Int) (A1 : Option Addr) (c1 : Nat) (l1 : List (List Int)) (a2 : Int) (r : Bool) (w : World) (hT : TabOK w) (hr1 : Kd.C (Kd.slice 5 (Kd.int .u8)) w A1 l1.length l1) (hc1 : l1.length ≤ c1) (h : laws_FnTreeOfTrees.f k a0_0 a0_1 a0_2 a0_3 a0_4 a0_5 l1 a2 = some r) :
    Calls Tryd.prog 3 #[.agg #[.int .i64 a0_0, .int .i64 a0_1, .int .i64 a0_2, .int .u64 a0_3, .int .u64 a0_4, .int .u64 a0_5], .slice A1 l1.length c1, .int .i64 a2] w fun e w' => e = .returned (.bool r) ∧ Below w.heap.size w w' := by
  have hu24 := Tryd.underlying24
  have HT := Aside0.mk hT
  clear hT
  have HR1 := Aside0.mk hr1
  have HC1 := Aside0.mk hc1
  clear hr1 hc1
  have HB := Aside0.mk (Below.refl w.heap.size w)
  have H : ((laws_zzFits2.f k l1).bind fun t182 => (if t182 = true then (if a2 < 0 then (laws_FnTreeOfTrees.j0 k l1 a2 true a0_0 a0_1 a0_2 a0_3 a0_4 a0_5) else (if a2 > 9 then (laws_FnTreeOfTrees.j0 k l1 a2 true a0_0 a0_1 a0_2 a0_3 a0_4 a0_5) else ((laws_logSmall.f k l1).bind fun t183 => (if t183 = true then (laws_FnTreeOfTrees.j0 k l1 a2 ((l1.length : Int) == 0) a0_0 a0_1 a0_2 a0_3 a0_4 a0_5) else (laws_FnTreeOfTrees.j0 k l1 a2 true a0_0 a0_1 a0_2 a0_3 a0_4 a0_5))))) else (some true))) = some r := h
  clear h
  replace H := Option.bind_eq_some_iff.mp H
  obtain ⟨t182, A40, H⟩ := H
  replace H : (if t182 = true then (if a2 < 0 then (laws_FnTreeOfTrees.j0 k l1 a2 true a0_0 a0_1 a0_2 a0_3 a0_4 a0_5) else (if a2 > 9 then (laws_FnTreeOfTrees.j0 k l1 a2 true a0_0 a0_1 a0_2 a0_3 a0_4 a0_5) else ((laws_logSmall.f k l1).bind fun t183 => (if t183 = true then (laws_FnTreeOfTrees.j0 k l1 a2 ((l1.length : Int) == 0) a0_0 a0_1 a0_2 a0_3 a0_4 a0_5) else (laws_FnTreeOfTrees.j0 k l1 a2 true a0_0 a0_1 a0_2 a0_3 a0_4 a0_5))))) else (some true)) = some r := H
  have A4 := Aside0.mk A40
  clear A40
  by_cases c5 : t182 = true
  · subst c5
    have H1 : (if a2 < 0 then (laws_FnTreeOfTrees.j0 k l1 a2 true a0_0 a0_1 a0_2 a0_3 a0_4 a0_5) else (if a2 > 9 then (laws_FnTreeOfTrees.j0 k l1 a2 true a0_0 a0_1 a0_2 a0_3 a0_4 a0_5) else ((laws_logSmall.f k l1).bind fun t183 => (if t183 = true then (laws_FnTreeOfTrees.j0 k l1 a2 ((l1.length : Int) == 0) a0_0 a0_1 a0_2 a0_3 a0_4 a0_5) else (laws_FnTreeOfTrees.j0 k l1 a2 true a0_0 a0_1 a0_2 a0_3 a0_4 a0_5))))) = some r := by rw [if_pos rfl] at H; exact H
    clear H
    have H := H1
    clear H1
    have HC6 := Aside0.mk H
    clear H
    go_enter Tryd.func3, Tryd.ntmps3
    go_upto_region 3 with (first | ((with_reducible refine gate_dst (N := 3) rfl ?_); (try (refine gate_guard (by rfl) ?_; dsimp only)); refine box_event ?hg (N := 3) ?hd (cs := #[.int .i64 a0_0, .int .i64 a0_1, .int .i64 a0_2, .int .u64 a0_3, .int .u64 a0_4, .int .u64 a0_5]) (t := 24) ?hr ?_; (case hd => rfl); (case hg => rfl); (case hr => first | (go_simp; done) | (go_simp; rfl)); intro gb181 hg w7 hbox hb; have n0_ := Aside0.mk (below_step (by repeat (first | (with_reducible first | exact HB.out | apply below_alloc | apply pw_below_drewN | apply below_drew1) | exact HB.out)) hb); have n1_ := Aside0.mk (hbox); have n2_ := Aside0.mk ((by rw [hg]; exact (below_size (by repeat (first | (with_reducible first | exact HB.out | apply below_alloc | apply pw_below_drewN | apply below_drew1) | exact HB.out))) : w.heap.size ≤ gb181)); have n3_ := Aside0.mk ((by rw [hg]; exact (below_size (by repeat (first | (with_reducible first | exact HB.out | apply below_alloc | apply pw_below_drewN | apply below_drew1) | exact HB.out))) : w.heap.size ≤ gb181)); clear HB; have HB := n0_; have BK181 := n1_; have GW181 := n2_; have GE181 := n3_; clear n0_ n1_ n2_ n3_; clear hb hbox hg) | ((with_reducible refine gate_callee (f := 12) rfl ?_); refine goesL_ (some 17) rfl rfl Tryd.func12 (by kernel_rfl) rfl #[.slice A1 l1.length c1] rfl (by (try simp only [List.map_toArray, List.map_cons, List.map_nil]); first | done | rfl | (simp only [List.length_drop, List.length_take]; rfl)) ?_; (with_reducible refine (laws_zzFits2.calls k _ _ l1 true _ ?side1 ?side2 A4.out).mono ?_); (case side1 => repeat (first | exact (Kd.C_below HR1.out HB.out) | (with_reducible refine Kd.C_alloc ?_ _) | (with_reducible refine Kd.C_drewN ?_ _) | (with_reducible refine Kd.C_drew ?_))); (case side2 => exact HC1.out); rintro e w' ⟨rfl, ⟨nd, rfl⟩⟩; refine ⟨_, rfl, ?_⟩))
    (try simp only [Act.put, List.setIfInBounds_toArray, List.set_cons_zero, List.set_cons_succ])
    go_cut [34] (fun v34 wc => ∃ (kq : Nat) (x34_5 : Bool), v34 = .bool x34_5 ∧ Aside0 (laws_FnTreeOfTrees.j0 kq l1 a2 x34_5 a0_0 a0_1 a0_2 a0_3 a0_4 a0_5 = some r) ∧ Aside0 (kq ≤ k) ∧ Aside0 (wc.heap[gb181]? = some (.cells #[.int .i64 a0_0, .int .i64 a0_1, .int .i64 a0_2, .int .u64 a0_3, .int .u64 a0_4, .int .u64 a0_5] 24 (0, 0))) ∧ Aside0 (Below w.heap.size w wc))
    case first =>
      have H := HC6.out
      clear HC6
      by_cases c8 : a2 < 0
      · rw [if_pos c8] at H
        have c8b0 : decide (a2 < 0) = true := decide_eq_true c8
        clear c8
        (first | rw [c8b0] | (simp only [i64_w, i32_w]; rw [c8b0]) | skip)
        have H' := Aside0.mk H
        clear H
        go_wp2
        go_meet
        case rel => exact ⟨_, (true), (by first | rfl | (simp; done) | (simp [*]; done)), H', ⟨by first | omega | exact Nat.le_refl _⟩, ⟨by (with_reducible repeat (first | refine blk_drewN ?_ _ | refine blk_drew ?_ | refine blk_alloc ?_ _)); exact BK181.out⟩, ⟨by repeat (first | (with_reducible first | exact HB.out | apply below_alloc | apply pw_below_drewN | apply below_drew1 | refine below_set ?_ GE181.out) | exact HB.out)⟩⟩
      · rw [if_neg c8] at H
        have c8b0 : decide (a2 < 0) = false := decide_eq_false c8
        clear c8
        (first | rw [c8b0] | (simp only [i64_w, i32_w]; rw [c8b0]) | skip)
        by_cases c9 : a2 > 9
        · rw [if_pos c9] at H
          have c9b0 : decide (9 < a2) = true := decide_eq_true c9
          clear c9
          have H' := Aside0.mk H
          clear H
          go_wp2
          go_meet
          case rel => exact ⟨_, (true), (by first | rfl | (simp; done) | (simp [*]; done)), H', ⟨by first | omega | exact Nat.le_refl _⟩, ⟨by (with_reducible repeat (first | refine blk_drewN ?_ _ | refine blk_drew ?_ | refine blk_alloc ?_ _)); exact BK181.out⟩, ⟨by repeat (first | (with_reducible first | exact HB.out | apply below_alloc | apply pw_below_drewN | apply below_drew1 | refine below_set ?_ GE181.out) | exact HB.out)⟩⟩
        · rw [if_neg c9] at H
          have c9b0 : decide (9 < a2) = false := decide_eq_false c9
          clear c9
          replace H := Option.bind_eq_some_iff.mp H
          obtain ⟨t183, A100, H⟩ := H
          replace H : (if t183 = true then (laws_FnTreeOfTrees.j0 k l1 a2 ((l1.length : Int) == 0) a0_0 a0_1 a0_2 a0_3 a0_4 a0_5) else (laws_FnTreeOfTrees.j0 k l1 a2 true a0_0 a0_1 a0_2 a0_3 a0_4 a0_5)) = some r := H
          have A10 := Aside0.mk A100
          clear A100
          by_cases c11 : t183 = true
          · subst c11
            have H1 : (laws_FnTreeOfTrees.j0 k l1 a2 ((l1.length : Int) == 0) a0_0 a0_1 a0_2 a0_3 a0_4 a0_5) = some r := by rw [if_pos rfl] at H; exact H
            clear H
            have H := H1
            clear H1
            have H' := Aside0.mk H
            clear H
            go_wp2_with (first | (go_at_call 13; (with_reducible refine (laws_logSmall.calls k _ _ l1 true _ ?side1 ?side2 A10.out).mono ?_); (case side1 => repeat (first | exact (Kd.C_below HR1.out HB.out) | (with_reducible refine Kd.C_alloc ?_ _) | (with_reducible refine Kd.C_drewN ?_ _) | (with_reducible refine Kd.C_drew ?_))); (case side2 => exact HC1.out); rintro e w' ⟨rfl, ⟨nd, rfl⟩⟩))
            go_meet
            case rel => exact ⟨_, (((l1.length : Int) == 0)), (by first | rfl | (simp; done) | (simp [*]; done)), H', ⟨by first | omega | exact Nat.le_refl _⟩, ⟨by (with_reducible repeat (first | refine blk_drewN ?_ _ | refine blk_drew ?_ | refine blk_alloc ?_ _)); exact BK181.out⟩, ⟨by repeat (first | (with_reducible first | exact HB.out | apply below_alloc | apply pw_below_drewN | apply below_drew1 | refine below_set ?_ GE181.out) | exact HB.out)⟩⟩
          · replace c11 := Bool.eq_false_iff.mpr c11
            subst c11
            have H1 : (laws_FnTreeOfTrees.j0 k l1 a2 true a0_0 a0_1 a0_2 a0_3 a0_4 a0_5) = some r := by rw [if_neg (show ¬ (false = true) by decide)] at H; exact H
            clear H
            have H := H1
            clear H1
            have H' := Aside0.mk H
            clear H
            go_wp2_with (first | (go_at_call 13; (with_reducible refine (laws_logSmall.calls k _ _ l1 false _ ?side1 ?side2 A10.out).mono ?_); (case side1 => repeat (first | exact (Kd.C_below HR1.out HB.out) | (with_reducible refine Kd.C_alloc ?_ _) | (with_reducible refine Kd.C_drewN ?_ _) | (with_reducible refine Kd.C_drew ?_))); (case side2 => exact HC1.out); rintro e w' ⟨rfl, ⟨nd, rfl⟩⟩))
            go_meet
            case rel => exact ⟨_, (true), (by first | rfl | (simp; done) | (simp [*]; done)), H', ⟨by first | omega | exact Nat.le_refl _⟩, ⟨by (with_reducible repeat (first | refine blk_drewN ?_ _ | refine blk_drew ?_ | refine blk_alloc ?_ _)); exact BK181.out⟩, ⟨by repeat (first | (with_reducible first | exact HB.out | apply below_alloc | apply pw_below_drewN | apply below_drew1 | refine below_set ?_ GE181.out) | exact HB.out)⟩⟩
    case rest =>
      clear HC6
      try clear c1
      try clear p2
      try clear c3
      try clear c5
      try clear c8
      try clear c8b0
      try clear c9
      try clear c9b0
      try clear c11
      obtain ⟨kq, x34_5, rfl, HA, HJ5, BK181, HB⟩ := hcut
      cases kq with
      | zero => exact absurd HA.out (by simp [laws_FnTreeOfTrees.j0])
      | succ kj5 =>
        have H := HA.out
        clear HA
        simp only [laws_FnTreeOfTrees.j0] at H
        by_cases c12 : x34_5 = true
        · subst c12
          have H1 : (some true) = some r := by rw [if_pos rfl] at H; exact H
          clear H
          have H := H1
          clear H1
          obtain rfl := Option.some.inj H
          go_wp2
          go_ret
          exact ⟨by first | rfl | (simp [errW_none, errW_some] <;> rfl) | (simp [*, errW_none, errW_some] <;> rfl), by repeat (first | (with_reducible first | exact HB.out | apply below_alloc | apply pw_below_drewN | apply below_drew1 | refine below_set ?_ GE181.out) | exact HB.out)⟩
        · replace c12 := Bool.eq_false_iff.mpr c12
          subst c12
          have H1 : (laws_FnTreeOfTrees.l0 kj5 l1 a2 ([] : List (List Int)) 0 a0_0 a0_1 a0_2 a0_3 a0_4 a0_5) = some r := by rw [if_neg (show ¬ (false = true) by decide)] at H; exact H
          clear H
          have H := H1
          clear H1
          have H' := Aside0.mk H
          clear H
          go_wp2
          go_loopg [7, 8] kj5 (fun kq v7 v8 w' => ∃ (x7_2 : List (List Int)) (x8_2 : Int), v8 = .int .i64 x8_2 ∧ Aside0 (laws_FnTreeOfTrees.l0 kq l1 a2 x7_2 x8_2 a0_0 a0_1 a0_2 a0_3 a0_4 a0_5 = some r) ∧ Aside0 (kq ≤ kj5) ∧ Aside0 (Kd.S (Kd.slice 5 (Kd.int .u8)) 27 w' w.heap.size (fun _ => True) v7 x7_2) ∧ Aside0 (w'.heap[gb181]? = some (.cells #[.int .i64 a0_0, .int .i64 a0_1, .int .i64 a0_2, .int .u64 a0_3, .int .u64 a0_4, .int .u64 a0_5] 24 (0, 0))) ∧ Aside0 (Below w.heap.size w w'))
          case atStart => exact ⟨(([] : List (List Int))), (0), (by first | rfl | (simp; done) | (simp [*]; done)), H', ⟨Nat.le_refl _⟩, ⟨by first | exact Kd.S_nil _ _ _ _ _ | exact Kd.N_nil _ _ _ _ _ | exact Kd.V_nil _ _ _ _ _ | exact Kd.Q_nil _ _ _ _ _ | exact Kd.R_nil _ _ _ _ _⟩, ⟨by (with_reducible repeat (first | refine blk_drewN ?_ _ | refine blk_drew ?_ | refine blk_alloc ?_ _)); exact BK181.out⟩, ⟨by repeat (first | (with_reducible first | exact HB.out | apply below_alloc | apply pw_below_drewN | apply below_drew1 | refine below_set ?_ GE181.out) | exact HB.out)⟩⟩
          case round =>
            clear H'
            try clear c1
            try clear p2
            try clear c3
            try clear c5
            try clear c8
            try clear c8b0
            try clear c9
            try clear c9b0
            try clear c11
            try clear c12
            try clear p2
            obtain ⟨x7_2, x8_2, rfl, HA, HK2, HO_7, BK181, HB⟩ := hrel
            cases gk with
            | zero => exact absurd HA.out (by simp [laws_FnTreeOfTrees.l0])
            | succ k2 =>
              have H := HA.out
              clear HA
              simp only [laws_FnTreeOfTrees.l0] at H
              by_cases c13 : x8_2 < (l1.length : Int)
              · rw [if_pos c13] at H
                have c13b0 : decide (x8_2 < (l1.length : Int)) = true := decide_eq_true c13
                clear c13
                by_cases c14 : 0 ≤ a2
                · rw [if_pos c14] at H
                  have c14b0 := eq_true c14
                  have c14b1 : decide (0 ≤ a2) = true := decide_eq_true c14
                  clear c14
                  obtain ⟨ji15, hji15⟩ : ∃ j_ : Int, (shl .i64 1 a2) = j_ := ⟨_, rfl⟩
                  replace H : (if 0 ≤ x8_2 then (if x8_2 ≤ (mn (l1.length : Int) (wrap64 (x8_2 + (ji15)))) then (if (mn (l1.length : Int) (wrap64 (x8_2 + (ji15)))) ≤ (l1.length : Int) then ((some ((l1.take ((mn (l1.length : Int) (wrap64 (x8_2 + (ji15)))) : Int).toNat).drop (x8_2 : Int).toNat : List (List Int))).bind fun y184 => ((impl_TreeRoot.f k2 a0_0 a0_1 a0_2 a0_3 a0_4 a0_5 y184 (IntKind.u64.wrap ((y184.length : Int)))).bind fun bt188 => (if bt188.2 = true then (if x7_2.length < 5864062014805 then (laws_FnTreeOfTrees.l0 k2 l1 a2 (x7_2 ++ [bt188.1]) (wrap64 (x8_2 + (ji15))) a0_0 a0_1 a0_2 a0_3 a0_4 a0_5) else (none)) else (some false)))) else (none)) else (none)) else (none)) = some r := by first | (rw [hji15] at H; exact H) | (simp only [hji15] at H ⊢; exact H)
                  have hji15_ : (IntKind.i64.wrap (1 * 2 ^ min a2.toNat 64)) = ji15 := hji15
                  have hji15z : a2 ≤ 64 → (IntKind.i64.wrap (1 * 2 ^ a2.toNat)) = ji15 := shl_small hji15
                  have hji15u : (IntKind.i64.wrap (2 ^ min a2.toNat 64)) = ji15 := by have h_ := hji15_; rw [Int.one_mul] at h_; exact h_
                  have hji15v : a2 ≤ 64 → (IntKind.i64.wrap (2 ^ a2.toNat)) = ji15 := fun hle_ => by have h_ := hji15z hle_; rw [Int.one_mul] at h_; exact h_
                  have hji15y : (wrap64 (1 * 2 ^ min a2.toNat 64)) = ji15 := (i64_w _).symm.trans hji15_
                  have hji15x : a2 ≤ 64 → (wrap64 (1 * 2 ^ a2.toNat)) = ji15 := fun h_ => (i64_w _).symm.trans (hji15z h_)
                  obtain ⟨ji16, hji16⟩ : ∃ j_ : Int, (mn (l1.length : Int) (wrap64 (x8_2 + (ji15)))) = j_ := ⟨_, rfl⟩
                  replace H : (if 0 ≤ x8_2 then (if x8_2 ≤ (ji16) then (if (ji16) ≤ (l1.length : Int) then ((some ((l1.take ((ji16) : Int).toNat).drop (x8_2 : Int).toNat : List (List Int))).bind fun y184 => ((impl_TreeRoot.f k2 a0_0 a0_1 a0_2 a0_3 a0_4 a0_5 y184 (IntKind.u64.wrap ((y184.length : Int)))).bind fun bt188 => (if bt188.2 = true then (if x7_2.length < 5864062014805 then (laws_FnTreeOfTrees.l0 k2 l1 a2 (x7_2 ++ [bt188.1]) (wrap64 (x8_2 + (ji15))) a0_0 a0_1 a0_2 a0_3 a0_4 a0_5) else (none)) else (some false)))) else (none)) else (none)) else (none)) = some r := by first | (rw [hji16] at H; exact H) | (simp only [hji16] at H ⊢; exact H)
                  have hji16_ : (if (wrap64 (x8_2 + (ji15))) < (l1.length : Int) then (wrap64 (x8_2 + (ji15))) else (l1.length : Int)) = ji16 := hji16
                  by_cases c17 : 0 ≤ x8_2
                  · rw [if_pos c17] at H
                    have c17b0 := eq_true c17
                    have c17b1 : decide (0 ≤ x8_2) = true := decide_eq_true c17
                    clear c17
                    by_cases c18 : x8_2 ≤ (ji16)
                    · rw [if_pos c18] at H
                      have c18b0 := eq_true c18
                      have c18b1 : decide (x8_2 ≤ (ji16)) = true := decide_eq_true c18
                      clear c18
                      by_cases c19 : (ji16) ≤ (l1.length : Int)
                      · rw [if_pos c19] at H
                        have c19b0 := eq_true c19
                        have c19b1 : decide ((ji16) ≤ (l1.length : Int)) = true := decide_eq_true c19
                        clear c19
                        obtain ⟨y184, hy184⟩ : ∃ y_ : List (List Int), y_ = ((l1.take ((ji16) : Int).toNat).drop (x8_2 : Int).toNat) := ⟨_, rfl⟩
                        replace H : ((impl_TreeRoot.f k2 a0_0 a0_1 a0_2 a0_3 a0_4 a0_5 y184 (IntKind.u64.wrap ((y184.length : Int)))).bind fun bt188 => (if bt188.2 = true then (if x7_2.length < 5864062014805 then (laws_FnTreeOfTrees.l0 k2 l1 a2 (x7_2 ++ [bt188.1]) (wrap64 (x8_2 + (ji15))) a0_0 a0_1 a0_2 a0_3 a0_4 a0_5) else (none)) else (some false))) = some r := by first | (rw [hy184]; with_reducible exact H) | (have H2_ := (Option.bind_some _ _).symm.trans H; rw [hy184]; with_reducible exact H2_) | (have H2_ := (Option.bind_some _ _).symm.trans H; with_reducible exact H2_) | with_reducible exact H | (rw [hy184]; exact H) | exact H
                        have Ny184 := Aside0.mk hy184
                        clear hy184
                        replace H := Option.bind_eq_some_iff.mp H
                        obtain ⟨⟨t188, t191⟩, A200, H⟩ := H
                        replace H : (if t191 = true then (if x7_2.length < 5864062014805 then (laws_FnTreeOfTrees.l0 k2 l1 a2 (x7_2 ++ [t188]) (wrap64 (x8_2 + (ji15))) a0_0 a0_1 a0_2 a0_3 a0_4 a0_5) else (none)) else (some false)) = some r := H
                        have A20 := Aside0.mk A200
                        clear A200
                        by_cases c21 : t191 = true
                        · subst c21
                          have H1 : (if x7_2.length < 5864062014805 then (laws_FnTreeOfTrees.l0 k2 l1 a2 (x7_2 ++ [t188]) (wrap64 (x8_2 + (ji15))) a0_0 a0_1 a0_2 a0_3 a0_4 a0_5) else (none)) = some r := by rw [if_pos rfl] at H; exact H
                          clear H
                          have H := H1
                          clear H1
                          by_cases c22 : x7_2.length < 5864062014805
                          · rw [if_pos c22] at H
                            have LMc22 := Aside0.mk c22
                            clear c22
                            obtain ⟨y192, hy192⟩ : ∃ y_ : List (List Int), y_ = (x7_2 ++ [t188]) := ⟨_, rfl⟩
                            replace H : (laws_FnTreeOfTrees.l0 k2 l1 a2 y192 (wrap64 (x8_2 + (ji15))) a0_0 a0_1 a0_2 a0_3 a0_4 a0_5) = some r := by first | (rw [hy192]; with_reducible exact H) | (have H2_ := (Option.bind_some _ _).symm.trans H; rw [hy192]; with_reducible exact H2_) | (have H2_ := (Option.bind_some _ _).symm.trans H; with_reducible exact H2_) | with_reducible exact H | (rw [hy192]; exact H) | exact H
                            have Ny192 := Aside0.mk hy192
                            clear hy192
                            have c23b0 := eq_true (of_decide_eq_true (by first | (with_reducible assumption) | assumption) : 0 ≤ a2)
                            have H' := Aside0.mk H
                            clear H
                            have q24 : ((ji16) : Int) ≤ ((l1.length : Int) : Int) := of_decide_eq_true (by first | (with_reducible assumption) | assumption)
                            obtain ⟨i024, hi024, _, hsz24, _⟩ := info_parts info27
                            have hroom24 : l1.length ≤ c1 := HC1.out
                            have hC24 : Kd.C (Kd.slice 5 (Kd.int .u8)) _ A1 l1.length l1 := HR1.out
                            have ql24 : (x8_2 : Int) ≤ ((ji16) : Int) := of_decide_eq_true (by first | (with_reducible assumption) | assumption)
                            have q024 : (0 : Int) ≤ (x8_2 : Int) := of_decide_eq_true (by first | (with_reducible assumption) | assumption)
                            have hcut24 := cut_mid (P := Tryd.prog) 25 27 .i64 .i64 Tryd.underlying25 hi024 1 hsz24 A1 l1.length c1 x8_2 (ji16) q024 ql24 q24 hroom24
                            have hr24 := Kd.C_mid (lo := (x8_2 : Int).toNat) (hi := ((ji16) : Int).toNat) (c := c1) hC24 (by omega) (by omega) hroom24
                            obtain ⟨A24, hA24⟩ : ∃ Aq_, Aq_ = (if c1 = (x8_2 : Int).toNat then A1 else (A1 : Option Addr).map (·.add ((x8_2 : Int).toNat * 1))) := ⟨_, rfl⟩
                            obtain ⟨c24, hc24⟩ : ∃ cq_, cq_ = c1 - (x8_2 : Int).toNat := ⟨_, rfl⟩
                            have hy24 : y184.length = ((ji16) : Int).toNat - (x8_2 : Int).toNat := (by rw [Ny184.out, List.length_drop, List.length_take] <;> omega)
                            rw [show ((l1).take ((ji16) : Int).toNat).drop (x8_2 : Int).toNat = y184 from Ny184.out.symm] at hr24
                            replace hr24 : Kd.C (Kd.slice 5 (Kd.int .u8)) _ A24 y184.length y184 := (by rw [hA24]; exact hr24)
                            rw [← hy24, ← hA24, ← hc24] at hcut24
                            have HR187 := Aside0.mk hr24
                            have HC187 := Aside0.mk (show y184.length ≤ c24 from by rw [hy24, hc24]; exact Nat.sub_le_sub_right (Nat.le_trans (by omega) hroom24) _)
                            clear hr24 hC24 hroom24 hi024 hsz24 hc24
                            have KY24 := Aside0.mk hy24
                            have KA24 := Aside0.mk hA24
                            clear hy24 hA24
                            replace q24 := eq_true q24
                            have hcz25_0 : wr.cell? ⟨gb181, 0, none⟩ = some (.int .i64 a0_0) := (blk_cell BK181.out 0).trans rfl
                            have hcz25_1 : wr.cell? ⟨gb181, 1, none⟩ = some (.int .i64 a0_1) := (blk_cell BK181.out 1).trans rfl
                            have hcz25_2 : wr.cell? ⟨gb181, 2, none⟩ = some (.int .i64 a0_2) := (blk_cell BK181.out 2).trans rfl
                            have hcz25_3 : wr.cell? ⟨gb181, 3, none⟩ = some (.int .u64 a0_3) := (blk_cell BK181.out 3).trans rfl
                            have hcz25_4 : wr.cell? ⟨gb181, 4, none⟩ = some (.int .u64 a0_4) := (blk_cell BK181.out 4).trans rfl
                            have hcz25_5 : wr.cell? ⟨gb181, 5, none⟩ = some (.int .u64 a0_5) := (blk_cell BK181.out 5).trans rfl
                            have hfz25_0 := blk_frozen BK181.out 0
                            have hfz25_1 := blk_frozen BK181.out 1
                            have hfz25_2 := blk_frozen BK181.out 2
                            have hfz25_3 := blk_frozen BK181.out 3
                            have hfz25_4 := blk_frozen BK181.out 4
                            have hfz25_5 := blk_frozen BK181.out 5
                            go_wp2_with (first | ((with_reducible refine gate_callee (f := 14) rfl ?_); refine goesL_ (some 59) rfl rfl Tryd.func14 (by kernel_rfl) rfl #[.agg #[.int .i64 a0_0, .int .i64 a0_1, .int .i64 a0_2, .int .u64 a0_3, .int .u64 a0_4, .int .u64 a0_5], .slice A24 y184.length c24, .int .u64 (IntKind.u64.wrap ((y184.length : Int)))] rfl (by (try simp only [List.map_toArray, List.map_cons, List.map_nil]); first | done | rfl | (simp only [List.length_drop, List.length_take]; rfl)) ?_; (with_reducible refine (impl_TreeRoot.calls k2 a0_0 a0_1 a0_2 a0_3 a0_4 a0_5 _ _ y184 (IntKind.u64.wrap ((y184.length : Int))) t188 true _ ?side1 ?side2 ?side3 A20.out).mono ?_); (case side1 => exact TabOK.below HT.out (by repeat (first | (with_reducible first | exact HB.out | apply below_alloc | apply pw_below_drewN | apply below_drew1 | refine below_set ?_ GE181.out) | exact HB.out))); (case side2 => repeat (first | exact (Kd.C_below HR187.out HB.out) | (with_reducible refine Kd.C_alloc ?_ _) | (with_reducible refine Kd.C_drewN ?_ _) | (with_reducible refine Kd.C_drew ?_))); (case side3 => exact HC187.out); rintro e w26 ⟨v189, rfl, ho0, hb⟩; refine ⟨_, rfl, ?_⟩; have n0_ := Aside0.mk (Kd.S_elder' (by (with_reducible repeat (first | apply Kd.S_alloc | apply Kd.S_drewN | apply Kd.S_drew)); exact HO_7.out) (Kd.R_base ho0) hb); have n1_ := Aside0.mk (Kd.R_lower ho0 (below_size (by repeat (first | (with_reducible first | exact HB.out | apply below_alloc | apply pw_below_drewN | apply below_drew1 | refine below_set ?_ GE181.out) | exact HB.out)))); have n2_ := Aside0.mk (blk_below (g := gb181) (o := .cells #[.int .i64 a0_0, .int .i64 a0_1, .int .i64 a0_2, .int .u64 a0_3, .int .u64 a0_4, .int .u64 a0_5] 24 (0, 0)) (by (with_reducible repeat (first | refine blk_drewN ?_ _ | refine blk_drew ?_ | refine blk_alloc ?_ _)); exact BK181.out) hb); have n3_ := Aside0.mk (below_step (by repeat (first | (with_reducible first | exact HB.out | apply below_alloc | apply pw_below_drewN | apply below_drew1 | refine below_set ?_ GE181.out) | exact HB.out)) hb); clear HO_7; clear BK181; clear HB; have HO_7 := n0_; have HO190 := n1_; have BK181 := n2_; have HB := n3_; clear n0_ n1_ n2_ n3_; (try clear hb); (try clear hb2); (try clear hk); (try clear hi); (try clear ho0); obtain ⟨Ao28, co28, eo28⟩ := Kd.R_slice HO190.out; subst eo28) | ((with_reducible refine gate_builtin (b := .append) (xs := #[.tmp 64, .tmp 66]) rfl ?_); (try (refine gate_guard (by rfl) ?_; dsimp only)); at_builtin; refine Kd.S_append (Kd.slice 5 (Kd.int .u8)) (w0 := w) w.heap.size rfl (.tmp 64) (.tmp 66) 25 27 (.slice none 0 0) 24 rfl Tryd.underlying25 info27 rfl (by decide) (by omega) u7 x7_2 t188 [.slice Ao28 t188.length co28] (fun _ => True) (fun k_ => some k_ = (.slice Ao28 t188.length co28 : Value).ownBlock) rfl rfl ?aP (fun k_ hk_ => ((Kd.R_mono (ok' := fun k_ => ((fun _ => True)) k_ ∧ some k_ ≠ (u7 : Value).ownBlock) (Kd.R_apart' (HO190.out) (Kd.S_typed HO_7.out) (by decide)) (fun k_ hk => ⟨trivial, hk.2⟩))).1 k_ hk_.symm) ?aF ?aO ?aB ?aS ?aL ?_; (case aP => exact Kd.M_row (Kd.R_mono (Kd.R_tight rfl (Kd.R_mono (ok' := fun k_ => ((fun _ => True)) k_ ∧ some k_ ≠ (u7 : Value).ownBlock) (Kd.R_apart' (HO190.out) (Kd.S_typed HO_7.out) (by decide)) (fun k_ hk => ⟨trivial, hk.2⟩))) (fun _ h_ => h_))); (case aB => exact (by repeat (first | (with_reducible first | exact HB.out | apply below_alloc | apply pw_below_drewN | apply below_drew1 | refine below_set ?_ GE181.out) | exact HB.out))); (case aF => exact (fun _ _ => trivial)); (case aO => exact (by (with_reducible repeat (first | apply Kd.S_alloc | apply Kd.S_drewN | apply Kd.S_drew)); exact Kd.S_mono HO_7.out (fun k_ hk => ⟨trivial, fun e_ => hk.2 e_⟩))); (case aS => exact (below_size (by repeat (first | (with_reducible first | exact HB.out | apply below_alloc | apply pw_below_drewN | apply below_drew1 | refine below_set ?_ GE181.out) | exact HB.out)))); (case aL => have := LMc22.out; omega); intro v193 w27 ho hb hg hat; rw [← Ny192.out] at ho; have n0_ := Aside0.mk (blk_grown (g := gb181) (o := .cells #[.int .i64 a0_0, .int .i64 a0_1, .int .i64 a0_2, .int .u64 a0_3, .int .u64 a0_4, .int .u64 a0_5] 24 (0, 0)) (by (with_reducible repeat (first | refine blk_drewN ?_ _ | refine blk_drew ?_ | refine blk_alloc ?_ _)); exact BK181.out) hg (Kd.S_ne HO_7.out BK181.out (by decide))); have n1_ := Aside0.mk (hb); have n2_ := Aside0.mk (ho); clear BK181; clear HB; clear HO_7; clear HO190; have BK181 := n0_; have HB := n1_; have HO194 := n2_; clear n0_ n1_ n2_; clear ho hb hg hat))
                            go_roundg k2
                            case measure => have := HJ5.out; have := HK2.out; omega
                            case rel => exact ⟨(y192), (wrap64 (x8_2 + (ji15))), (by first | rfl | (simp; done) | (simp only [← hji15] <;> (first | rfl | simp)) | (simp [*]; done)), H', ⟨by have := HJ5.out; have := HK2.out; omega⟩, ⟨by (with_reducible repeat (first | apply Kd.S_alloc | apply Kd.S_drewN | apply Kd.S_drew)); exact HO194.out⟩, ⟨by (with_reducible repeat (first | refine blk_drewN ?_ _ | refine blk_drew ?_ | refine blk_alloc ?_ _)); exact BK181.out⟩, ⟨by repeat (first | (with_reducible first | exact HB.out | apply below_alloc | apply pw_below_drewN | apply below_drew1 | refine below_set ?_ GE181.out) | exact HB.out)⟩⟩
                          · rw [if_neg c22] at H
                            exact absurd H (by simp)
                        · replace c21 := Bool.eq_false_iff.mpr c21
                          subst c21
                          have H1 : (some false) = some r := by rw [if_neg (show ¬ (false = true) by decide)] at H; exact H
                          clear H
                          have H := H1
                          clear H1
                          obtain rfl := Option.some.inj H
                          have q29 : ((ji16) : Int) ≤ ((l1.length : Int) : Int) := of_decide_eq_true (by first | (with_reducible assumption) | assumption)
                          obtain ⟨i029, hi029, _, hsz29, _⟩ := info_parts info27
                          have hroom29 : l1.length ≤ c1 := HC1.out
                          have hC29 : Kd.C (Kd.slice 5 (Kd.int .u8)) _ A1 l1.length l1 := HR1.out
                          have ql29 : (x8_2 : Int) ≤ ((ji16) : Int) := of_decide_eq_true (by first | (with_reducible assumption) | assumption)
                          have q029 : (0 : Int) ≤ (x8_2 : Int) := of_decide_eq_true (by first | (with_reducible assumption) | assumption)
                          have hcut29 := cut_mid (P := Tryd.prog) 25 27 .i64 .i64 Tryd.underlying25 hi029 1 hsz29 A1 l1.length c1 x8_2 (ji16) q029 ql29 q29 hroom29
                          have hr29 := Kd.C_mid (lo := (x8_2 : Int).toNat) (hi := ((ji16) : Int).toNat) (c := c1) hC29 (by omega) (by omega) hroom29
                          obtain ⟨A29, hA29⟩ : ∃ Aq_, Aq_ = (if c1 = (x8_2 : Int).toNat then A1 else (A1 : Option Addr).map (·.add ((x8_2 : Int).toNat * 1))) := ⟨_, rfl⟩
                          obtain ⟨c29, hc29⟩ : ∃ cq_, cq_ = c1 - (x8_2 : Int).toNat := ⟨_, rfl⟩
                          have hy29 : y184.length = ((ji16) : Int).toNat - (x8_2 : Int).toNat := (by rw [Ny184.out, List.length_drop, List.length_take] <;> omega)
                          rw [show ((l1).take ((ji16) : Int).toNat).drop (x8_2 : Int).toNat = y184 from Ny184.out.symm] at hr29
                          replace hr29 : Kd.C (Kd.slice 5 (Kd.int .u8)) _ A29 y184.length y184 := (by rw [hA29]; exact hr29)
                          rw [← hy29, ← hA29, ← hc29] at hcut29
                          have HR187 := Aside0.mk hr29
                          have HC187 := Aside0.mk (show y184.length ≤ c29 from by rw [hy29, hc29]; exact Nat.sub_le_sub_right (Nat.le_trans (by omega) hroom29) _)
                          clear hr29 hC29 hroom29 hi029 hsz29 hc29
                          have KY29 := Aside0.mk hy29
                          have KA29 := Aside0.mk hA29
                          clear hy29 hA29
                          replace q29 := eq_true q29
                          have hcz30_0 : wr.cell? ⟨gb181, 0, none⟩ = some (.int .i64 a0_0) := (blk_cell BK181.out 0).trans rfl
                          have hcz30_1 : wr.cell? ⟨gb181, 1, none⟩ = some (.int .i64 a0_1) := (blk_cell BK181.out 1).trans rfl
                          have hcz30_2 : wr.cell? ⟨gb181, 2, none⟩ = some (.int .i64 a0_2) := (blk_cell BK181.out 2).trans rfl
                          have hcz30_3 : wr.cell? ⟨gb181, 3, none⟩ = some (.int .u64 a0_3) := (blk_cell BK181.out 3).trans rfl
                          have hcz30_4 : wr.cell? ⟨gb181, 4, none⟩ = some (.int .u64 a0_4) := (blk_cell BK181.out 4).trans rfl
                          have hcz30_5 : wr.cell? ⟨gb181, 5, none⟩ = some (.int .u64 a0_5) := (blk_cell BK181.out 5).trans rfl
                          have hfz30_0 := blk_frozen BK181.out 0
                          have hfz30_1 := blk_frozen BK181.out 1
                          have hfz30_2 := blk_frozen BK181.out 2
                          have hfz30_3 := blk_frozen BK181.out 3
                          have hfz30_4 := blk_frozen BK181.out 4
                          have hfz30_5 := blk_frozen BK181.out 5
                          go_wp2_with (first | ((with_reducible refine gate_callee (f := 14) rfl ?_); refine goesL_ (some 59) rfl rfl Tryd.func14 (by kernel_rfl) rfl #[.agg #[.int .i64 a0_0, .int .i64 a0_1, .int .i64 a0_2, .int .u64 a0_3, .int .u64 a0_4, .int .u64 a0_5], .slice A29 y184.length c29, .int .u64 (IntKind.u64.wrap ((y184.length : Int)))] rfl (by (try simp only [List.map_toArray, List.map_cons, List.map_nil]); first | done | rfl | (simp only [List.length_drop, List.length_take]; rfl)) ?_; (with_reducible refine (impl_TreeRoot.calls k2 a0_0 a0_1 a0_2 a0_3 a0_4 a0_5 _ _ y184 (IntKind.u64.wrap ((y184.length : Int))) t188 false _ ?side1 ?side2 ?side3 A20.out).mono ?_); (case side1 => exact TabOK.below HT.out (by repeat (first | (with_reducible first | exact HB.out | apply below_alloc | apply pw_below_drewN | apply below_drew1 | refine below_set ?_ GE181.out) | exact HB.out))); (case side2 => repeat (first | exact (Kd.C_below HR187.out HB.out) | (with_reducible refine Kd.C_alloc ?_ _) | (with_reducible refine Kd.C_drewN ?_ _) | (with_reducible refine Kd.C_drew ?_))); (case side3 => exact HC187.out); rintro e w31 ⟨v189, rfl, ho0, hb⟩; refine ⟨_, rfl, ?_⟩; have n0_ := Aside0.mk (Kd.S_elder' (by (with_reducible repeat (first | apply Kd.S_alloc | apply Kd.S_drewN | apply Kd.S_drew)); exact HO_7.out) (Kd.R_base ho0) hb); have n1_ := Aside0.mk (Kd.R_lower ho0 (below_size (by repeat (first | (with_reducible first | exact HB.out | apply below_alloc | apply pw_below_drewN | apply below_drew1 | refine below_set ?_ GE181.out) | exact HB.out)))); have n2_ := Aside0.mk (blk_below (g := gb181) (o := .cells #[.int .i64 a0_0, .int .i64 a0_1, .int .i64 a0_2, .int .u64 a0_3, .int .u64 a0_4, .int .u64 a0_5] 24 (0, 0)) (by (with_reducible repeat (first | refine blk_drewN ?_ _ | refine blk_drew ?_ | refine blk_alloc ?_ _)); exact BK181.out) hb); have n3_ := Aside0.mk (below_step (by repeat (first | (with_reducible first | exact HB.out | apply below_alloc | apply pw_below_drewN | apply below_drew1 | refine below_set ?_ GE181.out) | exact HB.out)) hb); clear HO_7; clear BK181; clear HB; have HO_7 := n0_; have HO190 := n1_; have BK181 := n2_; have HB := n3_; clear n0_ n1_ n2_ n3_; (try clear hb); (try clear hb2); (try clear hk); (try clear hi); (try clear ho0)))
                          go_ret
                          exact ⟨by first | rfl | (simp [errW_none, errW_some] <;> rfl) | (simp only [← hji15, ← hji16]; first | rfl | (simp [errW_none, errW_some] <;> rfl)) | (simp [*, errW_none, errW_some] <;> rfl), by repeat (first | (with_reducible first | exact HB.out | apply below_alloc | apply pw_below_drewN | apply below_drew1 | refine below_set ?_ GE181.out) | exact HB.out)⟩
                      · rw [if_neg c19] at H
                        exact absurd H (by simp)
                    · rw [if_neg c18] at H
                      exact absurd H (by simp)
                  · rw [if_neg c17] at H
                    exact absurd H (by simp)
                · rw [if_neg c14] at H
                  exact absurd H (by simp)
              · rw [if_neg c13] at H
                have c13b0 : decide (x8_2 < (l1.length : Int)) = false := decide_eq_false c13
                clear c13
                replace H := Option.bind_eq_some_iff.mp H
                obtain ⟨⟨t195, t198⟩, A320, H⟩ := H
                replace H : ((impl_TreeRoot.f k2 a0_0 a0_1 a0_2 a0_3 a0_4 a0_5 x7_2 (IntKind.u64.wrap ((x7_2.length : Int)))).bind fun bt199 => (if t198 = true then (if bt199.2 = true then ((spec_SameText.f t195 bt199.1).bind fun t203 => (some t203)) else (some false)) else (some false))) = some r := H
                have A32 := Aside0.mk A320
                clear A320
                replace H := Option.bind_eq_some_iff.mp H
                obtain ⟨⟨t199, t202⟩, A330, H⟩ := H
                replace H : (if t198 = true then (if t202 = true then ((spec_SameText.f t195 t199).bind fun t203 => (some t203)) else (some false)) else (some false)) = some r := H
                have A33 := Aside0.mk A330
                clear A330
                by_cases c34 : t198 = true
                · subst c34
                  have H1 : (if t202 = true then ((spec_SameText.f t195 t199).bind fun t203 => (some t203)) else (some false)) = some r := by rw [if_pos rfl] at H; exact H
                  clear H
                  have H := H1
                  clear H1
                  by_cases c35 : t202 = true
                  · subst c35
                    have H1 : ((spec_SameText.f t195 t199).bind fun t203 => (some t203)) = some r := by rw [if_pos rfl] at H; exact H
                    clear H
                    have H := H1
                    clear H1
                    replace H := Option.bind_eq_some_iff.mp H
                    obtain ⟨t203, A360, H⟩ := H
                    replace H : (some t203) = some r := H
                    have A36 := Aside0.mk A360
                    clear A360
                    obtain rfl := Option.some.inj H
                    have hcz37_0 : wr.cell? ⟨gb181, 0, none⟩ = some (.int .i64 a0_0) := (blk_cell BK181.out 0).trans rfl
                    have hcz37_1 : wr.cell? ⟨gb181, 1, none⟩ = some (.int .i64 a0_1) := (blk_cell BK181.out 1).trans rfl
                    have hcz37_2 : wr.cell? ⟨gb181, 2, none⟩ = some (.int .i64 a0_2) := (blk_cell BK181.out 2).trans rfl
                    have hcz37_3 : wr.cell? ⟨gb181, 3, none⟩ = some (.int .u64 a0_3) := (blk_cell BK181.out 3).trans rfl
                    have hcz37_4 : wr.cell? ⟨gb181, 4, none⟩ = some (.int .u64 a0_4) := (blk_cell BK181.out 4).trans rfl
                    have hcz37_5 : wr.cell? ⟨gb181, 5, none⟩ = some (.int .u64 a0_5) := (blk_cell BK181.out 5).trans rfl
                    have hfz37_0 := blk_frozen BK181.out 0
                    have hfz37_1 := blk_frozen BK181.out 1
                    have hfz37_2 := blk_frozen BK181.out 2
                    have hfz37_3 := blk_frozen BK181.out 3
                    have hfz37_4 := blk_frozen BK181.out 4
                    have hfz37_5 := blk_frozen BK181.out 5
                    go_wp2_with (first | ((with_reducible refine gate_callee (f := 14) rfl ?_); refine goesL_ (some 74) rfl rfl Tryd.func14 (by kernel_rfl) rfl #[.agg #[.int .i64 a0_0, .int .i64 a0_1, .int .i64 a0_2, .int .u64 a0_3, .int .u64 a0_4, .int .u64 a0_5], .slice A1 l1.length c1, .int .u64 (IntKind.u64.wrap ((l1.length : Int)))] rfl (by (try simp only [List.map_toArray, List.map_cons, List.map_nil]); first | done | rfl | (simp only [List.length_drop, List.length_take]; rfl)) ?_; (with_reducible refine (impl_TreeRoot.calls k2 a0_0 a0_1 a0_2 a0_3 a0_4 a0_5 _ _ l1 (IntKind.u64.wrap ((l1.length : Int))) t195 true _ ?side1 ?side2 ?side3 A32.out).mono ?_); (case side1 => exact TabOK.below HT.out (by repeat (first | (with_reducible first | exact HB.out | apply below_alloc | apply pw_below_drewN | apply below_drew1 | refine below_set ?_ GE181.out) | exact HB.out))); (case side2 => repeat (first | exact (Kd.C_below HR1.out HB.out) | (with_reducible refine Kd.C_alloc ?_ _) | (with_reducible refine Kd.C_drewN ?_ _) | (with_reducible refine Kd.C_drew ?_))); (case side3 => exact HC1.out); rintro e w38 ⟨v196, rfl, ho0, hb⟩; refine ⟨_, rfl, ?_⟩; have n0_ := Aside0.mk (Kd.S_elder' (by (with_reducible repeat (first | apply Kd.S_alloc | apply Kd.S_drewN | apply Kd.S_drew)); exact HO_7.out) (Kd.R_base ho0) hb); have n1_ := Aside0.mk (Kd.R_lower ho0 (below_size (by repeat (first | (with_reducible first | exact HB.out | apply below_alloc | apply pw_below_drewN | apply below_drew1 | refine below_set ?_ GE181.out) | exact HB.out)))); have n2_ := Aside0.mk (blk_below (g := gb181) (o := .cells #[.int .i64 a0_0, .int .i64 a0_1, .int .i64 a0_2, .int .u64 a0_3, .int .u64 a0_4, .int .u64 a0_5] 24 (0, 0)) (by (with_reducible repeat (first | refine blk_drewN ?_ _ | refine blk_drew ?_ | refine blk_alloc ?_ _)); exact BK181.out) hb); have n3_ := Aside0.mk (below_step (by repeat (first | (with_reducible first | exact HB.out | apply below_alloc | apply pw_below_drewN | apply below_drew1 | refine below_set ?_ GE181.out) | exact HB.out)) hb); clear HO_7; clear BK181; clear HB; have HO_7 := n0_; have HO197 := n1_; have BK181 := n2_; have HB := n3_; clear n0_ n1_ n2_ n3_; (try clear hb); (try clear hb2); (try clear hk); (try clear hi); (try clear ho0); have hcz39_0 : w38.cell? ⟨gb181, 0, none⟩ = some (.int .i64 a0_0) := (blk_cell BK181.out 0).trans rfl; have hcz39_1 : w38.cell? ⟨gb181, 1, none⟩ = some (.int .i64 a0_1) := (blk_cell BK181.out 1).trans rfl; have hcz39_2 : w38.cell? ⟨gb181, 2, none⟩ = some (.int .i64 a0_2) := (blk_cell BK181.out 2).trans rfl; have hcz39_3 : w38.cell? ⟨gb181, 3, none⟩ = some (.int .u64 a0_3) := (blk_cell BK181.out 3).trans rfl; have hcz39_4 : w38.cell? ⟨gb181, 4, none⟩ = some (.int .u64 a0_4) := (blk_cell BK181.out 4).trans rfl; have hcz39_5 : w38.cell? ⟨gb181, 5, none⟩ = some (.int .u64 a0_5) := (blk_cell BK181.out 5).trans rfl; have hfz39_0 := blk_frozen BK181.out 0; have hfz39_1 := blk_frozen BK181.out 1; have hfz39_2 := blk_frozen BK181.out 2; have hfz39_3 := blk_frozen BK181.out 3; have hfz39_4 := blk_frozen BK181.out 4; have hfz39_5 := blk_frozen BK181.out 5; obtain ⟨Ao40, co40, eo40⟩ := Kd.S_slice HO_7.out; subst eo40) | ((with_reducible refine gate_callee (f := 14) rfl ?_); refine goesL_ (some 83) rfl rfl Tryd.func14 (by kernel_rfl) rfl #[.agg #[.int .i64 a0_0, .int .i64 a0_1, .int .i64 a0_2, .int .u64 a0_3, .int .u64 a0_4, .int .u64 a0_5], .slice Ao40 x7_2.length co40, .int .u64 (IntKind.u64.wrap ((x7_2.length : Int)))] rfl (by (try simp only [List.map_toArray, List.map_cons, List.map_nil]); first | done | rfl | (simp only [List.length_drop, List.length_take]; rfl)) ?_; (with_reducible refine (impl_TreeRoot.calls k2 a0_0 a0_1 a0_2 a0_3 a0_4 a0_5 _ _ x7_2 (IntKind.u64.wrap ((x7_2.length : Int))) t199 true _ ?side1 ?side2 ?side3 A33.out).mono ?_); (case side1 => exact TabOK.below HT.out (by repeat (first | (with_reducible first | exact HB.out | apply below_alloc | apply pw_below_drewN | apply below_drew1 | refine below_set ?_ GE181.out) | exact HB.out))); (case side2 => repeat (first | exact (Kd.S_reads' HO_7.out).2.2 | (with_reducible refine Kd.C_alloc ?_ _) | (with_reducible refine Kd.C_drewN ?_ _) | (with_reducible refine Kd.C_drew ?_))); (case side3 => exact (Kd.S_reads' HO_7.out).2.1); rintro e w41 ⟨v200, rfl, ho0, hb⟩; refine ⟨_, rfl, ?_⟩; have n0_ := Aside0.mk (Kd.S_elder' (by (with_reducible repeat (first | apply Kd.S_alloc | apply Kd.S_drewN | apply Kd.S_drew)); exact HO_7.out) (Kd.R_base ho0) hb); have n1_ := Aside0.mk (Kd.R_elder' (by (with_reducible repeat (first | apply Kd.R_alloc | apply Kd.R_drewN | apply Kd.R_drew)); exact HO197.out) (Kd.R_base ho0) hb); have n2_ := Aside0.mk (Kd.R_lower (Kd.R_new' ho0 (Kd.R_lt (by (with_reducible repeat (first | apply Kd.R_alloc | apply Kd.R_drewN | apply Kd.R_drew)); exact HO197.out))) (below_size (by repeat (first | (with_reducible first | exact HB.out | apply below_alloc | apply pw_below_drewN | apply below_drew1 | refine below_set ?_ GE181.out) | exact HB.out)))); have n3_ := Aside0.mk (blk_below (g := gb181) (o := .cells #[.int .i64 a0_0, .int .i64 a0_1, .int .i64 a0_2, .int .u64 a0_3, .int .u64 a0_4, .int .u64 a0_5] 24 (0, 0)) (by (with_reducible repeat (first | refine blk_drewN ?_ _ | refine blk_drew ?_ | refine blk_alloc ?_ _)); exact BK181.out) hb); have n4_ := Aside0.mk (below_step (by repeat (first | (with_reducible first | exact HB.out | apply below_alloc | apply pw_below_drewN | apply below_drew1 | refine below_set ?_ GE181.out) | exact HB.out)) hb); clear HO_7; clear HO197; clear BK181; clear HB; have HO_7 := n0_; have HO197 := n1_; have HO201 := n2_; have BK181 := n3_; have HB := n4_; clear n0_ n1_ n2_ n3_ n4_; (try clear hb); (try clear hb2); (try clear hk); (try clear hi); (try clear ho0); obtain ⟨Ao42, co42, eo42⟩ := Kd.R_slice HO197.out; subst eo42; obtain ⟨Ao43, co43, eo43⟩ := Kd.R_slice HO201.out; subst eo43) | (go_at_call 15; (with_reducible refine (spec_SameText.calls _ _ t195 _ _ t199 t203 _ ?side1 ?side2 ?side3 ?side4 A36.out).mono ?_); (case side1 => repeat (first | exact (Kd.R_reads' HO197.out).2.2 | (with_reducible refine Kd.C_alloc ?_ _) | (with_reducible refine Kd.C_drewN ?_ _) | (with_reducible refine Kd.C_drew ?_))); (case side2 => exact (Kd.R_reads' HO197.out).2.1); (case side3 => repeat (first | exact (Kd.R_reads' HO201.out).2.2 | (with_reducible refine Kd.C_alloc ?_ _) | (with_reducible refine Kd.C_drewN ?_ _) | (with_reducible refine Kd.C_drew ?_))); (case side4 => exact (Kd.R_reads' HO201.out).2.1); rintro e w' ⟨rfl, ⟨nd, rfl⟩⟩))
                    go_ret
                    exact ⟨by first | rfl | (simp [errW_none, errW_some] <;> rfl) | (simp [*, errW_none, errW_some] <;> rfl), by repeat (first | (with_reducible first | exact HB.out | apply below_alloc | apply pw_below_drewN | apply below_drew1 | refine below_set ?_ GE181.out) | exact HB.out)⟩
                  · replace c35 := Bool.eq_false_iff.mpr c35
                    subst c35
                    have H1 : (some false) = some r := by rw [if_neg (show ¬ (false = true) by decide)] at H; exact H
                    clear H
                    have H := H1
                    clear H1
                    obtain rfl := Option.some.inj H
                    have hcz44_0 : wr.cell? ⟨gb181, 0, none⟩ = some (.int .i64 a0_0) := (blk_cell BK181.out 0).trans rfl
                    have hcz44_1 : wr.cell? ⟨gb181, 1, none⟩ = some (.int .i64 a0_1) := (blk_cell BK181.out 1).trans rfl
                    have hcz44_2 : wr.cell? ⟨gb181, 2, none⟩ = some (.int .i64 a0_2) := (blk_cell BK181.out 2).trans rfl
                    have hcz44_3 : wr.cell? ⟨gb181, 3, none⟩ = some (.int .u64 a0_3) := (blk_cell BK181.out 3).trans rfl
                    have hcz44_4 : wr.cell? ⟨gb181, 4, none⟩ = some (.int .u64 a0_4) := (blk_cell BK181.out 4).trans rfl
                    have hcz44_5 : wr.cell? ⟨gb181, 5, none⟩ = some (.int .u64 a0_5) := (blk_cell BK181.out 5).trans rfl
                    have hfz44_0 := blk_frozen BK181.out 0
                    have hfz44_1 := blk_frozen BK181.out 1
                    have hfz44_2 := blk_frozen BK181.out 2
                    have hfz44_3 := blk_frozen BK181.out 3
                    have hfz44_4 := blk_frozen BK181.out 4
                    have hfz44_5 := blk_frozen BK181.out 5
                    go_wp2_with (first | ((with_reducible refine gate_callee (f := 14) rfl ?_); refine goesL_ (some 74) rfl rfl Tryd.func14 (by kernel_rfl) rfl #[.agg #[.int .i64 a0_0, .int .i64 a0_1, .int .i64 a0_2, .int .u64 a0_3, .int .u64 a0_4, .int .u64 a0_5], .slice A1 l1.length c1, .int .u64 (IntKind.u64.wrap ((l1.length : Int)))] rfl (by (try simp only [List.map_toArray, List.map_cons, List.map_nil]); first | done | rfl | (simp only [List.length_drop, List.length_take]; rfl)) ?_; (with_reducible refine (impl_TreeRoot.calls k2 a0_0 a0_1 a0_2 a0_3 a0_4 a0_5 _ _ l1 (IntKind.u64.wrap ((l1.length : Int))) t195 true _ ?side1 ?side2 ?side3 A32.out).mono ?_); (case side1 => exact TabOK.below HT.out (by repeat (first | (with_reducible first | exact HB.out | apply below_alloc | apply pw_below_drewN | apply below_drew1 | refine below_set ?_ GE181.out) | exact HB.out))); (case side2 => repeat (first | exact (Kd.C_below HR1.out HB.out) | (with_reducible refine Kd.C_alloc ?_ _) | (with_reducible refine Kd.C_drewN ?_ _) | (with_reducible refine Kd.C_drew ?_))); (case side3 => exact HC1.out); rintro e w45 ⟨v196, rfl, ho0, hb⟩; refine ⟨_, rfl, ?_⟩; have n0_ := Aside0.mk (Kd.S_elder' (by (with_reducible repeat (first | apply Kd.S_alloc | apply Kd.S_drewN | apply Kd.S_drew)); exact HO_7.out) (Kd.R_base ho0) hb); have n1_ := Aside0.mk (Kd.R_lower ho0 (below_size (by repeat (first | (with_reducible first | exact HB.out | apply below_alloc | apply pw_below_drewN | apply below_drew1 | refine below_set ?_ GE181.out) | exact HB.out)))); have n2_ := Aside0.mk (blk_below (g := gb181) (o := .cells #[.int .i64 a0_0, .int .i64 a0_1, .int .i64 a0_2, .int .u64 a0_3, .int .u64 a0_4, .int .u64 a0_5] 24 (0, 0)) (by (with_reducible repeat (first | refine blk_drewN ?_ _ | refine blk_drew ?_ | refine blk_alloc ?_ _)); exact BK181.out) hb); have n3_ := Aside0.mk (below_step (by repeat (first | (with_reducible first | exact HB.out | apply below_alloc | apply pw_below_drewN | apply below_drew1 | refine below_set ?_ GE181.out) | exact HB.out)) hb); clear HO_7; clear BK181; clear HB; have HO_7 := n0_; have HO197 := n1_; have BK181 := n2_; have HB := n3_; clear n0_ n1_ n2_ n3_; (try clear hb); (try clear hb2); (try clear hk); (try clear hi); (try clear ho0); have hcz46_0 : w45.cell? ⟨gb181, 0, none⟩ = some (.int .i64 a0_0) := (blk_cell BK181.out 0).trans rfl; have hcz46_1 : w45.cell? ⟨gb181, 1, none⟩ = some (.int .i64 a0_1) := (blk_cell BK181.out 1).trans rfl; have hcz46_2 : w45.cell? ⟨gb181, 2, none⟩ = some (.int .i64 a0_2) := (blk_cell BK181.out 2).trans rfl; have hcz46_3 : w45.cell? ⟨gb181, 3, none⟩ = some (.int .u64 a0_3) := (blk_cell BK181.out 3).trans rfl; have hcz46_4 : w45.cell? ⟨gb181, 4, none⟩ = some (.int .u64 a0_4) := (blk_cell BK181.out 4).trans rfl; have hcz46_5 : w45.cell? ⟨gb181, 5, none⟩ = some (.int .u64 a0_5) := (blk_cell BK181.out 5).trans rfl; have hfz46_0 := blk_frozen BK181.out 0; have hfz46_1 := blk_frozen BK181.out 1; have hfz46_2 := blk_frozen BK181.out 2; have hfz46_3 := blk_frozen BK181.out 3; have hfz46_4 := blk_frozen BK181.out 4; have hfz46_5 := blk_frozen BK181.out 5; obtain ⟨Ao47, co47, eo47⟩ := Kd.S_slice HO_7.out; subst eo47) | ((with_reducible refine gate_callee (f := 14) rfl ?_); refine goesL_ (some 83) rfl rfl Tryd.func14 (by kernel_rfl) rfl #[.agg #[.int .i64 a0_0, .int .i64 a0_1, .int .i64 a0_2, .int .u64 a0_3, .int .u64 a0_4, .int .u64 a0_5], .slice Ao47 x7_2.length co47, .int .u64 (IntKind.u64.wrap ((x7_2.length : Int)))] rfl (by (try simp only [List.map_toArray, List.map_cons, List.map_nil]); first | done | rfl | (simp only [List.length_drop, List.length_take]; rfl)) ?_; (with_reducible refine (impl_TreeRoot.calls k2 a0_0 a0_1 a0_2 a0_3 a0_4 a0_5 _ _ x7_2 (IntKind.u64.wrap ((x7_2.length : Int))) t199 false _ ?side1 ?side2 ?side3 A33.out).mono ?_); (case side1 => exact TabOK.below HT.out (by repeat (first | (with_reducible first | exact HB.out | apply below_alloc | apply pw_below_drewN | apply below_drew1 | refine below_set ?_ GE181.out) | exact HB.out))); (case side2 => repeat (first | exact (Kd.S_reads' HO_7.out).2.2 | (with_reducible refine Kd.C_alloc ?_ _) | (with_reducible refine Kd.C_drewN ?_ _) | (with_reducible refine Kd.C_drew ?_))); (case side3 => exact (Kd.S_reads' HO_7.out).2.1); rintro e w48 ⟨v200, rfl, ho0, hb⟩; refine ⟨_, rfl, ?_⟩; have n0_ := Aside0.mk (Kd.S_elder' (by (with_reducible repeat (first | apply Kd.S_alloc | apply Kd.S_drewN | apply Kd.S_drew)); exact HO_7.out) (Kd.R_base ho0) hb); have n1_ := Aside0.mk (Kd.R_elder' (by (with_reducible repeat (first | apply Kd.R_alloc | apply Kd.R_drewN | apply Kd.R_drew)); exact HO197.out) (Kd.R_base ho0) hb); have n2_ := Aside0.mk (Kd.R_lower (Kd.R_new' ho0 (Kd.R_lt (by (with_reducible repeat (first | apply Kd.R_alloc | apply Kd.R_drewN | apply Kd.R_drew)); exact HO197.out))) (below_size (by repeat (first | (with_reducible first | exact HB.out | apply below_alloc | apply pw_below_drewN | apply below_drew1 | refine below_set ?_ GE181.out) | exact HB.out)))); have n3_ := Aside0.mk (blk_below (g := gb181) (o := .cells #[.int .i64 a0_0, .int .i64 a0_1, .int .i64 a0_2, .int .u64 a0_3, .int .u64 a0_4, .int .u64 a0_5] 24 (0, 0)) (by (with_reducible repeat (first | refine blk_drewN ?_ _ | refine blk_drew ?_ | refine blk_alloc ?_ _)); exact BK181.out) hb); have n4_ := Aside0.mk (below_step (by repeat (first | (with_reducible first | exact HB.out | apply below_alloc | apply pw_below_drewN | apply below_drew1 | refine below_set ?_ GE181.out) | exact HB.out)) hb); clear HO_7; clear HO197; clear BK181; clear HB; have HO_7 := n0_; have HO197 := n1_; have HO201 := n2_; have BK181 := n3_; have HB := n4_; clear n0_ n1_ n2_ n3_ n4_; (try clear hb); (try clear hb2); (try clear hk); (try clear hi); (try clear ho0)))
                    go_ret
                    exact ⟨by first | rfl | (simp [errW_none, errW_some] <;> rfl) | (simp [*, errW_none, errW_some] <;> rfl), by repeat (first | (with_reducible first | exact HB.out | apply below_alloc | apply pw_below_drewN | apply below_drew1 | refine below_set ?_ GE181.out) | exact HB.out)⟩
                · replace c34 := Bool.eq_false_iff.mpr c34
                  subst c34
                  have H1 : (some false) = some r := by rw [if_neg (show ¬ (false = true) by decide)] at H; exact H
                  clear H
                  have H := H1
                  clear H1
                  obtain rfl := Option.some.inj H
                  have hcz49_0 : wr.cell? ⟨gb181, 0, none⟩ = some (.int .i64 a0_0) := (blk_cell BK181.out 0).trans rfl
                  have hcz49_1 : wr.cell? ⟨gb181, 1, none⟩ = some (.int .i64 a0_1) := (blk_cell BK181.out 1).trans rfl
                  have hcz49_2 : wr.cell? ⟨gb181, 2, none⟩ = some (.int .i64 a0_2) := (blk_cell BK181.out 2).trans rfl
                  have hcz49_3 : wr.cell? ⟨gb181, 3, none⟩ = some (.int .u64 a0_3) := (blk_cell BK181.out 3).trans rfl
                  have hcz49_4 : wr.cell? ⟨gb181, 4, none⟩ = some (.int .u64 a0_4) := (blk_cell BK181.out 4).trans rfl
                  have hcz49_5 : wr.cell? ⟨gb181, 5, none⟩ = some (.int .u64 a0_5) := (blk_cell BK181.out 5).trans rfl
                  have hfz49_0 := blk_frozen BK181.out 0
                  have hfz49_1 := blk_frozen BK181.out 1
                  have hfz49_2 := blk_frozen BK181.out 2
                  have hfz49_3 := blk_frozen BK181.out 3
                  have hfz49_4 := blk_frozen BK181.out 4
                  have hfz49_5 := blk_frozen BK181.out 5
                  go_wp2_with (first | ((with_reducible refine gate_callee (f := 14) rfl ?_); refine goesL_ (some 74) rfl rfl Tryd.func14 (by kernel_rfl) rfl #[.agg #[.int .i64 a0_0, .int .i64 a0_1, .int .i64 a0_2, .int .u64 a0_3, .int .u64 a0_4, .int .u64 a0_5], .slice A1 l1.length c1, .int .u64 (IntKind.u64.wrap ((l1.length : Int)))] rfl (by (try simp only [List.map_toArray, List.map_cons, List.map_nil]); first | done | rfl | (simp only [List.length_drop, List.length_take]; rfl)) ?_; (with_reducible refine (impl_TreeRoot.calls k2 a0_0 a0_1 a0_2 a0_3 a0_4 a0_5 _ _ l1 (IntKind.u64.wrap ((l1.length : Int))) t195 false _ ?side1 ?side2 ?side3 A32.out).mono ?_); (case side1 => exact TabOK.below HT.out (by repeat (first | (with_reducible first | exact HB.out | apply below_alloc | apply pw_below_drewN | apply below_drew1 | refine below_set ?_ GE181.out) | exact HB.out))); (case side2 => repeat (first | exact (Kd.C_below HR1.out HB.out) | (with_reducible refine Kd.C_alloc ?_ _) | (with_reducible refine Kd.C_drewN ?_ _) | (with_reducible refine Kd.C_drew ?_))); (case side3 => exact HC1.out); rintro e w50 ⟨v196, rfl, ho0, hb⟩; refine ⟨_, rfl, ?_⟩; have n0_ := Aside0.mk (Kd.S_elder' (by (with_reducible repeat (first | apply Kd.S_alloc | apply Kd.S_drewN | apply Kd.S_drew)); exact HO_7.out) (Kd.R_base ho0) hb); have n1_ := Aside0.mk (Kd.R_lower ho0 (below_size (by repeat (first | (with_reducible first | exact HB.out | apply below_alloc | apply pw_below_drewN | apply below_drew1 | refine below_set ?_ GE181.out) | exact HB.out)))); have n2_ := Aside0.mk (blk_below (g := gb181) (o := .cells #[.int .i64 a0_0, .int .i64 a0_1, .int .i64 a0_2, .int .u64 a0_3, .int .u64 a0_4, .int .u64 a0_5] 24 (0, 0)) (by (with_reducible repeat (first | refine blk_drewN ?_ _ | refine blk_drew ?_ | refine blk_alloc ?_ _)); exact BK181.out) hb); have n3_ := Aside0.mk (below_step (by repeat (first | (with_reducible first | exact HB.out | apply below_alloc | apply pw_below_drewN | apply below_drew1 | refine below_set ?_ GE181.out) | exact HB.out)) hb); clear HO_7; clear BK181; clear HB; have HO_7 := n0_; have HO197 := n1_; have BK181 := n2_; have HB := n3_; clear n0_ n1_ n2_ n3_; (try clear hb); (try clear hb2); (try clear hk); (try clear hi); (try clear ho0); have hcz51_0 : w50.cell? ⟨gb181, 0, none⟩ = some (.int .i64 a0_0) := (blk_cell BK181.out 0).trans rfl; have hcz51_1 : w50.cell? ⟨gb181, 1, none⟩ = some (.int .i64 a0_1) := (blk_cell BK181.out 1).trans rfl; have hcz51_2 : w50.cell? ⟨gb181, 2, none⟩ = some (.int .i64 a0_2) := (blk_cell BK181.out 2).trans rfl; have hcz51_3 : w50.cell? ⟨gb181, 3, none⟩ = some (.int .u64 a0_3) := (blk_cell BK181.out 3).trans rfl; have hcz51_4 : w50.cell? ⟨gb181, 4, none⟩ = some (.int .u64 a0_4) := (blk_cell BK181.out 4).trans rfl; have hcz51_5 : w50.cell? ⟨gb181, 5, none⟩ = some (.int .u64 a0_5) := (blk_cell BK181.out 5).trans rfl; have hfz51_0 := blk_frozen BK181.out 0; have hfz51_1 := blk_frozen BK181.out 1; have hfz51_2 := blk_frozen BK181.out 2; have hfz51_3 := blk_frozen BK181.out 3; have hfz51_4 := blk_frozen BK181.out 4; have hfz51_5 := blk_frozen BK181.out 5; obtain ⟨Ao52, co52, eo52⟩ := Kd.S_slice HO_7.out; subst eo52) | ((with_reducible refine gate_callee (f := 14) rfl ?_); refine goesL_ (some 83) rfl rfl Tryd.func14 (by kernel_rfl) rfl #[.agg #[.int .i64 a0_0, .int .i64 a0_1, .int .i64 a0_2, .int .u64 a0_3, .int .u64 a0_4, .int .u64 a0_5], .slice Ao52 x7_2.length co52, .int .u64 (IntKind.u64.wrap ((x7_2.length : Int)))] rfl (by (try simp only [List.map_toArray, List.map_cons, List.map_nil]); first | done | rfl | (simp only [List.length_drop, List.length_take]; rfl)) ?_; (with_reducible refine (impl_TreeRoot.calls k2 a0_0 a0_1 a0_2 a0_3 a0_4 a0_5 _ _ x7_2 (IntKind.u64.wrap ((x7_2.length : Int))) t199 t202 _ ?side1 ?side2 ?side3 A33.out).mono ?_); (case side1 => exact TabOK.below HT.out (by repeat (first | (with_reducible first | exact HB.out | apply below_alloc | apply pw_below_drewN | apply below_drew1 | refine below_set ?_ GE181.out) | exact HB.out))); (case side2 => repeat (first | exact (Kd.S_reads' HO_7.out).2.2 | (with_reducible refine Kd.C_alloc ?_ _) | (with_reducible refine Kd.C_drewN ?_ _) | (with_reducible refine Kd.C_drew ?_))); (case side3 => exact (Kd.S_reads' HO_7.out).2.1); rintro e w53 ⟨v200, rfl, ho0, hb⟩; refine ⟨_, rfl, ?_⟩; have n0_ := Aside0.mk (Kd.S_elder' (by (with_reducible repeat (first | apply Kd.S_alloc | apply Kd.S_drewN | apply Kd.S_drew)); exact HO_7.out) (Kd.R_base ho0) hb); have n1_ := Aside0.mk (Kd.R_elder' (by (with_reducible repeat (first | apply Kd.R_alloc | apply Kd.R_drewN | apply Kd.R_drew)); exact HO197.out) (Kd.R_base ho0) hb); have n2_ := Aside0.mk (Kd.R_lower (Kd.R_new' ho0 (Kd.R_lt (by (with_reducible repeat (first | apply Kd.R_alloc | apply Kd.R_drewN | apply Kd.R_drew)); exact HO197.out))) (below_size (by repeat (first | (with_reducible first | exact HB.out | apply below_alloc | apply pw_below_drewN | apply below_drew1 | refine below_set ?_ GE181.out) | exact HB.out)))); have n3_ := Aside0.mk (blk_below (g := gb181) (o := .cells #[.int .i64 a0_0, .int .i64 a0_1, .int .i64 a0_2, .int .u64 a0_3, .int .u64 a0_4, .int .u64 a0_5] 24 (0, 0)) (by (with_reducible repeat (first | refine blk_drewN ?_ _ | refine blk_drew ?_ | refine blk_alloc ?_ _)); exact BK181.out) hb); have n4_ := Aside0.mk (below_step (by repeat (first | (with_reducible first | exact HB.out | apply below_alloc | apply pw_below_drewN | apply below_drew1 | refine below_set ?_ GE181.out) | exact HB.out)) hb); clear HO_7; clear HO197; clear BK181; clear HB; have HO_7 := n0_; have HO197 := n1_; have HO201 := n2_; have BK181 := n3_; have HB := n4_; clear n0_ n1_ n2_ n3_ n4_; (try clear hb); (try clear hb2); (try clear hk); (try clear hi); (try clear ho0)))
                  go_ret
                  exact ⟨by first | rfl | (simp [errW_none, errW_some] <;> rfl) | (simp [*, errW_none, errW_some] <;> rfl), by repeat (first | (with_reducible first | exact HB.out | apply below_alloc | apply pw_below_drewN | apply below_drew1 | refine below_set ?_ GE181.out) | exact HB.out)⟩
  · replace c5 := Bool.eq_false_iff.mpr c5
    subst c5
    have H1 : (some true) = some r := by rw [if_neg (show ¬ (false = true) by decide)] at H; exact H
    clear H
    have H := H1
    clear H1
    obtain rfl := Option.some.inj H
    go_enter Tryd.func3, Tryd.ntmps3
    go_wp2_with (first | ((with_reducible refine gate_dst (N := 3) rfl ?_); (try (refine gate_guard (by rfl) ?_; dsimp only)); refine box_event ?hg (N := 3) ?hd (cs := #[.int .i64 a0_0, .int .i64 a0_1, .int .i64 a0_2, .int .u64 a0_3, .int .u64 a0_4, .int .u64 a0_5]) (t := 24) ?hr ?_; (case hd => rfl); (case hg => rfl); (case hr => first | (go_simp; done) | (go_simp; rfl)); intro gb181 hg w54 hbox hb; have n0_ := Aside0.mk (below_step (by repeat (first | (with_reducible first | exact HB.out | apply below_alloc | apply pw_below_drewN | apply below_drew1) | exact HB.out)) hb); have n1_ := Aside0.mk (hbox); have n2_ := Aside0.mk ((by rw [hg]; exact (below_size (by repeat (first | (with_reducible first | exact HB.out | apply below_alloc | apply pw_below_drewN | apply below_drew1) | exact HB.out))) : w.heap.size ≤ gb181)); have n3_ := Aside0.mk ((by rw [hg]; exact (below_size (by repeat (first | (with_reducible first | exact HB.out | apply below_alloc | apply pw_below_drewN | apply below_drew1) | exact HB.out))) : w.heap.size ≤ gb181)); clear HB; have HB := n0_; have BK181 := n1_; have GW181 := n2_; have GE181 := n3_; clear n0_ n1_ n2_ n3_; clear hb hbox hg) | ((with_reducible refine gate_callee (f := 12) rfl ?_); refine goesL_ (some 17) rfl rfl Tryd.func12 (by kernel_rfl) rfl #[.slice A1 l1.length c1] rfl (by (try simp only [List.map_toArray, List.map_cons, List.map_nil]); first | done | rfl | (simp only [List.length_drop, List.length_take]; rfl)) ?_; (with_reducible refine (laws_zzFits2.calls k _ _ l1 false _ ?side1 ?side2 A4.out).mono ?_); (case side1 => repeat (first | exact (Kd.C_below HR1.out HB.out) | (with_reducible refine Kd.C_alloc ?_ _) | (with_reducible refine Kd.C_drewN ?_ _) | (with_reducible refine Kd.C_drew ?_))); (case side2 => exact HC1.out); rintro e w' ⟨rfl, ⟨nd, rfl⟩⟩; refine ⟨_, rfl, ?_⟩))
    go_ret
    exact ⟨by first | rfl | (simp [errW_none, errW_some] <;> rfl) | (simp [*, errW_none, errW_some] <;> rfl), by repeat (first | (with_reducible first | exact HB.out | apply below_alloc | apply pw_below_drewN | apply below_drew1 | refine below_set ?_ GE181.out) | exact HB.out)⟩

end Go.Proofs.YtkmdkmlgahfcpaaDoor.M

namespace Go.Proofs.YtkmdkmlgahfcpaaDoor.M
open Go.RowKit Go.Proofs.YtkmdkmlgahfcpaaDoorW.PrintWords Go.Proofs.YtkmdkmlgahfcpaaDoorW.PrintLast Go.Proofs.YtkmdkmlgahfcpaaDoorW.PrintMore
attribute [local go_sem] max2_int min2_int max_two min_two max_three min_three max_four min_four   -- for this text's walks alone
set_option linter.unusedVariables false
set_option linter.unusedSimpArgs false

/-! ### laws_FnTreesTell: function 4 -/
mutual
def laws_FnTreesTell.j0 : Nat → List (List Int) → List (List Int) → Bool → Int → Int → Int → Int → Int → Int → Option (Bool)
  | 0, _, _, _, _, _, _, _, _, _ => none
  | k + 1, x1, x2, x18, x208000, x208001, x208002, x208003, x208004, x208005 => if x18 = true then (some true) else ((spec_Terms.f x208000 x208001 x208002 x208003 x208004 x208005).bind fun t210 => (if t210 = true then ((laws_logSmall.f k x1).bind fun t211 => (if t211 = true then ((laws_logSmall.f k x2).bind fun t212 => (if t212 = true then (if (x1.length : Int) = (x2.length : Int) then (laws_FnTreesTell.j1 k x1 x2 ((x1.length : Int) == 0) x208000 x208001 x208002 x208003 x208004 x208005) else (laws_FnTreesTell.j1 k x1 x2 true x208000 x208001 x208002 x208003 x208004 x208005)) else (laws_FnTreesTell.j1 k x1 x2 true x208000 x208001 x208002 x208003 x208004 x208005))) else (laws_FnTreesTell.j1 k x1 x2 true x208000 x208001 x208002 x208003 x208004 x208005))) else (laws_FnTreesTell.j1 k x1 x2 true x208000 x208001 x208002 x208003 x208004 x208005)))
def laws_FnTreesTell.j1 : Nat → List (List Int) → List (List Int) → Bool → Int → Int → Int → Int → Int → Int → Option (Bool)
  | 0, _, _, _, _, _, _, _, _, _ => none
  | k + 1, x1, x2, x43, x208000, x208001, x208002, x208003, x208004, x208005 => if x43 = true then (some true) else ((impl_TreeRoot.f k x208000 x208001 x208002 x208003 x208004 x208005 x1 (IntKind.u64.wrap ((x1.length : Int)))).bind fun bt213 => ((impl_TreeRoot.f k x208000 x208001 x208002 x208003 x208004 x208005 x2 (IntKind.u64.wrap ((x2.length : Int)))).bind fun bt217 => (if bt213.2 = true then (if bt217.2 = true then ((spec_SameText.f bt213.1 bt217.1).bind fun t221 => ((spec_Same.f k x1 x2).bind fun t222 => (some (t221 == t222)))) else (some false)) else (some false))))
end
def laws_FnTreesTell.f (k : Nat) (a0_0 : Int) (a0_1 : Int) (a0_2 : Int) (a0_3 : Int) (a0_4 : Int) (a0_5 : Int) (l1 : List (List Int)) (l2 : List (List Int)) : Option (Bool) := (laws_zzFits2.f k l1).bind fun t208 => (if t208 = true then ((laws_zzFits2.f k l2).bind fun t209 => (laws_FnTreesTell.j0 k l1 l2 (!t209) a0_0 a0_1 a0_2 a0_3 a0_4 a0_5)) else (laws_FnTreesTell.j0 k l1 l2 true a0_0 a0_1 a0_2 a0_3 a0_4 a0_5))
theorem laws_FnTreesTell.mono_l : ∀ k, (∀ y0 y1 y2 y3 y4 y5 y6 y7 y8, LeO (laws_FnTreesTell.j0 k y0 y1 y2 y3 y4 y5 y6 y7 y8) (laws_FnTreesTell.j0 (k + 1) y0 y1 y2 y3 y4 y5 y6 y7 y8)) ∧ (∀ y0 y1 y2 y3 y4 y5 y6 y7 y8, LeO (laws_FnTreesTell.j1 k y0 y1 y2 y3 y4 y5 y6 y7 y8) (laws_FnTreesTell.j1 (k + 1) y0 y1 y2 y3 y4 y5 y6 y7 y8))
  | 0 => ⟨fun _ _ _ _ _ _ _ _ _ r h => by simp [laws_FnTreesTell.j0] at h, fun _ _ _ _ _ _ _ _ _ r h => by simp [laws_FnTreesTell.j1] at h⟩
  | k + 1 => by
    obtain ⟨ih0, ih1⟩ := laws_FnTreesTell.mono_l k
    refine ⟨?_, ?_⟩
    · intro y0 y1 y2 y3 y4 y5 y6 y7 y8
      unfold laws_FnTreesTell.j0
      repeat' first
      | (with_reducible exact ih0 _ _ _ _ _ _ _ _ _)
      | (with_reducible exact ih1 _ _ _ _ _ _ _ _ _)
      | (with_reducible exact impl_TreeRoot.mono _ _ _ _ _ _ _ _ _)
      | (with_reducible exact laws_logSmall.mono _ _)
      | (with_reducible exact laws_zzFits2.mono _ _)
      | (with_reducible exact spec_Same.mono _ _ _)
      | (with_reducible exact LeO.refl _)
      | (with_reducible exact LeO.none _)
      | (with_reducible refine LeO.ite ?_ ?_)
      | (with_reducible refine LeO.bind ?_ (fun _ => ?_))
      | exact ih0 _ _ _ _ _ _ _ _ _
      | exact ih1 _ _ _ _ _ _ _ _ _
      | exact impl_TreeRoot.mono _ _ _ _ _ _ _ _ _
      | exact laws_logSmall.mono _ _
      | exact laws_zzFits2.mono _ _
      | exact spec_Same.mono _ _ _
      | exact LeO.none _
      | refine LeO.ite ?_ ?_
      | refine LeO.bind ?_ (fun _ => ?_)
    · intro y0 y1 y2 y3 y4 y5 y6 y7 y8
      unfold laws_FnTreesTell.j1
      repeat' first
      | (with_reducible exact ih0 _ _ _ _ _ _ _ _ _)
      | (with_reducible exact ih1 _ _ _ _ _ _ _ _ _)
      | (with_reducible exact impl_TreeRoot.mono _ _ _ _ _ _ _ _ _)
      | (with_reducible exact laws_logSmall.mono _ _)
      | (with_reducible exact laws_zzFits2.mono _ _)
      | (with_reducible exact spec_Same.mono _ _ _)
      | (with_reducible exact LeO.refl _)
      | (with_reducible exact LeO.none _)
      | (with_reducible refine LeO.ite ?_ ?_)
      | (with_reducible refine LeO.bind ?_ (fun _ => ?_))
      | exact ih0 _ _ _ _ _ _ _ _ _
      | exact ih1 _ _ _ _ _ _ _ _ _
      | exact impl_TreeRoot.mono _ _ _ _ _ _ _ _ _
      | exact laws_logSmall.mono _ _
      | exact laws_zzFits2.mono _ _
      | exact spec_Same.mono _ _ _
      | exact LeO.none _
      | refine LeO.ite ?_ ?_
      | refine LeO.bind ?_ (fun _ => ?_)
theorem laws_FnTreesTell.mono : ∀ a0 a1 a2 a3 a4 a5 a6 a7 k, LeO (laws_FnTreesTell.f k a0 a1 a2 a3 a4 a5 a6 a7) (laws_FnTreesTell.f (k + 1) a0 a1 a2 a3 a4 a5 a6 a7) := by
  intro a0 a1 a2 a3 a4 a5 a6 a7 k
  obtain ⟨ih0, ih1⟩ := laws_FnTreesTell.mono_l k
  unfold laws_FnTreesTell.f
  repeat' first
      | (with_reducible exact ih0 _ _ _ _ _ _ _ _ _)
      | (with_reducible exact ih1 _ _ _ _ _ _ _ _ _)
      | (with_reducible exact impl_TreeRoot.mono _ _ _ _ _ _ _ _ _)
      | (with_reducible exact laws_logSmall.mono _ _)
      | (with_reducible exact laws_zzFits2.mono _ _)
      | (with_reducible exact spec_Same.mono _ _ _)
      | (with_reducible exact LeO.refl _)
      | (with_reducible exact LeO.none _)
      | (with_reducible refine LeO.ite ?_ ?_)
      | (with_reducible refine LeO.bind ?_ (fun _ => ?_))
      | exact ih0 _ _ _ _ _ _ _ _ _
      | exact ih1 _ _ _ _ _ _ _ _ _
      | exact impl_TreeRoot.mono _ _ _ _ _ _ _ _ _
      | exact laws_logSmall.mono _ _
      | exact laws_zzFits2.mono _ _
      | exact spec_Same.mono _ _ _
      | exact LeO.none _
      | refine LeO.ite ?_ ?_
      | refine LeO.bind ?_ (fun _ => ?_)
set_option maxHeartbeats 8000000 in
set_option maxRecDepth 100000 in
theorem laws_FnTreesTell.calls (k : Nat) (a0_0 : Int) (a0_1 : Int) (a0_2 : Int) (a0_3 : Int) (a0_4 : Int) (a0_5 : Int) (A1 : Option Addr) (c1 : Nat) (l1 : List (List Int)) (A2 : Option Addr) (c2 : Nat) (l2 : List (List Int)) (r : Bool) (w : World) (hT : TabOK w) (hr1 : Kd.C (Kd.slice 5 (Kd.int .u8)) w A1 l1.length l1) (hc1 : l1.length ≤ c1) (hr2 : Kd.C (Kd.slice 5 (Kd.int .u8)) w A2 l2.length l2) (hc2 : l2.length ≤ c2) (h : laws_FnTreesTell.f k a0_0 a0_1 a0_2 a0_3 a0_4 a0_5 l1 l2 = some r) :
    Calls Tryd.prog 4 #[.agg #[.int .i64 a0_0, .int .i64 a0_1, .int .i64 a0_2, .int .u64 a0_3, .int .u64 a0_4, .int .u64 a0_5], .slice A1 l1.length c1, .slice A2 l2.length c2] w fun e w' => e = .returned (.bool r) ∧ Below w.heap.size w w' := by
  have hu24 := Tryd.underlying24
  have HT := Aside0.mk hT
  clear hT
  have HR1 := Aside0.mk hr1
  have HC1 := Aside0.mk hc1
  clear hr1 hc1
  have HR2 := Aside0.mk hr2
  have HC2 := Aside0.mk hc2
  clear hr2 hc2
  have HB := Aside0.mk (Below.refl w.heap.size w)
  have H : ((laws_zzFits2.f k l1).bind fun t208 => (if t208 = true then ((laws_zzFits2.f k l2).bind fun t209 => (laws_FnTreesTell.j0 k l1 l2 (!t209) a0_0 a0_1 a0_2 a0_3 a0_4 a0_5)) else (laws_FnTreesTell.j0 k l1 l2 true a0_0 a0_1 a0_2 a0_3 a0_4 a0_5))) = some r := h
  clear h
  have HC4 := Aside0.mk H
  clear H
  go_enter Tryd.func4, Tryd.ntmps4
  go_upto_region 1 with (first | ((with_reducible refine gate_dst (N := 3) rfl ?_); (try (refine gate_guard (by rfl) ?_; dsimp only)); refine box_event ?hg (N := 3) ?hd (cs := #[.int .i64 a0_0, .int .i64 a0_1, .int .i64 a0_2, .int .u64 a0_3, .int .u64 a0_4, .int .u64 a0_5]) (t := 24) ?hr ?_; (case hd => rfl); (case hg => rfl); (case hr => first | (go_simp; done) | (go_simp; rfl)); intro gb207 hg w5 hbox hb; have n0_ := Aside0.mk (below_step (by repeat (first | (with_reducible first | exact HB.out | apply below_alloc | apply pw_below_drewN | apply below_drew1) | exact HB.out)) hb); have n1_ := Aside0.mk (hbox); have n2_ := Aside0.mk ((by rw [hg]; exact (below_size (by repeat (first | (with_reducible first | exact HB.out | apply below_alloc | apply pw_below_drewN | apply below_drew1) | exact HB.out))) : w.heap.size ≤ gb207)); have n3_ := Aside0.mk ((by rw [hg]; exact (below_size (by repeat (first | (with_reducible first | exact HB.out | apply below_alloc | apply pw_below_drewN | apply below_drew1) | exact HB.out))) : w.heap.size ≤ gb207)); clear HB; have HB := n0_; have BK207 := n1_; have GW207 := n2_; have GE207 := n3_; clear n0_ n1_ n2_ n3_; clear hb hbox hg))
  (try simp only [Act.put, List.setIfInBounds_toArray, List.set_cons_zero, List.set_cons_succ])
  go_cut [18] (fun v18 wc => ∃ (kq : Nat) (x18_3 : Bool), v18 = .bool x18_3 ∧ Aside0 (laws_FnTreesTell.j0 kq l1 l2 x18_3 a0_0 a0_1 a0_2 a0_3 a0_4 a0_5 = some r) ∧ Aside0 (kq ≤ k) ∧ Aside0 (wc.heap[gb207]? = some (.cells #[.int .i64 a0_0, .int .i64 a0_1, .int .i64 a0_2, .int .u64 a0_3, .int .u64 a0_4, .int .u64 a0_5] 24 (0, 0))) ∧ Aside0 (Below w.heap.size w wc))
  case first =>
    have H := HC4.out
    clear HC4
    replace H := Option.bind_eq_some_iff.mp H
    obtain ⟨t208, A60, H⟩ := H
    replace H : (if t208 = true then ((laws_zzFits2.f k l2).bind fun t209 => (laws_FnTreesTell.j0 k l1 l2 (!t209) a0_0 a0_1 a0_2 a0_3 a0_4 a0_5)) else (laws_FnTreesTell.j0 k l1 l2 true a0_0 a0_1 a0_2 a0_3 a0_4 a0_5)) = some r := H
    have A6 := Aside0.mk A60
    clear A60
    by_cases c7 : t208 = true
    · subst c7
      have H1 : ((laws_zzFits2.f k l2).bind fun t209 => (laws_FnTreesTell.j0 k l1 l2 (!t209) a0_0 a0_1 a0_2 a0_3 a0_4 a0_5)) = some r := by rw [if_pos rfl] at H; exact H
      clear H
      have H := H1
      clear H1
      replace H := Option.bind_eq_some_iff.mp H
      obtain ⟨t209, A80, H⟩ := H
      replace H : (laws_FnTreesTell.j0 k l1 l2 (!t209) a0_0 a0_1 a0_2 a0_3 a0_4 a0_5) = some r := H
      have A8 := Aside0.mk A80
      clear A80
      have H' := Aside0.mk H
      clear H
      go_wp2_with (first | ((with_reducible refine gate_callee (f := 12) rfl ?_); refine goesL_ (some 12) rfl rfl Tryd.func12 (by kernel_rfl) rfl #[.slice A1 l1.length c1] rfl (by (try simp only [List.map_toArray, List.map_cons, List.map_nil]); first | done | rfl | (simp only [List.length_drop, List.length_take]; rfl)) ?_; (with_reducible refine (laws_zzFits2.calls k _ _ l1 true _ ?side1 ?side2 A6.out).mono ?_); (case side1 => repeat (first | exact (Kd.C_below HR1.out HB.out) | (with_reducible refine Kd.C_alloc ?_ _) | (with_reducible refine Kd.C_drewN ?_ _) | (with_reducible refine Kd.C_drew ?_))); (case side2 => exact HC1.out); rintro e w' ⟨rfl, ⟨nd, rfl⟩⟩; refine ⟨_, rfl, ?_⟩) | (go_at_call 12; (with_reducible refine (laws_zzFits2.calls k _ _ l2 t209 _ ?side1 ?side2 A8.out).mono ?_); (case side1 => repeat (first | exact (Kd.C_below HR2.out (by repeat (first | (with_reducible first | exact HB.out | apply below_alloc | apply pw_below_drewN | apply below_drew1 | refine below_set ?_ GE207.out) | exact HB.out))) | (with_reducible refine Kd.C_alloc ?_ _) | (with_reducible refine Kd.C_drewN ?_ _) | (with_reducible refine Kd.C_drew ?_))); (case side2 => exact HC2.out); rintro e w' ⟨rfl, ⟨nd, rfl⟩⟩))
      go_meet
      case rel => exact ⟨_, (!t209), (by first | rfl | (simp; done) | (simp [*]; done)), H', ⟨by first | omega | exact Nat.le_refl _⟩, ⟨by (with_reducible repeat (first | refine blk_drewN ?_ _ | refine blk_drew ?_ | refine blk_alloc ?_ _)); exact BK207.out⟩, ⟨by repeat (first | (with_reducible first | exact HB.out | apply below_alloc | apply pw_below_drewN | apply below_drew1 | refine below_set ?_ GE207.out) | exact HB.out)⟩⟩
    · replace c7 := Bool.eq_false_iff.mpr c7
      subst c7
      have H1 : (laws_FnTreesTell.j0 k l1 l2 true a0_0 a0_1 a0_2 a0_3 a0_4 a0_5) = some r := by rw [if_neg (show ¬ (false = true) by decide)] at H; exact H
      clear H
      have H := H1
      clear H1
      have H' := Aside0.mk H
      clear H
      go_wp2_with (first | ((with_reducible refine gate_callee (f := 12) rfl ?_); refine goesL_ (some 12) rfl rfl Tryd.func12 (by kernel_rfl) rfl #[.slice A1 l1.length c1] rfl (by (try simp only [List.map_toArray, List.map_cons, List.map_nil]); first | done | rfl | (simp only [List.length_drop, List.length_take]; rfl)) ?_; (with_reducible refine (laws_zzFits2.calls k _ _ l1 false _ ?side1 ?side2 A6.out).mono ?_); (case side1 => repeat (first | exact (Kd.C_below HR1.out HB.out) | (with_reducible refine Kd.C_alloc ?_ _) | (with_reducible refine Kd.C_drewN ?_ _) | (with_reducible refine Kd.C_drew ?_))); (case side2 => exact HC1.out); rintro e w' ⟨rfl, ⟨nd, rfl⟩⟩; refine ⟨_, rfl, ?_⟩))
      go_meet
      case rel => exact ⟨_, (true), (by first | rfl | (simp; done) | (simp [*]; done)), H', ⟨by first | omega | exact Nat.le_refl _⟩, ⟨by (with_reducible repeat (first | refine blk_drewN ?_ _ | refine blk_drew ?_ | refine blk_alloc ?_ _)); exact BK207.out⟩, ⟨by repeat (first | (with_reducible first | exact HB.out | apply below_alloc | apply pw_below_drewN | apply below_drew1 | refine below_set ?_ GE207.out) | exact HB.out)⟩⟩
  case rest =>
    clear HC4
    try clear c1
    try clear c2
    try clear p2
    try clear c4
    try clear c7
    obtain ⟨kq, x18_3, rfl, HA, HJ3, BK207, HB⟩ := hcut
    cases kq with
    | zero => exact absurd HA.out (by simp [laws_FnTreesTell.j0])
    | succ kj3 =>
      have H := HA.out
      clear HA
      simp only [laws_FnTreesTell.j0] at H
      by_cases c9 : x18_3 = true
      · subst c9
        have H1 : (some true) = some r := by rw [if_pos rfl] at H; exact H
        clear H
        have H := H1
        clear H1
        obtain rfl := Option.some.inj H
        go_wp2
        go_ret
        exact ⟨by first | rfl | (simp [errW_none, errW_some] <;> rfl) | (simp [*, errW_none, errW_some] <;> rfl), by repeat (first | (with_reducible first | exact HB.out | apply below_alloc | apply pw_below_drewN | apply below_drew1 | refine below_set ?_ GE207.out) | exact HB.out)⟩
      · replace c9 := Bool.eq_false_iff.mpr c9
        subst c9
        have H1 : ((spec_Terms.f a0_0 a0_1 a0_2 a0_3 a0_4 a0_5).bind fun t210 => (if t210 = true then ((laws_logSmall.f kj3 l1).bind fun t211 => (if t211 = true then ((laws_logSmall.f kj3 l2).bind fun t212 => (if t212 = true then (if (l1.length : Int) = (l2.length : Int) then (laws_FnTreesTell.j1 kj3 l1 l2 ((l1.length : Int) == 0) a0_0 a0_1 a0_2 a0_3 a0_4 a0_5) else (laws_FnTreesTell.j1 kj3 l1 l2 true a0_0 a0_1 a0_2 a0_3 a0_4 a0_5)) else (laws_FnTreesTell.j1 kj3 l1 l2 true a0_0 a0_1 a0_2 a0_3 a0_4 a0_5))) else (laws_FnTreesTell.j1 kj3 l1 l2 true a0_0 a0_1 a0_2 a0_3 a0_4 a0_5))) else (laws_FnTreesTell.j1 kj3 l1 l2 true a0_0 a0_1 a0_2 a0_3 a0_4 a0_5))) = some r := by rw [if_neg (show ¬ (false = true) by decide)] at H; exact H
        clear H
        have H := H1
        clear H1
        have HC10 := Aside0.mk H
        clear H
        go_upto_region 3 with (fail)
        go_cut [43] (fun v43 wc => ∃ (kq : Nat) (x43_9 : Bool), v43 = .bool x43_9 ∧ Aside0 (laws_FnTreesTell.j1 kq l1 l2 x43_9 a0_0 a0_1 a0_2 a0_3 a0_4 a0_5 = some r) ∧ Aside0 (kq ≤ kj3) ∧ Aside0 (wc.heap[gb207]? = some (.cells #[.int .i64 a0_0, .int .i64 a0_1, .int .i64 a0_2, .int .u64 a0_3, .int .u64 a0_4, .int .u64 a0_5] 24 (0, 0))) ∧ Aside0 (Below w.heap.size w wc))
        case first =>
          have H := HC10.out
          clear HC10
          replace H := Option.bind_eq_some_iff.mp H
          obtain ⟨t210, A110, H⟩ := H
          replace H : (if t210 = true then ((laws_logSmall.f kj3 l1).bind fun t211 => (if t211 = true then ((laws_logSmall.f kj3 l2).bind fun t212 => (if t212 = true then (if (l1.length : Int) = (l2.length : Int) then (laws_FnTreesTell.j1 kj3 l1 l2 ((l1.length : Int) == 0) a0_0 a0_1 a0_2 a0_3 a0_4 a0_5) else (laws_FnTreesTell.j1 kj3 l1 l2 true a0_0 a0_1 a0_2 a0_3 a0_4 a0_5)) else (laws_FnTreesTell.j1 kj3 l1 l2 true a0_0 a0_1 a0_2 a0_3 a0_4 a0_5))) else (laws_FnTreesTell.j1 kj3 l1 l2 true a0_0 a0_1 a0_2 a0_3 a0_4 a0_5))) else (laws_FnTreesTell.j1 kj3 l1 l2 true a0_0 a0_1 a0_2 a0_3 a0_4 a0_5)) = some r := H
          have A11 := Aside0.mk A110
          clear A110
          by_cases c12 : t210 = true
          · subst c12
            have H1 : ((laws_logSmall.f kj3 l1).bind fun t211 => (if t211 = true then ((laws_logSmall.f kj3 l2).bind fun t212 => (if t212 = true then (if (l1.length : Int) = (l2.length : Int) then (laws_FnTreesTell.j1 kj3 l1 l2 ((l1.length : Int) == 0) a0_0 a0_1 a0_2 a0_3 a0_4 a0_5) else (laws_FnTreesTell.j1 kj3 l1 l2 true a0_0 a0_1 a0_2 a0_3 a0_4 a0_5)) else (laws_FnTreesTell.j1 kj3 l1 l2 true a0_0 a0_1 a0_2 a0_3 a0_4 a0_5))) else (laws_FnTreesTell.j1 kj3 l1 l2 true a0_0 a0_1 a0_2 a0_3 a0_4 a0_5))) = some r := by rw [if_pos rfl] at H; exact H
            clear H
            have H := H1
            clear H1
            replace H := Option.bind_eq_some_iff.mp H
            obtain ⟨t211, A130, H⟩ := H
            replace H : (if t211 = true then ((laws_logSmall.f kj3 l2).bind fun t212 => (if t212 = true then (if (l1.length : Int) = (l2.length : Int) then (laws_FnTreesTell.j1 kj3 l1 l2 ((l1.length : Int) == 0) a0_0 a0_1 a0_2 a0_3 a0_4 a0_5) else (laws_FnTreesTell.j1 kj3 l1 l2 true a0_0 a0_1 a0_2 a0_3 a0_4 a0_5)) else (laws_FnTreesTell.j1 kj3 l1 l2 true a0_0 a0_1 a0_2 a0_3 a0_4 a0_5))) else (laws_FnTreesTell.j1 kj3 l1 l2 true a0_0 a0_1 a0_2 a0_3 a0_4 a0_5)) = some r := H
            have A13 := Aside0.mk A130
            clear A130
            by_cases c14 : t211 = true
            · subst c14
              have H1 : ((laws_logSmall.f kj3 l2).bind fun t212 => (if t212 = true then (if (l1.length : Int) = (l2.length : Int) then (laws_FnTreesTell.j1 kj3 l1 l2 ((l1.length : Int) == 0) a0_0 a0_1 a0_2 a0_3 a0_4 a0_5) else (laws_FnTreesTell.j1 kj3 l1 l2 true a0_0 a0_1 a0_2 a0_3 a0_4 a0_5)) else (laws_FnTreesTell.j1 kj3 l1 l2 true a0_0 a0_1 a0_2 a0_3 a0_4 a0_5))) = some r := by rw [if_pos rfl] at H; exact H
              clear H
              have H := H1
              clear H1
              replace H := Option.bind_eq_some_iff.mp H
              obtain ⟨t212, A150, H⟩ := H
              replace H : (if t212 = true then (if (l1.length : Int) = (l2.length : Int) then (laws_FnTreesTell.j1 kj3 l1 l2 ((l1.length : Int) == 0) a0_0 a0_1 a0_2 a0_3 a0_4 a0_5) else (laws_FnTreesTell.j1 kj3 l1 l2 true a0_0 a0_1 a0_2 a0_3 a0_4 a0_5)) else (laws_FnTreesTell.j1 kj3 l1 l2 true a0_0 a0_1 a0_2 a0_3 a0_4 a0_5)) = some r := H
              have A15 := Aside0.mk A150
              clear A150
              by_cases c16 : t212 = true
              · subst c16
                have H1 : (if (l1.length : Int) = (l2.length : Int) then (laws_FnTreesTell.j1 kj3 l1 l2 ((l1.length : Int) == 0) a0_0 a0_1 a0_2 a0_3 a0_4 a0_5) else (laws_FnTreesTell.j1 kj3 l1 l2 true a0_0 a0_1 a0_2 a0_3 a0_4 a0_5)) = some r := by rw [if_pos rfl] at H; exact H
                clear H
                have H := H1
                clear H1
                by_cases c17 : (l1.length : Int) = (l2.length : Int)
                · rw [if_pos c17] at H
                  have c17b0 : ((l1.length : Int) == (l2.length : Int)) = true := beq_iff_eq.mpr c17
                  have c17b1 : ((l1.length : Int) != (l2.length : Int)) = false := bne_eq_false_iff_eq.mpr c17
                  have c17b2 : (l1.length == l2.length) = true := by first | simpa using c17 | (simp at c17 ⊢; omega)
                  clear c17
                  (first | rw [c17b0] | (simp only [i64_w, i32_w]; rw [c17b0]) | skip)
                  have H' := Aside0.mk H
                  clear H
                  have hcz18_0 : wc.cell? ⟨gb207, 0, none⟩ = some (.int .i64 a0_0) := (blk_cell BK207.out 0).trans rfl
                  have hcz18_1 : wc.cell? ⟨gb207, 1, none⟩ = some (.int .i64 a0_1) := (blk_cell BK207.out 1).trans rfl
                  have hcz18_2 : wc.cell? ⟨gb207, 2, none⟩ = some (.int .i64 a0_2) := (blk_cell BK207.out 2).trans rfl
                  have hcz18_3 : wc.cell? ⟨gb207, 3, none⟩ = some (.int .u64 a0_3) := (blk_cell BK207.out 3).trans rfl
                  have hcz18_4 : wc.cell? ⟨gb207, 4, none⟩ = some (.int .u64 a0_4) := (blk_cell BK207.out 4).trans rfl
                  have hcz18_5 : wc.cell? ⟨gb207, 5, none⟩ = some (.int .u64 a0_5) := (blk_cell BK207.out 5).trans rfl
                  have hfz18_0 := blk_frozen BK207.out 0
                  have hfz18_1 := blk_frozen BK207.out 1
                  have hfz18_2 := blk_frozen BK207.out 2
                  have hfz18_3 := blk_frozen BK207.out 3
                  have hfz18_4 := blk_frozen BK207.out 4
                  have hfz18_5 := blk_frozen BK207.out 5
                  go_wp2_with (first | ((with_reducible refine gate_callee (f := 16) rfl ?_); refine goesL_ (some 20) rfl rfl Tryd.func16 (by kernel_rfl) rfl #[.agg #[.int .i64 a0_0, .int .i64 a0_1, .int .i64 a0_2, .int .u64 a0_3, .int .u64 a0_4, .int .u64 a0_5]] rfl (by (try simp only [List.map_toArray, List.map_cons, List.map_nil]); first | done | rfl | (simp only [List.length_drop, List.length_take]; rfl)) ?_; (with_reducible refine (spec_Terms.calls a0_0 a0_1 a0_2 a0_3 a0_4 a0_5 true _ A11.out).mono ?_); rintro e w19 ⟨rfl, hb⟩; refine ⟨_, rfl, ?_⟩; have n0_ := Aside0.mk (blk_below (g := gb207) (o := .cells #[.int .i64 a0_0, .int .i64 a0_1, .int .i64 a0_2, .int .u64 a0_3, .int .u64 a0_4, .int .u64 a0_5] 24 (0, 0)) (by (with_reducible repeat (first | refine blk_drewN ?_ _ | refine blk_drew ?_ | refine blk_alloc ?_ _)); exact BK207.out) hb); have n1_ := Aside0.mk (below_step (by repeat (first | (with_reducible first | exact HB.out | apply below_alloc | apply pw_below_drewN | apply below_drew1 | refine below_set ?_ GE207.out) | exact HB.out)) hb); clear BK207; clear HB; have BK207 := n0_; have HB := n1_; clear n0_ n1_; (try clear hb); (try clear hb2); (try clear hk); (try clear hi)) | (go_at_call 13; (with_reducible refine (laws_logSmall.calls kj3 _ _ l1 true _ ?side1 ?side2 A13.out).mono ?_); (case side1 => repeat (first | exact (Kd.C_below HR1.out HB.out) | (with_reducible refine Kd.C_alloc ?_ _) | (with_reducible refine Kd.C_drewN ?_ _) | (with_reducible refine Kd.C_drew ?_))); (case side2 => exact HC1.out); rintro e w' ⟨rfl, ⟨nd, rfl⟩⟩) | (go_at_call 13; (with_reducible refine (laws_logSmall.calls kj3 _ _ l2 true _ ?side1 ?side2 A15.out).mono ?_); (case side1 => repeat (first | exact (Kd.C_below HR2.out (by repeat (first | (with_reducible first | exact HB.out | apply below_alloc | apply pw_below_drewN | apply below_drew1 | refine below_set ?_ GE207.out) | exact HB.out))) | (with_reducible refine Kd.C_alloc ?_ _) | (with_reducible refine Kd.C_drewN ?_ _) | (with_reducible refine Kd.C_drew ?_))); (case side2 => exact HC2.out); rintro e w' ⟨rfl, ⟨nd, rfl⟩⟩))
                  go_meet
                  case rel => exact ⟨_, (((l1.length : Int) == 0)), (by first | rfl | (simp; done) | (simp [*]; done)), H', ⟨by have := HJ3.out; first | omega | exact Nat.le_refl _⟩, ⟨by (with_reducible repeat (first | refine blk_drewN ?_ _ | refine blk_drew ?_ | refine blk_alloc ?_ _)); exact BK207.out⟩, ⟨by repeat (first | (with_reducible first | exact HB.out | apply below_alloc | apply pw_below_drewN | apply below_drew1 | refine below_set ?_ GE207.out) | exact HB.out)⟩⟩
                · rw [if_neg c17] at H
                  have c17b0 : ((l1.length : Int) == (l2.length : Int)) = false := beq_eq_false_iff_ne.mpr c17
                  have c17b1 : ((l1.length : Int) != (l2.length : Int)) = true := bne_iff_ne.mpr c17
                  have c17b2 : (l1.length == l2.length) = false := by first | simpa using c17 | (simp at c17 ⊢; omega)
                  (first | rw [c17b0] | (simp only [i64_w, i32_w]; rw [c17b0]) | skip)
                  have H' := Aside0.mk H
                  clear H
                  have hcz20_0 : wc.cell? ⟨gb207, 0, none⟩ = some (.int .i64 a0_0) := (blk_cell BK207.out 0).trans rfl
                  have hcz20_1 : wc.cell? ⟨gb207, 1, none⟩ = some (.int .i64 a0_1) := (blk_cell BK207.out 1).trans rfl
                  have hcz20_2 : wc.cell? ⟨gb207, 2, none⟩ = some (.int .i64 a0_2) := (blk_cell BK207.out 2).trans rfl
                  have hcz20_3 : wc.cell? ⟨gb207, 3, none⟩ = some (.int .u64 a0_3) := (blk_cell BK207.out 3).trans rfl
                  have hcz20_4 : wc.cell? ⟨gb207, 4, none⟩ = some (.int .u64 a0_4) := (blk_cell BK207.out 4).trans rfl
                  have hcz20_5 : wc.cell? ⟨gb207, 5, none⟩ = some (.int .u64 a0_5) := (blk_cell BK207.out 5).trans rfl
                  have hfz20_0 := blk_frozen BK207.out 0
                  have hfz20_1 := blk_frozen BK207.out 1
                  have hfz20_2 := blk_frozen BK207.out 2
                  have hfz20_3 := blk_frozen BK207.out 3
                  have hfz20_4 := blk_frozen BK207.out 4
                  have hfz20_5 := blk_frozen BK207.out 5
                  go_wp2_with (first | ((with_reducible refine gate_callee (f := 16) rfl ?_); refine goesL_ (some 20) rfl rfl Tryd.func16 (by kernel_rfl) rfl #[.agg #[.int .i64 a0_0, .int .i64 a0_1, .int .i64 a0_2, .int .u64 a0_3, .int .u64 a0_4, .int .u64 a0_5]] rfl (by (try simp only [List.map_toArray, List.map_cons, List.map_nil]); first | done | rfl | (simp only [List.length_drop, List.length_take]; rfl)) ?_; (with_reducible refine (spec_Terms.calls a0_0 a0_1 a0_2 a0_3 a0_4 a0_5 true _ A11.out).mono ?_); rintro e w21 ⟨rfl, hb⟩; refine ⟨_, rfl, ?_⟩; have n0_ := Aside0.mk (blk_below (g := gb207) (o := .cells #[.int .i64 a0_0, .int .i64 a0_1, .int .i64 a0_2, .int .u64 a0_3, .int .u64 a0_4, .int .u64 a0_5] 24 (0, 0)) (by (with_reducible repeat (first | refine blk_drewN ?_ _ | refine blk_drew ?_ | refine blk_alloc ?_ _)); exact BK207.out) hb); have n1_ := Aside0.mk (below_step (by repeat (first | (with_reducible first | exact HB.out | apply below_alloc | apply pw_below_drewN | apply below_drew1 | refine below_set ?_ GE207.out) | exact HB.out)) hb); clear BK207; clear HB; have BK207 := n0_; have HB := n1_; clear n0_ n1_; (try clear hb); (try clear hb2); (try clear hk); (try clear hi)) | (go_at_call 13; (with_reducible refine (laws_logSmall.calls kj3 _ _ l1 true _ ?side1 ?side2 A13.out).mono ?_); (case side1 => repeat (first | exact (Kd.C_below HR1.out HB.out) | (with_reducible refine Kd.C_alloc ?_ _) | (with_reducible refine Kd.C_drewN ?_ _) | (with_reducible refine Kd.C_drew ?_))); (case side2 => exact HC1.out); rintro e w' ⟨rfl, ⟨nd, rfl⟩⟩) | (go_at_call 13; (with_reducible refine (laws_logSmall.calls kj3 _ _ l2 true _ ?side1 ?side2 A15.out).mono ?_); (case side1 => repeat (first | exact (Kd.C_below HR2.out (by repeat (first | (with_reducible first | exact HB.out | apply below_alloc | apply pw_below_drewN | apply below_drew1 | refine below_set ?_ GE207.out) | exact HB.out))) | (with_reducible refine Kd.C_alloc ?_ _) | (with_reducible refine Kd.C_drewN ?_ _) | (with_reducible refine Kd.C_drew ?_))); (case side2 => exact HC2.out); rintro e w' ⟨rfl, ⟨nd, rfl⟩⟩))
                  go_meet
                  case rel => exact ⟨_, (true), (by first | rfl | (simp; done) | (simp [*]; done)), H', ⟨by have := HJ3.out; first | omega | exact Nat.le_refl _⟩, ⟨by (with_reducible repeat (first | refine blk_drewN ?_ _ | refine blk_drew ?_ | refine blk_alloc ?_ _)); exact BK207.out⟩, ⟨by repeat (first | (with_reducible first | exact HB.out | apply below_alloc | apply pw_below_drewN | apply below_drew1 | refine below_set ?_ GE207.out) | exact HB.out)⟩⟩
              · replace c16 := Bool.eq_false_iff.mpr c16
                subst c16
                have H1 : (laws_FnTreesTell.j1 kj3 l1 l2 true a0_0 a0_1 a0_2 a0_3 a0_4 a0_5) = some r := by rw [if_neg (show ¬ (false = true) by decide)] at H; exact H
                clear H
                have H := H1
                clear H1
                have H' := Aside0.mk H
                clear H
                have hcz22_0 : wc.cell? ⟨gb207, 0, none⟩ = some (.int .i64 a0_0) := (blk_cell BK207.out 0).trans rfl
                have hcz22_1 : wc.cell? ⟨gb207, 1, none⟩ = some (.int .i64 a0_1) := (blk_cell BK207.out 1).trans rfl
                have hcz22_2 : wc.cell? ⟨gb207, 2, none⟩ = some (.int .i64 a0_2) := (blk_cell BK207.out 2).trans rfl
                have hcz22_3 : wc.cell? ⟨gb207, 3, none⟩ = some (.int .u64 a0_3) := (blk_cell BK207.out 3).trans rfl
                have hcz22_4 : wc.cell? ⟨gb207, 4, none⟩ = some (.int .u64 a0_4) := (blk_cell BK207.out 4).trans rfl
                have hcz22_5 : wc.cell? ⟨gb207, 5, none⟩ = some (.int .u64 a0_5) := (blk_cell BK207.out 5).trans rfl
                have hfz22_0 := blk_frozen BK207.out 0
                have hfz22_1 := blk_frozen BK207.out 1
                have hfz22_2 := blk_frozen BK207.out 2
                have hfz22_3 := blk_frozen BK207.out 3
                have hfz22_4 := blk_frozen BK207.out 4
                have hfz22_5 := blk_frozen BK207.out 5
                go_wp2_with (first | ((with_reducible refine gate_callee (f := 16) rfl ?_); refine goesL_ (some 20) rfl rfl Tryd.func16 (by kernel_rfl) rfl #[.agg #[.int .i64 a0_0, .int .i64 a0_1, .int .i64 a0_2, .int .u64 a0_3, .int .u64 a0_4, .int .u64 a0_5]] rfl (by (try simp only [List.map_toArray, List.map_cons, List.map_nil]); first | done | rfl | (simp only [List.length_drop, List.length_take]; rfl)) ?_; (with_reducible refine (spec_Terms.calls a0_0 a0_1 a0_2 a0_3 a0_4 a0_5 true _ A11.out).mono ?_); rintro e w23 ⟨rfl, hb⟩; refine ⟨_, rfl, ?_⟩; have n0_ := Aside0.mk (blk_below (g := gb207) (o := .cells #[.int .i64 a0_0, .int .i64 a0_1, .int .i64 a0_2, .int .u64 a0_3, .int .u64 a0_4, .int .u64 a0_5] 24 (0, 0)) (by (with_reducible repeat (first | refine blk_drewN ?_ _ | refine blk_drew ?_ | refine blk_alloc ?_ _)); exact BK207.out) hb); have n1_ := Aside0.mk (below_step (by repeat (first | (with_reducible first | exact HB.out | apply below_alloc | apply pw_below_drewN | apply below_drew1 | refine below_set ?_ GE207.out) | exact HB.out)) hb); clear BK207; clear HB; have BK207 := n0_; have HB := n1_; clear n0_ n1_; (try clear hb); (try clear hb2); (try clear hk); (try clear hi)) | (go_at_call 13; (with_reducible refine (laws_logSmall.calls kj3 _ _ l1 true _ ?side1 ?side2 A13.out).mono ?_); (case side1 => repeat (first | exact (Kd.C_below HR1.out HB.out) | (with_reducible refine Kd.C_alloc ?_ _) | (with_reducible refine Kd.C_drewN ?_ _) | (with_reducible refine Kd.C_drew ?_))); (case side2 => exact HC1.out); rintro e w' ⟨rfl, ⟨nd, rfl⟩⟩) | (go_at_call 13; (with_reducible refine (laws_logSmall.calls kj3 _ _ l2 false _ ?side1 ?side2 A15.out).mono ?_); (case side1 => repeat (first | exact (Kd.C_below HR2.out (by repeat (first | (with_reducible first | exact HB.out | apply below_alloc | apply pw_below_drewN | apply below_drew1 | refine below_set ?_ GE207.out) | exact HB.out))) | (with_reducible refine Kd.C_alloc ?_ _) | (with_reducible refine Kd.C_drewN ?_ _) | (with_reducible refine Kd.C_drew ?_))); (case side2 => exact HC2.out); rintro e w' ⟨rfl, ⟨nd, rfl⟩⟩))
                go_meet
                case rel => exact ⟨_, (true), (by first | rfl | (simp; done) | (simp [*]; done)), H', ⟨by have := HJ3.out; first | omega | exact Nat.le_refl _⟩, ⟨by (with_reducible repeat (first | refine blk_drewN ?_ _ | refine blk_drew ?_ | refine blk_alloc ?_ _)); exact BK207.out⟩, ⟨by repeat (first | (with_reducible first | exact HB.out | apply below_alloc | apply pw_below_drewN | apply below_drew1 | refine below_set ?_ GE207.out) | exact HB.out)⟩⟩
            · replace c14 := Bool.eq_false_iff.mpr c14
              subst c14
              have H1 : (laws_FnTreesTell.j1 kj3 l1 l2 true a0_0 a0_1 a0_2 a0_3 a0_4 a0_5) = some r := by rw [if_neg (show ¬ (false = true) by decide)] at H; exact H
              clear H
              have H := H1
              clear H1
              have H' := Aside0.mk H
              clear H
              have hcz24_0 : wc.cell? ⟨gb207, 0, none⟩ = some (.int .i64 a0_0) := (blk_cell BK207.out 0).trans rfl
              have hcz24_1 : wc.cell? ⟨gb207, 1, none⟩ = some (.int .i64 a0_1) := (blk_cell BK207.out 1).trans rfl
              have hcz24_2 : wc.cell? ⟨gb207, 2, none⟩ = some (.int .i64 a0_2) := (blk_cell BK207.out 2).trans rfl
              have hcz24_3 : wc.cell? ⟨gb207, 3, none⟩ = some (.int .u64 a0_3) := (blk_cell BK207.out 3).trans rfl
              have hcz24_4 : wc.cell? ⟨gb207, 4, none⟩ = some (.int .u64 a0_4) := (blk_cell BK207.out 4).trans rfl
              have hcz24_5 : wc.cell? ⟨gb207, 5, none⟩ = some (.int .u64 a0_5) := (blk_cell BK207.out 5).trans rfl
              have hfz24_0 := blk_frozen BK207.out 0
              have hfz24_1 := blk_frozen BK207.out 1
              have hfz24_2 := blk_frozen BK207.out 2
              have hfz24_3 := blk_frozen BK207.out 3
              have hfz24_4 := blk_frozen BK207.out 4
              have hfz24_5 := blk_frozen BK207.out 5
              go_wp2_with (first | ((with_reducible refine gate_callee (f := 16) rfl ?_); refine goesL_ (some 20) rfl rfl Tryd.func16 (by kernel_rfl) rfl #[.agg #[.int .i64 a0_0, .int .i64 a0_1, .int .i64 a0_2, .int .u64 a0_3, .int .u64 a0_4, .int .u64 a0_5]] rfl (by (try simp only [List.map_toArray, List.map_cons, List.map_nil]); first | done | rfl | (simp only [List.length_drop, List.length_take]; rfl)) ?_; (with_reducible refine (spec_Terms.calls a0_0 a0_1 a0_2 a0_3 a0_4 a0_5 true _ A11.out).mono ?_); rintro e w25 ⟨rfl, hb⟩; refine ⟨_, rfl, ?_⟩; have n0_ := Aside0.mk (blk_below (g := gb207) (o := .cells #[.int .i64 a0_0, .int .i64 a0_1, .int .i64 a0_2, .int .u64 a0_3, .int .u64 a0_4, .int .u64 a0_5] 24 (0, 0)) (by (with_reducible repeat (first | refine blk_drewN ?_ _ | refine blk_drew ?_ | refine blk_alloc ?_ _)); exact BK207.out) hb); have n1_ := Aside0.mk (below_step (by repeat (first | (with_reducible first | exact HB.out | apply below_alloc | apply pw_below_drewN | apply below_drew1 | refine below_set ?_ GE207.out) | exact HB.out)) hb); clear BK207; clear HB; have BK207 := n0_; have HB := n1_; clear n0_ n1_; (try clear hb); (try clear hb2); (try clear hk); (try clear hi)) | (go_at_call 13; (with_reducible refine (laws_logSmall.calls kj3 _ _ l1 false _ ?side1 ?side2 A13.out).mono ?_); (case side1 => repeat (first | exact (Kd.C_below HR1.out HB.out) | (with_reducible refine Kd.C_alloc ?_ _) | (with_reducible refine Kd.C_drewN ?_ _) | (with_reducible refine Kd.C_drew ?_))); (case side2 => exact HC1.out); rintro e w' ⟨rfl, ⟨nd, rfl⟩⟩))
              go_meet
              case rel => exact ⟨_, (true), (by first | rfl | (simp; done) | (simp [*]; done)), H', ⟨by have := HJ3.out; first | omega | exact Nat.le_refl _⟩, ⟨by (with_reducible repeat (first | refine blk_drewN ?_ _ | refine blk_drew ?_ | refine blk_alloc ?_ _)); exact BK207.out⟩, ⟨by repeat (first | (with_reducible first | exact HB.out | apply below_alloc | apply pw_below_drewN | apply below_drew1 | refine below_set ?_ GE207.out) | exact HB.out)⟩⟩
          · replace c12 := Bool.eq_false_iff.mpr c12
            subst c12
            have H1 : (laws_FnTreesTell.j1 kj3 l1 l2 true a0_0 a0_1 a0_2 a0_3 a0_4 a0_5) = some r := by rw [if_neg (show ¬ (false = true) by decide)] at H; exact H
            clear H
            have H := H1
            clear H1
            have H' := Aside0.mk H
            clear H
            have hcz26_0 : wc.cell? ⟨gb207, 0, none⟩ = some (.int .i64 a0_0) := (blk_cell BK207.out 0).trans rfl
            have hcz26_1 : wc.cell? ⟨gb207, 1, none⟩ = some (.int .i64 a0_1) := (blk_cell BK207.out 1).trans rfl
            have hcz26_2 : wc.cell? ⟨gb207, 2, none⟩ = some (.int .i64 a0_2) := (blk_cell BK207.out 2).trans rfl
            have hcz26_3 : wc.cell? ⟨gb207, 3, none⟩ = some (.int .u64 a0_3) := (blk_cell BK207.out 3).trans rfl
            have hcz26_4 : wc.cell? ⟨gb207, 4, none⟩ = some (.int .u64 a0_4) := (blk_cell BK207.out 4).trans rfl
            have hcz26_5 : wc.cell? ⟨gb207, 5, none⟩ = some (.int .u64 a0_5) := (blk_cell BK207.out 5).trans rfl
            have hfz26_0 := blk_frozen BK207.out 0
            have hfz26_1 := blk_frozen BK207.out 1
            have hfz26_2 := blk_frozen BK207.out 2
            have hfz26_3 := blk_frozen BK207.out 3
            have hfz26_4 := blk_frozen BK207.out 4
            have hfz26_5 := blk_frozen BK207.out 5
            go_wp2_with (first | ((with_reducible refine gate_callee (f := 16) rfl ?_); refine goesL_ (some 20) rfl rfl Tryd.func16 (by kernel_rfl) rfl #[.agg #[.int .i64 a0_0, .int .i64 a0_1, .int .i64 a0_2, .int .u64 a0_3, .int .u64 a0_4, .int .u64 a0_5]] rfl (by (try simp only [List.map_toArray, List.map_cons, List.map_nil]); first | done | rfl | (simp only [List.length_drop, List.length_take]; rfl)) ?_; (with_reducible refine (spec_Terms.calls a0_0 a0_1 a0_2 a0_3 a0_4 a0_5 false _ A11.out).mono ?_); rintro e w27 ⟨rfl, hb⟩; refine ⟨_, rfl, ?_⟩; have n0_ := Aside0.mk (blk_below (g := gb207) (o := .cells #[.int .i64 a0_0, .int .i64 a0_1, .int .i64 a0_2, .int .u64 a0_3, .int .u64 a0_4, .int .u64 a0_5] 24 (0, 0)) (by (with_reducible repeat (first | refine blk_drewN ?_ _ | refine blk_drew ?_ | refine blk_alloc ?_ _)); exact BK207.out) hb); have n1_ := Aside0.mk (below_step (by repeat (first | (with_reducible first | exact HB.out | apply below_alloc | apply pw_below_drewN | apply below_drew1 | refine below_set ?_ GE207.out) | exact HB.out)) hb); clear BK207; clear HB; have BK207 := n0_; have HB := n1_; clear n0_ n1_; (try clear hb); (try clear hb2); (try clear hk); (try clear hi)))
            go_meet
            case rel => exact ⟨_, (true), (by first | rfl | (simp; done) | (simp [*]; done)), H', ⟨by have := HJ3.out; first | omega | exact Nat.le_refl _⟩, ⟨by (with_reducible repeat (first | refine blk_drewN ?_ _ | refine blk_drew ?_ | refine blk_alloc ?_ _)); exact BK207.out⟩, ⟨by repeat (first | (with_reducible first | exact HB.out | apply below_alloc | apply pw_below_drewN | apply below_drew1 | refine below_set ?_ GE207.out) | exact HB.out)⟩⟩
        case rest =>
          clear HC10
          try clear c1
          try clear c2
          try clear p2
          try clear c4
          try clear c7
          try clear c9
          try clear c12
          try clear c14
          try clear c16
          try clear c17
          try clear c17b0
          try clear c17b1
          try clear c17b2
          try clear hcz18_0
          try clear hcz18_1
          try clear hcz18_2
          try clear hcz18_3
          try clear hcz18_4
          try clear hcz18_5
          try clear hcz20_0
          try clear hcz20_1
          try clear hcz20_2
          try clear hcz20_3
          try clear hcz20_4
          try clear hcz20_5
          try clear hcz22_0
          try clear hcz22_1
          try clear hcz22_2
          try clear hcz22_3
          try clear hcz22_4
          try clear hcz22_5
          try clear hcz24_0
          try clear hcz24_1
          try clear hcz24_2
          try clear hcz24_3
          try clear hcz24_4
          try clear hcz24_5
          try clear hcz26_0
          try clear hcz26_1
          try clear hcz26_2
          try clear hcz26_3
          try clear hcz26_4
          try clear hcz26_5
          try clear hfz18_0
          try clear hfz18_1
          try clear hfz18_2
          try clear hfz18_3
          try clear hfz18_4
          try clear hfz18_5
          try clear hfz20_0
          try clear hfz20_1
          try clear hfz20_2
          try clear hfz20_3
          try clear hfz20_4
          try clear hfz20_5
          try clear hfz22_0
          try clear hfz22_1
          try clear hfz22_2
          try clear hfz22_3
          try clear hfz22_4
          try clear hfz22_5
          try clear hfz24_0
          try clear hfz24_1
          try clear hfz24_2
          try clear hfz24_3
          try clear hfz24_4
          try clear hfz24_5
          try clear hfz26_0
          try clear hfz26_1
          try clear hfz26_2
          try clear hfz26_3
          try clear hfz26_4
          try clear hfz26_5
          try clear p2
          obtain ⟨kq, x43_9, rfl, HA, HJ9, BK207, HB⟩ := hcut
          cases kq with
          | zero => exact absurd HA.out (by simp [laws_FnTreesTell.j1])
          | succ kj9 =>
            have H := HA.out
            clear HA
            simp only [laws_FnTreesTell.j1] at H
            by_cases c28 : x43_9 = true
            · subst c28
              have H1 : (some true) = some r := by rw [if_pos rfl] at H; exact H
              clear H
              have H := H1
              clear H1
              obtain rfl := Option.some.inj H
              go_wp2
              go_ret
              exact ⟨by first | rfl | (simp [errW_none, errW_some] <;> rfl) | (simp [*, errW_none, errW_some] <;> rfl), by repeat (first | (with_reducible first | exact HB.out | apply below_alloc | apply pw_below_drewN | apply below_drew1 | refine below_set ?_ GE207.out) | exact HB.out)⟩
            · replace c28 := Bool.eq_false_iff.mpr c28
              subst c28
              have H1 : ((impl_TreeRoot.f kj9 a0_0 a0_1 a0_2 a0_3 a0_4 a0_5 l1 (IntKind.u64.wrap ((l1.length : Int)))).bind fun bt213 => ((impl_TreeRoot.f kj9 a0_0 a0_1 a0_2 a0_3 a0_4 a0_5 l2 (IntKind.u64.wrap ((l2.length : Int)))).bind fun bt217 => (if bt213.2 = true then (if bt217.2 = true then ((spec_SameText.f bt213.1 bt217.1).bind fun t221 => ((spec_Same.f kj9 l1 l2).bind fun t222 => (some (t221 == t222)))) else (some false)) else (some false)))) = some r := by rw [if_neg (show ¬ (false = true) by decide)] at H; exact H
              clear H
              have H := H1
              clear H1
              replace H := Option.bind_eq_some_iff.mp H
              obtain ⟨⟨t213, t216⟩, A290, H⟩ := H
              replace H : ((impl_TreeRoot.f kj9 a0_0 a0_1 a0_2 a0_3 a0_4 a0_5 l2 (IntKind.u64.wrap ((l2.length : Int)))).bind fun bt217 => (if t216 = true then (if bt217.2 = true then ((spec_SameText.f t213 bt217.1).bind fun t221 => ((spec_Same.f kj9 l1 l2).bind fun t222 => (some (t221 == t222)))) else (some false)) else (some false))) = some r := H
              have A29 := Aside0.mk A290
              clear A290
              replace H := Option.bind_eq_some_iff.mp H
              obtain ⟨⟨t217, t220⟩, A300, H⟩ := H
              replace H : (if t216 = true then (if t220 = true then ((spec_SameText.f t213 t217).bind fun t221 => ((spec_Same.f kj9 l1 l2).bind fun t222 => (some (t221 == t222)))) else (some false)) else (some false)) = some r := H
              have A30 := Aside0.mk A300
              clear A300
              by_cases c31 : t216 = true
              · subst c31
                have H1 : (if t220 = true then ((spec_SameText.f t213 t217).bind fun t221 => ((spec_Same.f kj9 l1 l2).bind fun t222 => (some (t221 == t222)))) else (some false)) = some r := by rw [if_pos rfl] at H; exact H
                clear H
                have H := H1
                clear H1
                by_cases c32 : t220 = true
                · subst c32
                  have H1 : ((spec_SameText.f t213 t217).bind fun t221 => ((spec_Same.f kj9 l1 l2).bind fun t222 => (some (t221 == t222)))) = some r := by rw [if_pos rfl] at H; exact H
                  clear H
                  have H := H1
                  clear H1
                  replace H := Option.bind_eq_some_iff.mp H
                  obtain ⟨t221, A330, H⟩ := H
                  replace H : ((spec_Same.f kj9 l1 l2).bind fun t222 => (some (t221 == t222))) = some r := H
                  have A33 := Aside0.mk A330
                  clear A330
                  replace H := Option.bind_eq_some_iff.mp H
                  obtain ⟨t222, A340, H⟩ := H
                  replace H : (some (t221 == t222)) = some r := H
                  have A34 := Aside0.mk A340
                  clear A340
                  obtain rfl := Option.some.inj H
                  have hcz35_0 : wc.cell? ⟨gb207, 0, none⟩ = some (.int .i64 a0_0) := (blk_cell BK207.out 0).trans rfl
                  have hcz35_1 : wc.cell? ⟨gb207, 1, none⟩ = some (.int .i64 a0_1) := (blk_cell BK207.out 1).trans rfl
                  have hcz35_2 : wc.cell? ⟨gb207, 2, none⟩ = some (.int .i64 a0_2) := (blk_cell BK207.out 2).trans rfl
                  have hcz35_3 : wc.cell? ⟨gb207, 3, none⟩ = some (.int .u64 a0_3) := (blk_cell BK207.out 3).trans rfl
                  have hcz35_4 : wc.cell? ⟨gb207, 4, none⟩ = some (.int .u64 a0_4) := (blk_cell BK207.out 4).trans rfl
                  have hcz35_5 : wc.cell? ⟨gb207, 5, none⟩ = some (.int .u64 a0_5) := (blk_cell BK207.out 5).trans rfl
                  have hfz35_0 := blk_frozen BK207.out 0
                  have hfz35_1 := blk_frozen BK207.out 1
                  have hfz35_2 := blk_frozen BK207.out 2
                  have hfz35_3 := blk_frozen BK207.out 3
                  have hfz35_4 := blk_frozen BK207.out 4
                  have hfz35_5 := blk_frozen BK207.out 5
                  go_wp2_with (first | ((with_reducible refine gate_callee (f := 14) rfl ?_); refine goesL_ (some 50) rfl rfl Tryd.func14 (by kernel_rfl) rfl #[.agg #[.int .i64 a0_0, .int .i64 a0_1, .int .i64 a0_2, .int .u64 a0_3, .int .u64 a0_4, .int .u64 a0_5], .slice A1 l1.length c1, .int .u64 (IntKind.u64.wrap ((l1.length : Int)))] rfl (by (try simp only [List.map_toArray, List.map_cons, List.map_nil]); first | done | rfl | (simp only [List.length_drop, List.length_take]; rfl)) ?_; (with_reducible refine (impl_TreeRoot.calls kj9 a0_0 a0_1 a0_2 a0_3 a0_4 a0_5 _ _ l1 (IntKind.u64.wrap ((l1.length : Int))) t213 true _ ?side1 ?side2 ?side3 A29.out).mono ?_); (case side1 => exact TabOK.below HT.out (by repeat (first | (with_reducible first | exact HB.out | apply below_alloc | apply pw_below_drewN | apply below_drew1 | refine below_set ?_ GE207.out) | exact HB.out))); (case side2 => repeat (first | exact (Kd.C_below HR1.out HB.out) | (with_reducible refine Kd.C_alloc ?_ _) | (with_reducible refine Kd.C_drewN ?_ _) | (with_reducible refine Kd.C_drew ?_))); (case side3 => exact HC1.out); rintro e w36 ⟨v214, rfl, ho0, hb⟩; refine ⟨_, rfl, ?_⟩; have n0_ := Aside0.mk (Kd.R_lower ho0 (below_size (by repeat (first | (with_reducible first | exact HB.out | apply below_alloc | apply pw_below_drewN | apply below_drew1 | refine below_set ?_ GE207.out) | exact HB.out)))); have n1_ := Aside0.mk (blk_below (g := gb207) (o := .cells #[.int .i64 a0_0, .int .i64 a0_1, .int .i64 a0_2, .int .u64 a0_3, .int .u64 a0_4, .int .u64 a0_5] 24 (0, 0)) (by (with_reducible repeat (first | refine blk_drewN ?_ _ | refine blk_drew ?_ | refine blk_alloc ?_ _)); exact BK207.out) hb); have n2_ := Aside0.mk (below_step (by repeat (first | (with_reducible first | exact HB.out | apply below_alloc | apply pw_below_drewN | apply below_drew1 | refine below_set ?_ GE207.out) | exact HB.out)) hb); clear BK207; clear HB; have HO215 := n0_; have BK207 := n1_; have HB := n2_; clear n0_ n1_ n2_; (try clear hb); (try clear hb2); (try clear hk); (try clear hi); (try clear ho0); have hcz37_0 : w36.cell? ⟨gb207, 0, none⟩ = some (.int .i64 a0_0) := (blk_cell BK207.out 0).trans rfl; have hcz37_1 : w36.cell? ⟨gb207, 1, none⟩ = some (.int .i64 a0_1) := (blk_cell BK207.out 1).trans rfl; have hcz37_2 : w36.cell? ⟨gb207, 2, none⟩ = some (.int .i64 a0_2) := (blk_cell BK207.out 2).trans rfl; have hcz37_3 : w36.cell? ⟨gb207, 3, none⟩ = some (.int .u64 a0_3) := (blk_cell BK207.out 3).trans rfl; have hcz37_4 : w36.cell? ⟨gb207, 4, none⟩ = some (.int .u64 a0_4) := (blk_cell BK207.out 4).trans rfl; have hcz37_5 : w36.cell? ⟨gb207, 5, none⟩ = some (.int .u64 a0_5) := (blk_cell BK207.out 5).trans rfl; have hfz37_0 := blk_frozen BK207.out 0; have hfz37_1 := blk_frozen BK207.out 1; have hfz37_2 := blk_frozen BK207.out 2; have hfz37_3 := blk_frozen BK207.out 3; have hfz37_4 := blk_frozen BK207.out 4; have hfz37_5 := blk_frozen BK207.out 5) | ((with_reducible refine gate_callee (f := 14) rfl ?_); refine goesL_ (some 59) rfl rfl Tryd.func14 (by kernel_rfl) rfl #[.agg #[.int .i64 a0_0, .int .i64 a0_1, .int .i64 a0_2, .int .u64 a0_3, .int .u64 a0_4, .int .u64 a0_5], .slice A2 l2.length c2, .int .u64 (IntKind.u64.wrap ((l2.length : Int)))] rfl (by (try simp only [List.map_toArray, List.map_cons, List.map_nil]); first | done | rfl | (simp only [List.length_drop, List.length_take]; rfl)) ?_; (with_reducible refine (impl_TreeRoot.calls kj9 a0_0 a0_1 a0_2 a0_3 a0_4 a0_5 _ _ l2 (IntKind.u64.wrap ((l2.length : Int))) t217 true _ ?side1 ?side2 ?side3 A30.out).mono ?_); (case side1 => exact TabOK.below HT.out (by repeat (first | (with_reducible first | exact HB.out | apply below_alloc | apply pw_below_drewN | apply below_drew1 | refine below_set ?_ GE207.out) | exact HB.out))); (case side2 => repeat (first | exact (Kd.C_below HR2.out HB.out) | (with_reducible refine Kd.C_alloc ?_ _) | (with_reducible refine Kd.C_drewN ?_ _) | (with_reducible refine Kd.C_drew ?_))); (case side3 => exact HC2.out); rintro e w38 ⟨v218, rfl, ho0, hb⟩; refine ⟨_, rfl, ?_⟩; have n0_ := Aside0.mk (Kd.R_elder' (by (with_reducible repeat (first | apply Kd.R_alloc | apply Kd.R_drewN | apply Kd.R_drew)); exact HO215.out) (Kd.R_base ho0) hb); have n1_ := Aside0.mk (Kd.R_lower (Kd.R_new' ho0 (Kd.R_lt (by (with_reducible repeat (first | apply Kd.R_alloc | apply Kd.R_drewN | apply Kd.R_drew)); exact HO215.out))) (below_size (by repeat (first | (with_reducible first | exact HB.out | apply below_alloc | apply pw_below_drewN | apply below_drew1 | refine below_set ?_ GE207.out) | exact HB.out)))); have n2_ := Aside0.mk (blk_below (g := gb207) (o := .cells #[.int .i64 a0_0, .int .i64 a0_1, .int .i64 a0_2, .int .u64 a0_3, .int .u64 a0_4, .int .u64 a0_5] 24 (0, 0)) (by (with_reducible repeat (first | refine blk_drewN ?_ _ | refine blk_drew ?_ | refine blk_alloc ?_ _)); exact BK207.out) hb); have n3_ := Aside0.mk (below_step (by repeat (first | (with_reducible first | exact HB.out | apply below_alloc | apply pw_below_drewN | apply below_drew1 | refine below_set ?_ GE207.out) | exact HB.out)) hb); clear HO215; clear BK207; clear HB; have HO215 := n0_; have HO219 := n1_; have BK207 := n2_; have HB := n3_; clear n0_ n1_ n2_ n3_; (try clear hb); (try clear hb2); (try clear hk); (try clear hi); (try clear ho0); obtain ⟨Ao39, co39, eo39⟩ := Kd.R_slice HO215.out; subst eo39; obtain ⟨Ao40, co40, eo40⟩ := Kd.R_slice HO219.out; subst eo40) | (go_at_call 15; (with_reducible refine (spec_SameText.calls _ _ t213 _ _ t217 t221 _ ?side1 ?side2 ?side3 ?side4 A33.out).mono ?_); (case side1 => repeat (first | exact (Kd.R_reads' HO215.out).2.2 | (with_reducible refine Kd.C_alloc ?_ _) | (with_reducible refine Kd.C_drewN ?_ _) | (with_reducible refine Kd.C_drew ?_))); (case side2 => exact (Kd.R_reads' HO215.out).2.1); (case side3 => repeat (first | exact (Kd.R_reads' HO219.out).2.2 | (with_reducible refine Kd.C_alloc ?_ _) | (with_reducible refine Kd.C_drewN ?_ _) | (with_reducible refine Kd.C_drew ?_))); (case side4 => exact (Kd.R_reads' HO219.out).2.1); rintro e w' ⟨rfl, ⟨nd, rfl⟩⟩) | (go_at_call 17; (with_reducible refine (spec_Same.calls kj9 _ _ l1 _ _ l2 t222 _ ?side1 ?side2 ?side3 ?side4 A34.out).mono ?_); (case side1 => repeat (first | exact (Kd.C_below HR1.out (by repeat (first | (with_reducible first | exact HB.out | apply below_alloc | apply pw_below_drewN | apply below_drew1 | refine below_set ?_ GE207.out) | exact HB.out))) | (with_reducible refine Kd.C_alloc ?_ _) | (with_reducible refine Kd.C_drewN ?_ _) | (with_reducible refine Kd.C_drew ?_))); (case side2 => exact HC1.out); (case side3 => repeat (first | exact (Kd.C_below HR2.out (by repeat (first | (with_reducible first | exact HB.out | apply below_alloc | apply pw_below_drewN | apply below_drew1 | refine below_set ?_ GE207.out) | exact HB.out))) | (with_reducible refine Kd.C_alloc ?_ _) | (with_reducible refine Kd.C_drewN ?_ _) | (with_reducible refine Kd.C_drew ?_))); (case side4 => exact HC2.out); rintro e w' ⟨rfl, ⟨nd, rfl⟩⟩))
                  go_ret
                  exact ⟨by first | rfl | (simp [errW_none, errW_some] <;> rfl) | (simp [*, errW_none, errW_some] <;> rfl), by repeat (first | (with_reducible first | exact HB.out | apply below_alloc | apply pw_below_drewN | apply below_drew1 | refine below_set ?_ GE207.out) | exact HB.out)⟩
                · replace c32 := Bool.eq_false_iff.mpr c32
                  subst c32
                  have H1 : (some false) = some r := by rw [if_neg (show ¬ (false = true) by decide)] at H; exact H
                  clear H
                  have H := H1
                  clear H1
                  obtain rfl := Option.some.inj H
                  have hcz41_0 : wc.cell? ⟨gb207, 0, none⟩ = some (.int .i64 a0_0) := (blk_cell BK207.out 0).trans rfl
                  have hcz41_1 : wc.cell? ⟨gb207, 1, none⟩ = some (.int .i64 a0_1) := (blk_cell BK207.out 1).trans rfl
                  have hcz41_2 : wc.cell? ⟨gb207, 2, none⟩ = some (.int .i64 a0_2) := (blk_cell BK207.out 2).trans rfl
                  have hcz41_3 : wc.cell? ⟨gb207, 3, none⟩ = some (.int .u64 a0_3) := (blk_cell BK207.out 3).trans rfl
                  have hcz41_4 : wc.cell? ⟨gb207, 4, none⟩ = some (.int .u64 a0_4) := (blk_cell BK207.out 4).trans rfl
                  have hcz41_5 : wc.cell? ⟨gb207, 5, none⟩ = some (.int .u64 a0_5) := (blk_cell BK207.out 5).trans rfl
                  have hfz41_0 := blk_frozen BK207.out 0
                  have hfz41_1 := blk_frozen BK207.out 1
                  have hfz41_2 := blk_frozen BK207.out 2
                  have hfz41_3 := blk_frozen BK207.out 3
                  have hfz41_4 := blk_frozen BK207.out 4
                  have hfz41_5 := blk_frozen BK207.out 5
                  go_wp2_with (first | ((with_reducible refine gate_callee (f := 14) rfl ?_); refine goesL_ (some 50) rfl rfl Tryd.func14 (by kernel_rfl) rfl #[.agg #[.int .i64 a0_0, .int .i64 a0_1, .int .i64 a0_2, .int .u64 a0_3, .int .u64 a0_4, .int .u64 a0_5], .slice A1 l1.length c1, .int .u64 (IntKind.u64.wrap ((l1.length : Int)))] rfl (by (try simp only [List.map_toArray, List.map_cons, List.map_nil]); first | done | rfl | (simp only [List.length_drop, List.length_take]; rfl)) ?_; (with_reducible refine (impl_TreeRoot.calls kj9 a0_0 a0_1 a0_2 a0_3 a0_4 a0_5 _ _ l1 (IntKind.u64.wrap ((l1.length : Int))) t213 true _ ?side1 ?side2 ?side3 A29.out).mono ?_); (case side1 => exact TabOK.below HT.out (by repeat (first | (with_reducible first | exact HB.out | apply below_alloc | apply pw_below_drewN | apply below_drew1 | refine below_set ?_ GE207.out) | exact HB.out))); (case side2 => repeat (first | exact (Kd.C_below HR1.out HB.out) | (with_reducible refine Kd.C_alloc ?_ _) | (with_reducible refine Kd.C_drewN ?_ _) | (with_reducible refine Kd.C_drew ?_))); (case side3 => exact HC1.out); rintro e w42 ⟨v214, rfl, ho0, hb⟩; refine ⟨_, rfl, ?_⟩; have n0_ := Aside0.mk (Kd.R_lower ho0 (below_size (by repeat (first | (with_reducible first | exact HB.out | apply below_alloc | apply pw_below_drewN | apply below_drew1 | refine below_set ?_ GE207.out) | exact HB.out)))); have n1_ := Aside0.mk (blk_below (g := gb207) (o := .cells #[.int .i64 a0_0, .int .i64 a0_1, .int .i64 a0_2, .int .u64 a0_3, .int .u64 a0_4, .int .u64 a0_5] 24 (0, 0)) (by (with_reducible repeat (first | refine blk_drewN ?_ _ | refine blk_drew ?_ | refine blk_alloc ?_ _)); exact BK207.out) hb); have n2_ := Aside0.mk (below_step (by repeat (first | (with_reducible first | exact HB.out | apply below_alloc | apply pw_below_drewN | apply below_drew1 | refine below_set ?_ GE207.out) | exact HB.out)) hb); clear BK207; clear HB; have HO215 := n0_; have BK207 := n1_; have HB := n2_; clear n0_ n1_ n2_; (try clear hb); (try clear hb2); (try clear hk); (try clear hi); (try clear ho0); have hcz43_0 : w42.cell? ⟨gb207, 0, none⟩ = some (.int .i64 a0_0) := (blk_cell BK207.out 0).trans rfl; have hcz43_1 : w42.cell? ⟨gb207, 1, none⟩ = some (.int .i64 a0_1) := (blk_cell BK207.out 1).trans rfl; have hcz43_2 : w42.cell? ⟨gb207, 2, none⟩ = some (.int .i64 a0_2) := (blk_cell BK207.out 2).trans rfl; have hcz43_3 : w42.cell? ⟨gb207, 3, none⟩ = some (.int .u64 a0_3) := (blk_cell BK207.out 3).trans rfl; have hcz43_4 : w42.cell? ⟨gb207, 4, none⟩ = some (.int .u64 a0_4) := (blk_cell BK207.out 4).trans rfl; have hcz43_5 : w42.cell? ⟨gb207, 5, none⟩ = some (.int .u64 a0_5) := (blk_cell BK207.out 5).trans rfl; have hfz43_0 := blk_frozen BK207.out 0; have hfz43_1 := blk_frozen BK207.out 1; have hfz43_2 := blk_frozen BK207.out 2; have hfz43_3 := blk_frozen BK207.out 3; have hfz43_4 := blk_frozen BK207.out 4; have hfz43_5 := blk_frozen BK207.out 5) | ((with_reducible refine gate_callee (f := 14) rfl ?_); refine goesL_ (some 59) rfl rfl Tryd.func14 (by kernel_rfl) rfl #[.agg #[.int .i64 a0_0, .int .i64 a0_1, .int .i64 a0_2, .int .u64 a0_3, .int .u64 a0_4, .int .u64 a0_5], .slice A2 l2.length c2, .int .u64 (IntKind.u64.wrap ((l2.length : Int)))] rfl (by (try simp only [List.map_toArray, List.map_cons, List.map_nil]); first | done | rfl | (simp only [List.length_drop, List.length_take]; rfl)) ?_; (with_reducible refine (impl_TreeRoot.calls kj9 a0_0 a0_1 a0_2 a0_3 a0_4 a0_5 _ _ l2 (IntKind.u64.wrap ((l2.length : Int))) t217 false _ ?side1 ?side2 ?side3 A30.out).mono ?_); (case side1 => exact TabOK.below HT.out (by repeat (first | (with_reducible first | exact HB.out | apply below_alloc | apply pw_below_drewN | apply below_drew1 | refine below_set ?_ GE207.out) | exact HB.out))); (case side2 => repeat (first | exact (Kd.C_below HR2.out HB.out) | (with_reducible refine Kd.C_alloc ?_ _) | (with_reducible refine Kd.C_drewN ?_ _) | (with_reducible refine Kd.C_drew ?_))); (case side3 => exact HC2.out); rintro e w44 ⟨v218, rfl, ho0, hb⟩; refine ⟨_, rfl, ?_⟩; have n0_ := Aside0.mk (Kd.R_elder' (by (with_reducible repeat (first | apply Kd.R_alloc | apply Kd.R_drewN | apply Kd.R_drew)); exact HO215.out) (Kd.R_base ho0) hb); have n1_ := Aside0.mk (Kd.R_lower (Kd.R_new' ho0 (Kd.R_lt (by (with_reducible repeat (first | apply Kd.R_alloc | apply Kd.R_drewN | apply Kd.R_drew)); exact HO215.out))) (below_size (by repeat (first | (with_reducible first | exact HB.out | apply below_alloc | apply pw_below_drewN | apply below_drew1 | refine below_set ?_ GE207.out) | exact HB.out)))); have n2_ := Aside0.mk (blk_below (g := gb207) (o := .cells #[.int .i64 a0_0, .int .i64 a0_1, .int .i64 a0_2, .int .u64 a0_3, .int .u64 a0_4, .int .u64 a0_5] 24 (0, 0)) (by (with_reducible repeat (first | refine blk_drewN ?_ _ | refine blk_drew ?_ | refine blk_alloc ?_ _)); exact BK207.out) hb); have n3_ := Aside0.mk (below_step (by repeat (first | (with_reducible first | exact HB.out | apply below_alloc | apply pw_below_drewN | apply below_drew1 | refine below_set ?_ GE207.out) | exact HB.out)) hb); clear HO215; clear BK207; clear HB; have HO215 := n0_; have HO219 := n1_; have BK207 := n2_; have HB := n3_; clear n0_ n1_ n2_ n3_; (try clear hb); (try clear hb2); (try clear hk); (try clear hi); (try clear ho0)))
                  go_ret
                  exact ⟨by first | rfl | (simp [errW_none, errW_some] <;> rfl) | (simp [*, errW_none, errW_some] <;> rfl), by repeat (first | (with_reducible first | exact HB.out | apply below_alloc | apply pw_below_drewN | apply below_drew1 | refine below_set ?_ GE207.out) | exact HB.out)⟩
              · replace c31 := Bool.eq_false_iff.mpr c31
                subst c31
                have H1 : (some false) = some r := by rw [if_neg (show ¬ (false = true) by decide)] at H; exact H
                clear H
                have H := H1
                clear H1
                obtain rfl := Option.some.inj H
                have hcz45_0 : wc.cell? ⟨gb207, 0, none⟩ = some (.int .i64 a0_0) := (blk_cell BK207.out 0).trans rfl
                have hcz45_1 : wc.cell? ⟨gb207, 1, none⟩ = some (.int .i64 a0_1) := (blk_cell BK207.out 1).trans rfl
                have hcz45_2 : wc.cell? ⟨gb207, 2, none⟩ = some (.int .i64 a0_2) := (blk_cell BK207.out 2).trans rfl
                have hcz45_3 : wc.cell? ⟨gb207, 3, none⟩ = some (.int .u64 a0_3) := (blk_cell BK207.out 3).trans rfl
                have hcz45_4 : wc.cell? ⟨gb207, 4, none⟩ = some (.int .u64 a0_4) := (blk_cell BK207.out 4).trans rfl
                have hcz45_5 : wc.cell? ⟨gb207, 5, none⟩ = some (.int .u64 a0_5) := (blk_cell BK207.out 5).trans rfl
                have hfz45_0 := blk_frozen BK207.out 0
                have hfz45_1 := blk_frozen BK207.out 1
                have hfz45_2 := blk_frozen BK207.out 2
                have hfz45_3 := blk_frozen BK207.out 3
                have hfz45_4 := blk_frozen BK207.out 4
                have hfz45_5 := blk_frozen BK207.out 5
                go_wp2_with (first | ((with_reducible refine gate_callee (f := 14) rfl ?_); refine goesL_ (some 50) rfl rfl Tryd.func14 (by kernel_rfl) rfl #[.agg #[.int .i64 a0_0, .int .i64 a0_1, .int .i64 a0_2, .int .u64 a0_3, .int .u64 a0_4, .int .u64 a0_5], .slice A1 l1.length c1, .int .u64 (IntKind.u64.wrap ((l1.length : Int)))] rfl (by (try simp only [List.map_toArray, List.map_cons, List.map_nil]); first | done | rfl | (simp only [List.length_drop, List.length_take]; rfl)) ?_; (with_reducible refine (impl_TreeRoot.calls kj9 a0_0 a0_1 a0_2 a0_3 a0_4 a0_5 _ _ l1 (IntKind.u64.wrap ((l1.length : Int))) t213 false _ ?side1 ?side2 ?side3 A29.out).mono ?_); (case side1 => exact TabOK.below HT.out (by repeat (first | (with_reducible first | exact HB.out | apply below_alloc | apply pw_below_drewN | apply below_drew1 | refine below_set ?_ GE207.out) | exact HB.out))); (case side2 => repeat (first | exact (Kd.C_below HR1.out HB.out) | (with_reducible refine Kd.C_alloc ?_ _) | (with_reducible refine Kd.C_drewN ?_ _) | (with_reducible refine Kd.C_drew ?_))); (case side3 => exact HC1.out); rintro e w46 ⟨v214, rfl, ho0, hb⟩; refine ⟨_, rfl, ?_⟩; have n0_ := Aside0.mk (Kd.R_lower ho0 (below_size (by repeat (first | (with_reducible first | exact HB.out | apply below_alloc | apply pw_below_drewN | apply below_drew1 | refine below_set ?_ GE207.out) | exact HB.out)))); have n1_ := Aside0.mk (blk_below (g := gb207) (o := .cells #[.int .i64 a0_0, .int .i64 a0_1, .int .i64 a0_2, .int .u64 a0_3, .int .u64 a0_4, .int .u64 a0_5] 24 (0, 0)) (by (with_reducible repeat (first | refine blk_drewN ?_ _ | refine blk_drew ?_ | refine blk_alloc ?_ _)); exact BK207.out) hb); have n2_ := Aside0.mk (below_step (by repeat (first | (with_reducible first | exact HB.out | apply below_alloc | apply pw_below_drewN | apply below_drew1 | refine below_set ?_ GE207.out) | exact HB.out)) hb); clear BK207; clear HB; have HO215 := n0_; have BK207 := n1_; have HB := n2_; clear n0_ n1_ n2_; (try clear hb); (try clear hb2); (try clear hk); (try clear hi); (try clear ho0); have hcz47_0 : w46.cell? ⟨gb207, 0, none⟩ = some (.int .i64 a0_0) := (blk_cell BK207.out 0).trans rfl; have hcz47_1 : w46.cell? ⟨gb207, 1, none⟩ = some (.int .i64 a0_1) := (blk_cell BK207.out 1).trans rfl; have hcz47_2 : w46.cell? ⟨gb207, 2, none⟩ = some (.int .i64 a0_2) := (blk_cell BK207.out 2).trans rfl; have hcz47_3 : w46.cell? ⟨gb207, 3, none⟩ = some (.int .u64 a0_3) := (blk_cell BK207.out 3).trans rfl; have hcz47_4 : w46.cell? ⟨gb207, 4, none⟩ = some (.int .u64 a0_4) := (blk_cell BK207.out 4).trans rfl; have hcz47_5 : w46.cell? ⟨gb207, 5, none⟩ = some (.int .u64 a0_5) := (blk_cell BK207.out 5).trans rfl; have hfz47_0 := blk_frozen BK207.out 0; have hfz47_1 := blk_frozen BK207.out 1; have hfz47_2 := blk_frozen BK207.out 2; have hfz47_3 := blk_frozen BK207.out 3; have hfz47_4 := blk_frozen BK207.out 4; have hfz47_5 := blk_frozen BK207.out 5) | ((with_reducible refine gate_callee (f := 14) rfl ?_); refine goesL_ (some 59) rfl rfl Tryd.func14 (by kernel_rfl) rfl #[.agg #[.int .i64 a0_0, .int .i64 a0_1, .int .i64 a0_2, .int .u64 a0_3, .int .u64 a0_4, .int .u64 a0_5], .slice A2 l2.length c2, .int .u64 (IntKind.u64.wrap ((l2.length : Int)))] rfl (by (try simp only [List.map_toArray, List.map_cons, List.map_nil]); first | done | rfl | (simp only [List.length_drop, List.length_take]; rfl)) ?_; (with_reducible refine (impl_TreeRoot.calls kj9 a0_0 a0_1 a0_2 a0_3 a0_4 a0_5 _ _ l2 (IntKind.u64.wrap ((l2.length : Int))) t217 t220 _ ?side1 ?side2 ?side3 A30.out).mono ?_); (case side1 => exact TabOK.below HT.out (by repeat (first | (with_reducible first | exact HB.out | apply below_alloc | apply pw_below_drewN | apply below_drew1 | refine below_set ?_ GE207.out) | exact HB.out))); (case side2 => repeat (first | exact (Kd.C_below HR2.out HB.out) | (with_reducible refine Kd.C_alloc ?_ _) | (with_reducible refine Kd.C_drewN ?_ _) | (with_reducible refine Kd.C_drew ?_))); (case side3 => exact HC2.out); rintro e w48 ⟨v218, rfl, ho0, hb⟩; refine ⟨_, rfl, ?_⟩; have n0_ := Aside0.mk (Kd.R_elder' (by (with_reducible repeat (first | apply Kd.R_alloc | apply Kd.R_drewN | apply Kd.R_drew)); exact HO215.out) (Kd.R_base ho0) hb); have n1_ := Aside0.mk (Kd.R_lower (Kd.R_new' ho0 (Kd.R_lt (by (with_reducible repeat (first | apply Kd.R_alloc | apply Kd.R_drewN | apply Kd.R_drew)); exact HO215.out))) (below_size (by repeat (first | (with_reducible first | exact HB.out | apply below_alloc | apply pw_below_drewN | apply below_drew1 | refine below_set ?_ GE207.out) | exact HB.out)))); have n2_ := Aside0.mk (blk_below (g := gb207) (o := .cells #[.int .i64 a0_0, .int .i64 a0_1, .int .i64 a0_2, .int .u64 a0_3, .int .u64 a0_4, .int .u64 a0_5] 24 (0, 0)) (by (with_reducible repeat (first | refine blk_drewN ?_ _ | refine blk_drew ?_ | refine blk_alloc ?_ _)); exact BK207.out) hb); have n3_ := Aside0.mk (below_step (by repeat (first | (with_reducible first | exact HB.out | apply below_alloc | apply pw_below_drewN | apply below_drew1 | refine below_set ?_ GE207.out) | exact HB.out)) hb); clear HO215; clear BK207; clear HB; have HO215 := n0_; have HO219 := n1_; have BK207 := n2_; have HB := n3_; clear n0_ n1_ n2_ n3_; (try clear hb); (try clear hb2); (try clear hk); (try clear hi); (try clear ho0)))
                go_ret
                exact ⟨by first | rfl | (simp [errW_none, errW_some] <;> rfl) | (simp [*, errW_none, errW_some] <;> rfl), by repeat (first | (with_reducible first | exact HB.out | apply below_alloc | apply pw_below_drewN | apply below_drew1 | refine below_set ?_ GE207.out) | exact HB.out)⟩

end Go.Proofs.YtkmdkmlgahfcpaaDoor.M

