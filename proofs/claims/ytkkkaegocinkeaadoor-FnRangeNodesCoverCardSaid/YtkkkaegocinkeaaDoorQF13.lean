-- Written by a program of ours (wip/xp) out of the translation; Lean checks it.
import Derived.Test.YtkkkaegocinkeaaDoorQ0
namespace Go.Proofs.YtkkkaegocinkeaaDoor.Q
open Go.RowKit Go.Proofs.YtkkkaegocinkeaaDoorW.PrintWords Go.Proofs.YtkkkaegocinkeaaDoorW.PrintLast Go.Proofs.YtkkkaegocinkeaaDoorW.PrintMore
attribute [local go_sem] max2_int min2_int max_two min_two max_three min_three max_four min_four   -- for this text's walks alone
set_option linter.unusedVariables false
set_option linter.unusedSimpArgs false

/-! ### spec_Sizes: function 13 -/
mutual
def spec_Sizes.l0 : Nat → Int → Int → List Int → Int → Option (List Int)
  | 0, _, _, _, _ => none
  | k + 1, x0, x1, x5, x6 => if x6 < 64 then (if 0 ≤ x6 then (if (Go.bits .and .u64 (shr .u64 x0 x6) 1) = 1 then (if x5.length < 17592186044416 then (spec_Sizes.l0 k x0 x1 (x5 ++ [shl .u64 1 x6]) (wrap64 (x6 + 1))) else (none)) else (spec_Sizes.l0 k x0 x1 x5 (wrap64 (x6 + 1)))) else (none)) else (spec_Sizes.l1 k x1 x5 63)
def spec_Sizes.l1 : Nat → Int → List Int → Int → Option (List Int)
  | 0, _, _, _ => none
  | k + 1, x1, x5, x7 => if x7 ≥ 0 then (if 0 ≤ x7 then (if (Go.bits .and .u64 (shr .u64 x1 x7) 1) = 1 then (if x5.length < 17592186044416 then (spec_Sizes.l1 k x1 (x5 ++ [shl .u64 1 x7]) (wrap64 (x7 - 1))) else (none)) else (spec_Sizes.l1 k x1 x5 (wrap64 (x7 - 1)))) else (none)) else (some x5)
end
def spec_Sizes.f (k : Nat) (a0 : Int) (a1 : Int) : Option (List Int) := spec_Sizes.l0 k a0 a1 ([] : List Int) 0
theorem spec_Sizes.mono_l : ∀ k, (∀ y0 y1 y2 y3, LeO (spec_Sizes.l0 k y0 y1 y2 y3) (spec_Sizes.l0 (k + 1) y0 y1 y2 y3)) ∧ (∀ y0 y1 y2, LeO (spec_Sizes.l1 k y0 y1 y2) (spec_Sizes.l1 (k + 1) y0 y1 y2))
  | 0 => ⟨fun _ _ _ _ r h => by simp [spec_Sizes.l0] at h, fun _ _ _ r h => by simp [spec_Sizes.l1] at h⟩
  | k + 1 => by
    obtain ⟨ih0, ih1⟩ := spec_Sizes.mono_l k
    refine ⟨?_, ?_⟩
    · intro y0 y1 y2 y3
      unfold spec_Sizes.l0
      repeat' first
      | (with_reducible exact ih0 _ _ _ _)
      | (with_reducible exact ih1 _ _ _)
      | (with_reducible exact LeO.refl _)
      | (with_reducible exact LeO.none _)
      | (with_reducible refine LeO.ite ?_ ?_)
      | (with_reducible refine LeO.bind ?_ (fun _ => ?_))
      | exact ih0 _ _ _ _
      | exact ih1 _ _ _
      | exact LeO.none _
      | refine LeO.ite ?_ ?_
      | refine LeO.bind ?_ (fun _ => ?_)
    · intro y0 y1 y2
      unfold spec_Sizes.l1
      repeat' first
      | (with_reducible exact ih0 _ _ _ _)
      | (with_reducible exact ih1 _ _ _)
      | (with_reducible exact LeO.refl _)
      | (with_reducible exact LeO.none _)
      | (with_reducible refine LeO.ite ?_ ?_)
      | (with_reducible refine LeO.bind ?_ (fun _ => ?_))
      | exact ih0 _ _ _ _
      | exact ih1 _ _ _
      | exact LeO.none _
      | refine LeO.ite ?_ ?_
      | refine LeO.bind ?_ (fun _ => ?_)
theorem spec_Sizes.mono : ∀ a0 a1 k, LeO (spec_Sizes.f k a0 a1) (spec_Sizes.f (k + 1) a0 a1) := by
  intro a0 a1 k
  obtain ⟨ih0, ih1⟩ := spec_Sizes.mono_l k
  unfold spec_Sizes.f
  repeat' first
      | (with_reducible exact ih0 _ _ _ _)
      | (with_reducible exact ih1 _ _ _)
      | (with_reducible exact LeO.refl _)
      | (with_reducible exact LeO.none _)
      | (with_reducible refine LeO.ite ?_ ?_)
      | (with_reducible refine LeO.bind ?_ (fun _ => ?_))
      | exact ih0 _ _ _ _
      | exact ih1 _ _ _
      | exact LeO.none _
      | refine LeO.ite ?_ ?_
      | refine LeO.bind ?_ (fun _ => ?_)
set_option maxHeartbeats 8000000 in
set_option maxRecDepth 100000 in
theorem spec_Sizes.calls (k : Nat) (a0 : Int) (a1 : Int) (r : List Int) (w : World) (h : spec_Sizes.f k a0 a1 = some r) :
    Calls Tryd.prog 13 #[.int .u64 a0, .int .u64 a1] w fun e w' => ∃ v0_ : Value, e = .returned (v0_) ∧ Kd.R (Kd.int .u64) 22 w' w.heap.size (fun _ => True) v0_ r ∧ Below w.heap.size w w' := by
  have HB := Aside0.mk (Below.refl w.heap.size w)
  have H : (spec_Sizes.l0 k a0 a1 ([] : List Int) 0) = some r := h
  clear h
  have H' := Aside0.mk H
  clear H
  go_enter Tryd.func13, Tryd.ntmps13
  go_wp2
  go_loopg [5, 6] k (fun kq v5 v6 w' => ∃ (x5_1 : List Int) (x6_1 : Int), v6 = .int .i64 x6_1 ∧ Aside0 (spec_Sizes.l0 kq a0 a1 x5_1 x6_1 = some r) ∧ Aside0 (kq ≤ k) ∧ Aside0 (Kd.R (Kd.int .u64) 22 w' w.heap.size (fun _ => True) v5 x5_1) ∧ Aside0 (Below w.heap.size w w'))
  case atStart => exact ⟨(([] : List Int)), (0), (by first | rfl | (simp; done) | (simp [*]; done)), H', ⟨Nat.le_refl _⟩, ⟨by first | exact Kd.R_nil _ _ _ _ _ | exact Kd.N_nil _ _ _ _ _ | exact Kd.V_nil _ _ _ _ _ | exact Kd.Q_nil _ _ _ _ _ | exact Kd.S_nil _ _ _ _ _⟩, ⟨by repeat (first | (with_reducible first | exact HB.out | apply below_alloc | apply pw_below_drewN | apply below_drew1) | exact HB.out)⟩⟩
  case round =>
    clear H'
    try clear c1
    try clear p2
    obtain ⟨x5_1, x6_1, rfl, HA, HK1, HO_5, HB⟩ := hrel
    cases gk with
    | zero => exact absurd HA.out (by simp [spec_Sizes.l0])
    | succ k1 =>
      have H := HA.out
      clear HA
      simp only [spec_Sizes.l0] at H
      by_cases c3 : x6_1 < 64
      · rw [if_pos c3] at H
        have c3b0 : decide (x6_1 < 64) = true := decide_eq_true c3
        clear c3
        by_cases c4 : 0 ≤ x6_1
        · rw [if_pos c4] at H
          have c4b0 := eq_true c4
          have c4b1 : decide (0 ≤ x6_1) = true := decide_eq_true c4
          clear c4
          obtain ⟨ji5, hji5⟩ : ∃ j_ : Int, (shr .u64 a0 x6_1) = j_ := ⟨_, rfl⟩
          replace H : (if (Go.bits .and .u64 (ji5) 1) = 1 then (if x5_1.length < 17592186044416 then (spec_Sizes.l0 k1 a0 a1 (x5_1 ++ [shl .u64 1 x6_1]) (wrap64 (x6_1 + 1))) else (none)) else (spec_Sizes.l0 k1 a0 a1 x5_1 (wrap64 (x6_1 + 1)))) = some r := by first | (rw [hji5] at H; exact H) | (simp only [hji5] at H ⊢; exact H)
          have hji5_ : (a0 / 2 ^ min x6_1.toNat 64) = ji5 := hji5
          have hji5z : x6_1 ≤ 64 → (a0 / 2 ^ x6_1.toNat) = ji5 := shr_small hji5
          by_cases c6 : (Go.bits .and .u64 (ji5) 1) = 1
          · rw [if_pos c6] at H
            have c6b0 : ((Go.bits .and .u64 (ji5) 1) == 1) = true := beq_iff_eq.mpr c6
            have c6b1 : ((Go.bits .and .u64 (ji5) 1) != 1) = false := bne_eq_false_iff_eq.mpr c6
            clear c6
            have c7b0 := eq_true (of_decide_eq_true (by first | (with_reducible assumption) | assumption) : 0 ≤ x6_1)
            obtain ⟨ji8, hji8⟩ : ∃ j_ : Int, (shl .u64 1 x6_1) = j_ := ⟨_, rfl⟩
            replace H : (if x5_1.length < 17592186044416 then (spec_Sizes.l0 k1 a0 a1 (x5_1 ++ [ji8]) (wrap64 (x6_1 + 1))) else (none)) = some r := by first | (rw [hji8] at H; exact H) | (simp only [hji8] at H ⊢; exact H)
            have hji8_ : (IntKind.u64.wrap (1 * 2 ^ min x6_1.toNat 64)) = ji8 := hji8
            have hji8z : x6_1 ≤ 64 → (IntKind.u64.wrap (1 * 2 ^ x6_1.toNat)) = ji8 := shl_small hji8
            have hji8u : (IntKind.u64.wrap (2 ^ min x6_1.toNat 64)) = ji8 := by have h_ := hji8_; rw [Int.one_mul] at h_; exact h_
            have hji8v : x6_1 ≤ 64 → (IntKind.u64.wrap (2 ^ x6_1.toNat)) = ji8 := fun hle_ => by have h_ := hji8z hle_; rw [Int.one_mul] at h_; exact h_
            by_cases c9 : x5_1.length < 17592186044416
            · rw [if_pos c9] at H
              have LMc9 := Aside0.mk c9
              clear c9
              obtain ⟨y178, hy178⟩ : ∃ y_ : List Int, y_ = (x5_1 ++ [ji8]) := ⟨_, rfl⟩
              replace H : (spec_Sizes.l0 k1 a0 a1 y178 (wrap64 (x6_1 + 1))) = some r := by first | (rw [hy178]; with_reducible exact H) | (have H2_ := (Option.bind_some _ _).symm.trans H; rw [hy178]; with_reducible exact H2_) | (have H2_ := (Option.bind_some _ _).symm.trans H; with_reducible exact H2_) | with_reducible exact H | (rw [hy178]; exact H) | exact H
              have Ny178 := Aside0.mk hy178
              clear hy178
              have H' := Aside0.mk H
              clear H
              go_wp2_with (first | ((with_reducible refine gate_builtin (b := .append) (xs := #[.tmp 17, .tmp 20]) rfl ?_); at_builtin; refine Kd.R_append (Kd.int .u64) (w0 := w) w.heap.size rfl (.tmp 17) (.tmp 20) 35 22 (.int .u64 0) 8 rfl Tryd.underlying35 info22 rfl (by decide) (by omega) u5 x5_1 ji8 [.int .u64 ji8] (fun _ => True) (fun _ => False) rfl rfl ?aP (fun _ hk => hk.elim) ?aF ?aO ?aB ?aS ?aL ?_; (case aP => exact rfl); (case aB => exact (by repeat (first | (with_reducible first | exact HB.out | apply below_alloc | apply pw_below_drewN | apply below_drew1) | exact HB.out))); (case aF => exact (fun _ _ => trivial)); (case aO => exact (by (with_reducible repeat (first | apply Kd.R_alloc | apply Kd.R_drewN | apply Kd.R_drew)); exact HO_5.out)); (case aS => exact (below_size (by repeat (first | (with_reducible first | exact HB.out | apply below_alloc | apply pw_below_drewN | apply below_drew1) | exact HB.out)))); (case aL => have := LMc9.out; omega); intro v179 w10 ho hb hg hat; rw [← Ny178.out] at ho; have n0_ := Aside0.mk (hb); have n1_ := Aside0.mk (ho); clear HB; clear HO_5; have HB := n0_; have HO180 := n1_; clear n0_ n1_; clear ho hb hg hat))
              go_roundg k1
              case measure => have := HK1.out; omega
              case rel => exact ⟨(y178), (wrap64 (x6_1 + 1)), (by first | rfl | (simp; done) | (simp [*]; done)), H', ⟨by have := HK1.out; omega⟩, ⟨by (with_reducible repeat (first | apply Kd.R_alloc | apply Kd.R_drewN | apply Kd.R_drew)); exact HO180.out⟩, ⟨by repeat (first | (with_reducible first | exact HB.out | apply below_alloc | apply pw_below_drewN | apply below_drew1) | exact HB.out)⟩⟩
            · rw [if_neg c9] at H
              exact absurd H (by simp)
          · rw [if_neg c6] at H
            have c6b0 : ((Go.bits .and .u64 (ji5) 1) == 1) = false := beq_eq_false_iff_ne.mpr c6
            have c6b1 : ((Go.bits .and .u64 (ji5) 1) != 1) = true := bne_iff_ne.mpr c6
            have H' := Aside0.mk H
            clear H
            go_wp2
            go_roundg k1
            case measure => have := HK1.out; omega
            case rel => exact ⟨(x5_1), (wrap64 (x6_1 + 1)), (by first | rfl | (simp; done) | (simp [*]; done)), H', ⟨by have := HK1.out; omega⟩, ⟨by (with_reducible repeat (first | apply Kd.R_alloc | apply Kd.R_drewN | apply Kd.R_drew)); exact HO_5.out⟩, ⟨by repeat (first | (with_reducible first | exact HB.out | apply below_alloc | apply pw_below_drewN | apply below_drew1) | exact HB.out)⟩⟩
        · rw [if_neg c4] at H
          exact absurd H (by simp)
      · rw [if_neg c3] at H
        have c3b0 : decide (x6_1 < 64) = false := decide_eq_false c3
        clear c3
        have H' := Aside0.mk H
        clear H
        go_wp2
        go_loopg [5, 7] k1 (fun kq v5 v7 w' => ∃ (x5_2 : List Int) (x7_2 : Int), v7 = .int .i64 x7_2 ∧ Aside0 (spec_Sizes.l1 kq a1 x5_2 x7_2 = some r) ∧ Aside0 (kq ≤ k1) ∧ Aside0 (Kd.R (Kd.int .u64) 22 w' w.heap.size (fun _ => True) v5 x5_2) ∧ Aside0 (Below w.heap.size w w'))
        case atStart => exact ⟨(x5_1), (63), (by first | rfl | (simp; done) | (simp [*]; done)), H', ⟨Nat.le_refl _⟩, ⟨by (with_reducible repeat (first | apply Kd.R_alloc | apply Kd.R_drewN | apply Kd.R_drew)); exact HO_5.out⟩, ⟨by repeat (first | (with_reducible first | exact HB.out | apply below_alloc | apply pw_below_drewN | apply below_drew1) | exact HB.out)⟩⟩
        case round =>
          clear H'
          try clear c1
          try clear p2
          try clear c3
          try clear c3b0
          try clear c4
          try clear c4b0
          try clear c4b1
          try clear c6
          try clear c6b0
          try clear c6b1
          try clear p6
          try clear c7
          try clear c7b0
          try clear c9
          try clear p2
          obtain ⟨x5_2, x7_2, rfl, HA, HK2, HO_5, HB⟩ := hrel
          cases gk with
          | zero => exact absurd HA.out (by simp [spec_Sizes.l1])
          | succ k2 =>
            have H := HA.out
            clear HA
            simp only [spec_Sizes.l1] at H
            by_cases c11 : x7_2 ≥ 0
            · rw [if_pos c11] at H
              have c11b0 : decide (0 ≤ x7_2) = true := decide_eq_true c11
              clear c11
              by_cases c12 : 0 ≤ x7_2
              · rw [if_pos c12] at H
                have c12b0 := eq_true c12
                have c12b1 : decide (0 ≤ x7_2) = true := decide_eq_true c12
                clear c12
                obtain ⟨ji13, hji13⟩ : ∃ j_ : Int, (shr .u64 a1 x7_2) = j_ := ⟨_, rfl⟩
                replace H : (if (Go.bits .and .u64 (ji13) 1) = 1 then (if x5_2.length < 17592186044416 then (spec_Sizes.l1 k2 a1 (x5_2 ++ [shl .u64 1 x7_2]) (wrap64 (x7_2 - 1))) else (none)) else (spec_Sizes.l1 k2 a1 x5_2 (wrap64 (x7_2 - 1)))) = some r := by first | (rw [hji13] at H; exact H) | (simp only [hji13] at H ⊢; exact H)
                have hji13_ : (a1 / 2 ^ min x7_2.toNat 64) = ji13 := hji13
                have hji13z : x7_2 ≤ 64 → (a1 / 2 ^ x7_2.toNat) = ji13 := shr_small hji13
                by_cases c14 : (Go.bits .and .u64 (ji13) 1) = 1
                · rw [if_pos c14] at H
                  have c14b0 : ((Go.bits .and .u64 (ji13) 1) == 1) = true := beq_iff_eq.mpr c14
                  have c14b1 : ((Go.bits .and .u64 (ji13) 1) != 1) = false := bne_eq_false_iff_eq.mpr c14
                  clear c14
                  have c15b0 := eq_true (of_decide_eq_true (by first | (with_reducible assumption) | assumption) : 0 ≤ x7_2)
                  obtain ⟨ji16, hji16⟩ : ∃ j_ : Int, (shl .u64 1 x7_2) = j_ := ⟨_, rfl⟩
                  replace H : (if x5_2.length < 17592186044416 then (spec_Sizes.l1 k2 a1 (x5_2 ++ [ji16]) (wrap64 (x7_2 - 1))) else (none)) = some r := by first | (rw [hji16] at H; exact H) | (simp only [hji16] at H ⊢; exact H)
                  have hji16_ : (IntKind.u64.wrap (1 * 2 ^ min x7_2.toNat 64)) = ji16 := hji16
                  have hji16z : x7_2 ≤ 64 → (IntKind.u64.wrap (1 * 2 ^ x7_2.toNat)) = ji16 := shl_small hji16
                  have hji16u : (IntKind.u64.wrap (2 ^ min x7_2.toNat 64)) = ji16 := by have h_ := hji16_; rw [Int.one_mul] at h_; exact h_
                  have hji16v : x7_2 ≤ 64 → (IntKind.u64.wrap (2 ^ x7_2.toNat)) = ji16 := fun hle_ => by have h_ := hji16z hle_; rw [Int.one_mul] at h_; exact h_
                  by_cases c17 : x5_2.length < 17592186044416
                  · rw [if_pos c17] at H
                    have LMc17 := Aside0.mk c17
                    clear c17
                    obtain ⟨y181, hy181⟩ : ∃ y_ : List Int, y_ = (x5_2 ++ [ji16]) := ⟨_, rfl⟩
                    replace H : (spec_Sizes.l1 k2 a1 y181 (wrap64 (x7_2 - 1))) = some r := by first | (rw [hy181]; with_reducible exact H) | (have H2_ := (Option.bind_some _ _).symm.trans H; rw [hy181]; with_reducible exact H2_) | (have H2_ := (Option.bind_some _ _).symm.trans H; with_reducible exact H2_) | with_reducible exact H | (rw [hy181]; exact H) | exact H
                    have Ny181 := Aside0.mk hy181
                    clear hy181
                    have H' := Aside0.mk H
                    clear H
                    go_wp2_with (first | ((with_reducible refine gate_builtin (b := .append) (xs := #[.tmp 31, .tmp 34]) rfl ?_); at_builtin; refine Kd.R_append (Kd.int .u64) (w0 := w) w.heap.size rfl (.tmp 31) (.tmp 34) 35 22 (.int .u64 0) 8 rfl Tryd.underlying35 info22 rfl (by decide) (by omega) u5 x5_2 ji16 [.int .u64 ji16] (fun _ => True) (fun _ => False) rfl rfl ?aP (fun _ hk => hk.elim) ?aF ?aO ?aB ?aS ?aL ?_; (case aP => exact rfl); (case aB => exact (by repeat (first | (with_reducible first | exact HB.out | apply below_alloc | apply pw_below_drewN | apply below_drew1) | exact HB.out))); (case aF => exact (fun _ _ => trivial)); (case aO => exact (by (with_reducible repeat (first | apply Kd.R_alloc | apply Kd.R_drewN | apply Kd.R_drew)); exact HO_5.out)); (case aS => exact (below_size (by repeat (first | (with_reducible first | exact HB.out | apply below_alloc | apply pw_below_drewN | apply below_drew1) | exact HB.out)))); (case aL => have := LMc17.out; omega); intro v182 w18 ho hb hg hat; rw [← Ny181.out] at ho; have n0_ := Aside0.mk (hb); have n1_ := Aside0.mk (ho); clear HB; clear HO_5; have HB := n0_; have HO183 := n1_; clear n0_ n1_; clear ho hb hg hat))
                    go_roundg k2
                    case measure => have := HK1.out; have := HK2.out; omega
                    case rel => exact ⟨(y181), (wrap64 (x7_2 - 1)), (by first | rfl | (simp; done) | (simp [*]; done)), H', ⟨by have := HK1.out; have := HK2.out; omega⟩, ⟨by (with_reducible repeat (first | apply Kd.R_alloc | apply Kd.R_drewN | apply Kd.R_drew)); exact HO183.out⟩, ⟨by repeat (first | (with_reducible first | exact HB.out | apply below_alloc | apply pw_below_drewN | apply below_drew1) | exact HB.out)⟩⟩
                  · rw [if_neg c17] at H
                    exact absurd H (by simp)
                · rw [if_neg c14] at H
                  have c14b0 : ((Go.bits .and .u64 (ji13) 1) == 1) = false := beq_eq_false_iff_ne.mpr c14
                  have c14b1 : ((Go.bits .and .u64 (ji13) 1) != 1) = true := bne_iff_ne.mpr c14
                  have H' := Aside0.mk H
                  clear H
                  go_wp2
                  go_roundg k2
                  case measure => have := HK1.out; have := HK2.out; omega
                  case rel => exact ⟨(x5_2), (wrap64 (x7_2 - 1)), (by first | rfl | (simp; done) | (simp [*]; done)), H', ⟨by have := HK1.out; have := HK2.out; omega⟩, ⟨by (with_reducible repeat (first | apply Kd.R_alloc | apply Kd.R_drewN | apply Kd.R_drew)); exact HO_5.out⟩, ⟨by repeat (first | (with_reducible first | exact HB.out | apply below_alloc | apply pw_below_drewN | apply below_drew1) | exact HB.out)⟩⟩
              · rw [if_neg c12] at H
                exact absurd H (by simp)
            · rw [if_neg c11] at H
              have c11b0 : decide (0 ≤ x7_2) = false := decide_eq_false c11
              clear c11
              obtain rfl := Option.some.inj H
              go_wp2
              go_ret
              exact ⟨_, by first | rfl | (simp [errW_none, errW_some] <;> rfl) | (simp [*, errW_none, errW_some] <;> rfl), by (with_reducible repeat (first | apply Kd.R_alloc | apply Kd.R_drewN | apply Kd.R_drew)); exact HO_5.out, by repeat (first | (with_reducible first | exact HB.out | apply below_alloc | apply pw_below_drewN | apply below_drew1) | exact HB.out)⟩

end Go.Proofs.YtkkkaegocinkeaaDoor.Q
