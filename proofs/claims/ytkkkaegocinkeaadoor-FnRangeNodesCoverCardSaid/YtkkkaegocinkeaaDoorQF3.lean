-- Written by a program of ours (wip/xp) out of the translation; Lean checks it.
import Derived.Test.YtkkkaegocinkeaaDoorQ0
import Derived.Test.YtkkkaegocinkeaaDoorQF7
import Derived.Test.YtkkkaegocinkeaaDoorQF8
import Derived.Test.YtkkkaegocinkeaaDoorQF9
namespace Go.Proofs.YtkkkaegocinkeaaDoor.Q
open Go.RowKit Go.Proofs.YtkkkaegocinkeaaDoorW.PrintWords Go.Proofs.YtkkkaegocinkeaaDoorW.PrintLast Go.Proofs.YtkkkaegocinkeaaDoorW.PrintMore
attribute [local go_sem] max2_int min2_int max_two min_two max_three min_three max_four min_four   -- for this text's walks alone
set_option linter.unusedVariables false
set_option linter.unusedSimpArgs false

/-! ### laws_FnRangeNodesMoved: function 3 -/
mutual
def laws_FnRangeNodesMoved.j0 : Nat → Int → Int → Int → Int → Bool → Option (Bool)
  | 0, _, _, _, _, _ => none
  | k + 1, x0, x1, x2, x3, x44 => if x44 = true then (some true) else ((impl_RangeNodes.f k x0 x1 ([] : List (S28))).bind fun t146 => (laws_FnRangeNodesMoved.l0 k x0 x1 x2 x3 t146 ([] : List (S28)) t146 (t146.length : Int) 0))
def laws_FnRangeNodesMoved.l0 : Nat → Int → Int → Int → Int → List (S28) → List (S28) → List (S28) → Int → Int → Option (Bool)
  | 0, _, _, _, _, _, _, _, _, _ => none
  | k + 1, x0, x1, x2, x3, x9, x10, x48, x49, x50 => if x50 < x49 then (if 0 ≤ x50 then (if x50 < (x48.length : Int) then (if ((rd_T28 x48 x50).f0) > (IntKind.u64.wrap (x2)) then (some false) else (if 0 ≤ x2 then (if 0 ≤ ((rd_T28 x48 x50).f0) then (if x10.length < 8796093022208 then (laws_FnRangeNodesMoved.l0 k x0 x1 x2 x3 x9 (x10 ++ [(⟨(rd_T28 x48 x50).f0, IntKind.u64.wrap (((rd_T28 x48 x50).f1) + (shr .u64 (shl .u64 x3 x2) ((rd_T28 x48 x50).f0)))⟩ : S28)]) x48 x49 (wrap64 (x50 + 1))) else (none)) else (none)) else (none))) else (none)) else (none)) else (if 0 ≤ x2 then ((impl_RangeNodes.f k (IntKind.u64.wrap ((shl .u64 x3 x2) + x0)) (IntKind.u64.wrap ((shl .u64 x3 x2) + x1)) ([] : List (S28))).bind fun t154 => ((spec_SameNodes.f k t154 x10).bind fun t157 => (if t157 = true then (some ((decide ((x9.length : Int) > 0)) == (decide (x0 < x1)))) else (some false)))) else (none))
end
def laws_FnRangeNodesMoved.f (k : Nat) (a0 : Int) (a1 : Int) (a2 : Int) (a3 : Int) : Option (Bool) := if a2 < 0 then (laws_FnRangeNodesMoved.j0 k a0 a1 a2 a3 true) else (if a2 > 62 then (laws_FnRangeNodesMoved.j0 k a0 a1 a2 a3 true) else (if a0 > a1 then (laws_FnRangeNodesMoved.j0 k a0 a1 a2 a3 true) else (if 0 ≤ a2 then (if a1 > (shl .u64 1 a2) then (laws_FnRangeNodesMoved.j0 k a0 a1 a2 a3 true) else ((laws_scalable.f a3 a2).bind fun t145 => (if t145 = true then (laws_FnRangeNodesMoved.j0 k a0 a1 a2 a3 (decide ((IntKind.u64.wrap ((shl .u64 a3 a2) + a1)) < a1))) else (laws_FnRangeNodesMoved.j0 k a0 a1 a2 a3 true)))) else (none))))
theorem laws_FnRangeNodesMoved.mono_l : ∀ k, (∀ y0 y1 y2 y3 y4, LeO (laws_FnRangeNodesMoved.j0 k y0 y1 y2 y3 y4) (laws_FnRangeNodesMoved.j0 (k + 1) y0 y1 y2 y3 y4)) ∧ (∀ y0 y1 y2 y3 y4 y5 y6 y7 y8, LeO (laws_FnRangeNodesMoved.l0 k y0 y1 y2 y3 y4 y5 y6 y7 y8) (laws_FnRangeNodesMoved.l0 (k + 1) y0 y1 y2 y3 y4 y5 y6 y7 y8))
  | 0 => ⟨fun _ _ _ _ _ r h => by simp [laws_FnRangeNodesMoved.j0] at h, fun _ _ _ _ _ _ _ _ _ r h => by simp [laws_FnRangeNodesMoved.l0] at h⟩
  | k + 1 => by
    obtain ⟨ih0, ih1⟩ := laws_FnRangeNodesMoved.mono_l k
    refine ⟨?_, ?_⟩
    · intro y0 y1 y2 y3 y4
      unfold laws_FnRangeNodesMoved.j0
      repeat' first
      | (with_reducible exact ih0 _ _ _ _ _)
      | (with_reducible exact ih1 _ _ _ _ _ _ _ _ _)
      | (with_reducible exact impl_RangeNodes.mono _ _ _ _)
      | (with_reducible exact spec_SameNodes.mono _ _ _)
      | (with_reducible exact LeO.refl _)
      | (with_reducible exact LeO.none _)
      | (with_reducible refine LeO.ite ?_ ?_)
      | (with_reducible refine LeO.bind ?_ (fun _ => ?_))
      | exact ih0 _ _ _ _ _
      | exact ih1 _ _ _ _ _ _ _ _ _
      | exact impl_RangeNodes.mono _ _ _ _
      | exact spec_SameNodes.mono _ _ _
      | exact LeO.none _
      | refine LeO.ite ?_ ?_
      | refine LeO.bind ?_ (fun _ => ?_)
    · intro y0 y1 y2 y3 y4 y5 y6 y7 y8
      unfold laws_FnRangeNodesMoved.l0
      repeat' first
      | (with_reducible exact ih0 _ _ _ _ _)
      | (with_reducible exact ih1 _ _ _ _ _ _ _ _ _)
      | (with_reducible exact impl_RangeNodes.mono _ _ _ _)
      | (with_reducible exact spec_SameNodes.mono _ _ _)
      | (with_reducible exact LeO.refl _)
      | (with_reducible exact LeO.none _)
      | (with_reducible refine LeO.ite ?_ ?_)
      | (with_reducible refine LeO.bind ?_ (fun _ => ?_))
      | exact ih0 _ _ _ _ _
      | exact ih1 _ _ _ _ _ _ _ _ _
      | exact impl_RangeNodes.mono _ _ _ _
      | exact spec_SameNodes.mono _ _ _
      | exact LeO.none _
      | refine LeO.ite ?_ ?_
      | refine LeO.bind ?_ (fun _ => ?_)
theorem laws_FnRangeNodesMoved.mono : ∀ a0 a1 a2 a3 k, LeO (laws_FnRangeNodesMoved.f k a0 a1 a2 a3) (laws_FnRangeNodesMoved.f (k + 1) a0 a1 a2 a3) := by
  intro a0 a1 a2 a3 k
  obtain ⟨ih0, ih1⟩ := laws_FnRangeNodesMoved.mono_l k
  unfold laws_FnRangeNodesMoved.f
  repeat' first
      | (with_reducible exact ih0 _ _ _ _ _)
      | (with_reducible exact ih1 _ _ _ _ _ _ _ _ _)
      | (with_reducible exact impl_RangeNodes.mono _ _ _ _)
      | (with_reducible exact spec_SameNodes.mono _ _ _)
      | (with_reducible exact LeO.refl _)
      | (with_reducible exact LeO.none _)
      | (with_reducible refine LeO.ite ?_ ?_)
      | (with_reducible refine LeO.bind ?_ (fun _ => ?_))
      | exact ih0 _ _ _ _ _
      | exact ih1 _ _ _ _ _ _ _ _ _
      | exact impl_RangeNodes.mono _ _ _ _
      | exact spec_SameNodes.mono _ _ _
      | exact LeO.none _
      | refine LeO.ite ?_ ?_
      | refine LeO.bind ?_ (fun _ => ?_)
def laws_FnRangeNodesMoved.T10 : Bool × List (List Nat × List Nat) := (true, [([], []), ([], []), ([1], [1]), ([], []), ([3], [3]), ([], []), ([], []), ([5, 6], [5, 6]), ([], []), ([8], [8]), ([7, 9], [7, 9]), ([4, 10], [4, 10]), ([2, 11], [2, 11]), ([12], [12]), ([0, 13], [0, 13]), ([14, 14, 0, 1, 2, 3, 4, 5, 6, 7, 8, 9, 10, 11, 12, 13, 14], [0, 14])])
def laws_FnRangeNodesMoved.B10 : List Nat := [0, 0, 2, 0, 8, 0, 0, 96, 0, 256, 992, 2040, 4094, 8190, 16383, 32767]
theorem laws_FnRangeNodesMoved.tab10 : rtab .any (opsOf Tryd.f3 10) = laws_FnRangeNodesMoved.T10 := by kernel_rfl
theorem laws_FnRangeNodesMoved.bits10 : waitsOk laws_FnRangeNodesMoved.T10.2 laws_FnRangeNodesMoved.B10 = true := by kernel_rfl
def laws_FnRangeNodesMoved.T12 : Bool × List (List Nat × List Nat) := (true, [([], []), ([], []), ([0, 1], [0, 1]), ([], []), ([2, 3], [2, 3]), ([], []), ([], []), ([5, 6], [5, 6]), ([], []), ([7, 8], [7, 8]), ([4, 9], [4, 9]), ([], []), ([10, 11, 10], [10, 11]), ([12, 12], [12]), ([13], [13]), ([14, 13], [13, 14]), ([15, 13], [13, 15]), ([13], [13]), ([13], [13]), ([17, 18, 13], [13, 17, 18]), ([16, 19, 13], [13, 16, 19]), ([13, 20], [13, 20]), ([21, 13, 0, 1, 2, 3, 4, 5, 6, 7, 8, 9, 10, 11, 12, 13, 14, 15, 16, 17, 18, 19, 20, 21], [21])])
def laws_FnRangeNodesMoved.B12 : List Nat := [0, 0, 3, 0, 15, 0, 0, 96, 0, 480, 1023, 0, 4095, 8191, 16383, 32767, 65535, 16383, 16383, 409599, 1048575, 2097151, 4194303]
theorem laws_FnRangeNodesMoved.tab12 : rtab .any (opsOf Tryd.f3 12) = laws_FnRangeNodesMoved.T12 := by kernel_rfl
theorem laws_FnRangeNodesMoved.bits12 : waitsOk laws_FnRangeNodesMoved.T12.2 laws_FnRangeNodesMoved.B12 = true := by kernel_rfl
set_option maxHeartbeats 8000000 in
set_option maxRecDepth 100000 in
theorem laws_FnRangeNodesMoved.calls (k : Nat) (a0 : Int) (a1 : Int) (a2 : Int) (a3 : Int) (r : Bool) (w : World) (hT : TabOK w) (h : laws_FnRangeNodesMoved.f k a0 a1 a2 a3 = some r) :
    Calls Tryd.prog 3 #[.int .u64 a0, .int .u64 a1, .int .i64 a2, .int .u64 a3] w fun e w' => e = .returned (.bool r) ∧ Below w.heap.size w w' := by
  have hu28 := Tryd.underlying28
  have HT := Aside0.mk hT
  clear hT
  have HB := Aside0.mk (Below.refl w.heap.size w)
  have H : (if a2 < 0 then (laws_FnRangeNodesMoved.j0 k a0 a1 a2 a3 true) else (if a2 > 62 then (laws_FnRangeNodesMoved.j0 k a0 a1 a2 a3 true) else (if a0 > a1 then (laws_FnRangeNodesMoved.j0 k a0 a1 a2 a3 true) else (if 0 ≤ a2 then (if a1 > (shl .u64 1 a2) then (laws_FnRangeNodesMoved.j0 k a0 a1 a2 a3 true) else ((laws_scalable.f a3 a2).bind fun t145 => (if t145 = true then (laws_FnRangeNodesMoved.j0 k a0 a1 a2 a3 (decide ((IntKind.u64.wrap ((shl .u64 a3 a2) + a1)) < a1))) else (laws_FnRangeNodesMoved.j0 k a0 a1 a2 a3 true)))) else (none))))) = some r := h
  clear h
  have HC5 := Aside0.mk H
  clear H
  go_enter Tryd.func3, Tryd.ntmps3
  go_upto_region 1 with (fail)
  go_cut [44] (fun v44 wc => ∃ (kq : Nat) (x44_4 : Bool), v44 = .bool x44_4 ∧ Aside0 (laws_FnRangeNodesMoved.j0 kq a0 a1 a2 a3 x44_4 = some r) ∧ Aside0 (kq ≤ k) ∧ Aside0 (Below w.heap.size w wc))
  case first =>
    have H := HC5.out
    clear HC5
    by_cases c6 : a2 < 0
    · rw [if_pos c6] at H
      have c6b0 : decide (a2 < 0) = true := decide_eq_true c6
      clear c6
      (first | rw [c6b0] | (simp only [i64_w, i32_w]; rw [c6b0]) | skip)
      have H' := Aside0.mk H
      clear H
      go_wp2
      go_meet
      case rel => exact ⟨_, (true), (by first | rfl | (simp; done) | (simp [*]; done)), H', ⟨by first | omega | exact Nat.le_refl _⟩, ⟨by repeat (first | (with_reducible first | exact HB.out | apply below_alloc | apply pw_below_drewN | apply below_drew1) | exact HB.out)⟩⟩
    · rw [if_neg c6] at H
      have c6b0 : decide (a2 < 0) = false := decide_eq_false c6
      clear c6
      (first | rw [c6b0] | (simp only [i64_w, i32_w]; rw [c6b0]) | skip)
      by_cases c7 : a2 > 62
      · rw [if_pos c7] at H
        have c7b0 : decide (62 < a2) = true := decide_eq_true c7
        clear c7
        have H' := Aside0.mk H
        clear H
        go_wp2
        go_meet
        case rel => exact ⟨_, (true), (by first | rfl | (simp; done) | (simp [*]; done)), H', ⟨by first | omega | exact Nat.le_refl _⟩, ⟨by repeat (first | (with_reducible first | exact HB.out | apply below_alloc | apply pw_below_drewN | apply below_drew1) | exact HB.out)⟩⟩
      · rw [if_neg c7] at H
        have c7b0 : decide (62 < a2) = false := decide_eq_false c7
        clear c7
        by_cases c8 : a0 > a1
        · rw [if_pos c8] at H
          have c8b0 : decide (a1 < a0) = true := decide_eq_true c8
          clear c8
          have H' := Aside0.mk H
          clear H
          go_wp2
          go_meet
          case rel => exact ⟨_, (true), (by first | rfl | (simp; done) | (simp [*]; done)), H', ⟨by first | omega | exact Nat.le_refl _⟩, ⟨by repeat (first | (with_reducible first | exact HB.out | apply below_alloc | apply pw_below_drewN | apply below_drew1) | exact HB.out)⟩⟩
        · rw [if_neg c8] at H
          have c8b0 : decide (a1 < a0) = false := decide_eq_false c8
          clear c8
          by_cases c9 : 0 ≤ a2
          · rw [if_pos c9] at H
            have c9b0 := eq_true c9
            have c9b1 : decide (0 ≤ a2) = true := decide_eq_true c9
            clear c9
            obtain ⟨ji10, hji10⟩ : ∃ j_ : Int, (shl .u64 1 a2) = j_ := ⟨_, rfl⟩
            replace H : (if a1 > (ji10) then (laws_FnRangeNodesMoved.j0 k a0 a1 a2 a3 true) else ((laws_scalable.f a3 a2).bind fun t145 => (if t145 = true then (laws_FnRangeNodesMoved.j0 k a0 a1 a2 a3 (decide ((IntKind.u64.wrap ((shl .u64 a3 a2) + a1)) < a1))) else (laws_FnRangeNodesMoved.j0 k a0 a1 a2 a3 true)))) = some r := by first | (rw [hji10] at H; exact H) | (simp only [hji10] at H ⊢; exact H)
            have hji10_ : (IntKind.u64.wrap (1 * 2 ^ min a2.toNat 64)) = ji10 := hji10
            have hji10z : a2 ≤ 64 → (IntKind.u64.wrap (1 * 2 ^ a2.toNat)) = ji10 := shl_small hji10
            have hji10u : (IntKind.u64.wrap (2 ^ min a2.toNat 64)) = ji10 := by have h_ := hji10_; rw [Int.one_mul] at h_; exact h_
            have hji10v : a2 ≤ 64 → (IntKind.u64.wrap (2 ^ a2.toNat)) = ji10 := fun hle_ => by have h_ := hji10z hle_; rw [Int.one_mul] at h_; exact h_
            by_cases c11 : a1 > (ji10)
            · rw [if_pos c11] at H
              have c11b0 : decide ((ji10) < a1) = true := decide_eq_true c11
              clear c11
              have H' := Aside0.mk H
              clear H
              go_wp2
              go_meet
              case rel => exact ⟨_, (true), (by first | rfl | (simp; done) | (simp [*]; done)), H', ⟨by first | omega | exact Nat.le_refl _⟩, ⟨by repeat (first | (with_reducible first | exact HB.out | apply below_alloc | apply pw_below_drewN | apply below_drew1) | exact HB.out)⟩⟩
            · rw [if_neg c11] at H
              have c11b0 : decide ((ji10) < a1) = false := decide_eq_false c11
              clear c11
              replace H := Option.bind_eq_some_iff.mp H
              obtain ⟨t145, A120, H⟩ := H
              replace H : (if t145 = true then (laws_FnRangeNodesMoved.j0 k a0 a1 a2 a3 (decide ((IntKind.u64.wrap ((shl .u64 a3 a2) + a1)) < a1))) else (laws_FnRangeNodesMoved.j0 k a0 a1 a2 a3 true)) = some r := H
              have A12 := Aside0.mk A120
              clear A120
              by_cases c13 : t145 = true
              · subst c13
                have H1 : (laws_FnRangeNodesMoved.j0 k a0 a1 a2 a3 (decide ((IntKind.u64.wrap ((shl .u64 a3 a2) + a1)) < a1))) = some r := by rw [if_pos rfl] at H; exact H
                clear H
                have H := H1
                clear H1
                have c14b0 := eq_true (of_decide_eq_true (by first | (with_reducible assumption) | assumption) : 0 ≤ a2)
                obtain ⟨ji15, hji15⟩ : ∃ j_ : Int, (shl .u64 a3 a2) = j_ := ⟨_, rfl⟩
                replace H : (laws_FnRangeNodesMoved.j0 k a0 a1 a2 a3 (decide ((IntKind.u64.wrap ((ji15) + a1)) < a1))) = some r := by first | (rw [hji15] at H; exact H) | (simp only [hji15] at H ⊢; exact H)
                (try rw [hji15] at A12)
                have hji15_ : (IntKind.u64.wrap (a3 * 2 ^ min a2.toNat 64)) = ji15 := hji15
                have hji15z : a2 ≤ 64 → (IntKind.u64.wrap (a3 * 2 ^ a2.toNat)) = ji15 := shl_small hji15
                have H' := Aside0.mk H
                clear H
                go_wp2_with (first | (go_at_call 7; (with_reducible refine (laws_scalable.calls a3 a2 true _ A12.out).mono ?_); rintro e w' ⟨rfl, ⟨nd, rfl⟩⟩))
                go_meet
                case rel => exact ⟨_, (decide ((IntKind.u64.wrap ((ji15) + a1)) < a1)), (by first | rfl | (simp; done) | (simp only [← hji15] <;> (first | rfl | simp)) | (simp [*]; done)), H', ⟨by first | omega | exact Nat.le_refl _⟩, ⟨by repeat (first | (with_reducible first | exact HB.out | apply below_alloc | apply pw_below_drewN | apply below_drew1) | exact HB.out)⟩⟩
              · replace c13 := Bool.eq_false_iff.mpr c13
                subst c13
                have H1 : (laws_FnRangeNodesMoved.j0 k a0 a1 a2 a3 true) = some r := by rw [if_neg (show ¬ (false = true) by decide)] at H; exact H
                clear H
                have H := H1
                clear H1
                have H' := Aside0.mk H
                clear H
                go_wp2_with (first | (go_at_call 7; (with_reducible refine (laws_scalable.calls a3 a2 false _ A12.out).mono ?_); rintro e w' ⟨rfl, ⟨nd, rfl⟩⟩))
                go_meet
                case rel => exact ⟨_, (true), (by first | rfl | (simp; done) | (simp [*]; done)), H', ⟨by first | omega | exact Nat.le_refl _⟩, ⟨by repeat (first | (with_reducible first | exact HB.out | apply below_alloc | apply pw_below_drewN | apply below_drew1) | exact HB.out)⟩⟩
          · rw [if_neg c9] at H
            exact absurd H (by simp)
  case rest =>
    clear HC5
    try clear c1
    try clear p2
    try clear c3
    try clear c6
    try clear c6b0
    try clear c7
    try clear c7b0
    try clear c8
    try clear c8b0
    try clear c9
    try clear c9b0
    try clear c9b1
    try clear c11
    try clear c11b0
    try clear c13
    try clear c14
    try clear c14b0
    obtain ⟨kq, x44_4, rfl, HA, HJ4, HB⟩ := hcut
    cases kq with
    | zero => exact absurd HA.out (by simp [laws_FnRangeNodesMoved.j0])
    | succ kj4 =>
      have H := HA.out
      clear HA
      simp only [laws_FnRangeNodesMoved.j0] at H
      by_cases c16 : x44_4 = true
      · subst c16
        have H1 : (some true) = some r := by rw [if_pos rfl] at H; exact H
        clear H
        have H := H1
        clear H1
        obtain rfl := Option.some.inj H
        go_wp2
        go_ret
        exact ⟨by first | rfl | (simp [errW_none, errW_some] <;> rfl) | (simp [*, errW_none, errW_some] <;> rfl), by repeat (first | (with_reducible first | exact HB.out | apply below_alloc | apply pw_below_drewN | apply below_drew1) | exact HB.out)⟩
      · replace c16 := Bool.eq_false_iff.mpr c16
        subst c16
        have H1 : ((impl_RangeNodes.f kj4 a0 a1 ([] : List (S28))).bind fun t146 => (laws_FnRangeNodesMoved.l0 kj4 a0 a1 a2 a3 t146 ([] : List (S28)) t146 (t146.length : Int) 0)) = some r := by rw [if_neg (show ¬ (false = true) by decide)] at H; exact H
        clear H
        have H := H1
        clear H1
        replace H := Option.bind_eq_some_iff.mp H
        obtain ⟨t146, A170, H⟩ := H
        replace H : (laws_FnRangeNodesMoved.l0 kj4 a0 a1 a2 a3 t146 ([] : List (S28)) t146 (t146.length : Int) 0) = some r := H
        have A17 := Aside0.mk A170
        clear A170
        have H' := Aside0.mk H
        clear H
        go_wp2_with (first | ((with_reducible refine gate_callee (f := 8) rfl ?_); refine goesL_ (some 47) rfl rfl Tryd.func8 (by kernel_rfl) rfl #[.int .u64 a0, .int .u64 a1, .slice none 0 0] rfl (by (try simp only [List.map_toArray, List.map_cons, List.map_nil]); first | done | rfl | (simp only [List.length_drop, List.length_take]; rfl)) ?_; (refine (impl_RangeNodes.calls kj4 a0 a1 _ _ ([] : List (S28)) t146 _ ?side1 ?side2 ?side3 A17.out).mono ?_); (case side1 => exact TabOK.below HT.out (by repeat (first | (with_reducible first | exact HB.out | apply below_alloc | apply pw_below_drewN | apply below_drew1) | exact HB.out))); (case side2 => exact Kd.C_nil _ _); (case side3 => exact Nat.le_refl _); rintro e w18 ⟨v147, rfl, ho0, hb⟩; refine ⟨_, rfl, ?_⟩; have n0_ := Aside0.mk (Kd.R_lower ho0 (below_size (by repeat (first | (with_reducible first | exact HB.out | apply below_alloc | apply pw_below_drewN | apply below_drew1) | exact HB.out)))); have n1_ := Aside0.mk (below_step (by repeat (first | (with_reducible first | exact HB.out | apply below_alloc | apply pw_below_drewN | apply below_drew1) | exact HB.out)) hb); clear HB; have HO148 := n0_; have HB := n1_; clear n0_ n1_; (try clear hb); (try clear hb2); (try clear hk); (try clear hi); (try clear ho0); obtain ⟨Ao19, co19, eo19⟩ := Kd.R_slice HO148.out; subst eo19))
        go_loopg [10, 50] kj4 (fun kq v10 v50 w' => ∃ (x10_2 : List (S28)) (x50_2 : Int), v50 = .int .i64 x50_2 ∧ Aside0 (laws_FnRangeNodesMoved.l0 kq a0 a1 a2 a3 t146 x10_2 t146 (t146.length : Int) x50_2 = some r) ∧ Aside0 (kq ≤ kj4) ∧ Aside0 (Kd.R k28 28 w' w.heap.size (fun k_ => some k_ ≠ (v10 : Value).ownBlock) (.slice Ao19 t146.length co19) t146) ∧ Aside0 (Kd.R k28 28 w' w.heap.size (fun k_ => some k_ ≠ ((.slice Ao19 t146.length co19) : Value).ownBlock ∧ some k_ ≠ ((.slice Ao19 t146.length co19) : Value).ownBlock) v10 x10_2) ∧ Aside0 (Kd.R k28 28 w' w.heap.size (fun k_ => some k_ ≠ (v10 : Value).ownBlock) (.slice Ao19 t146.length co19) t146) ∧ Aside0 (Below w.heap.size w w'))
        case atStart => exact ⟨(([] : List (S28))), (0), (by first | rfl | (simp; done) | (simp [*]; done)), H', ⟨Nat.le_refl _⟩, ⟨by (with_reducible repeat (first | apply Kd.R_alloc | apply Kd.R_drewN | apply Kd.R_drew)); exact Kd.R_mono HO148.out (fun _ hk => (by simp [Value.ownBlock]))⟩, ⟨by first | exact Kd.R_nil _ _ _ _ _ | exact Kd.N_nil _ _ _ _ _ | exact Kd.V_nil _ _ _ _ _ | exact Kd.Q_nil _ _ _ _ _ | exact Kd.S_nil _ _ _ _ _⟩, ⟨by (with_reducible repeat (first | apply Kd.R_alloc | apply Kd.R_drewN | apply Kd.R_drew)); exact Kd.R_mono HO148.out (fun _ hk => (by simp [Value.ownBlock]))⟩, ⟨by repeat (first | (with_reducible first | exact HB.out | apply below_alloc | apply pw_below_drewN | apply below_drew1) | exact HB.out)⟩⟩
        case round =>
          clear H'
          try clear c1
          try clear p2
          try clear c3
          try clear c6
          try clear c6b0
          try clear c7
          try clear c7b0
          try clear c8
          try clear c8b0
          try clear c9
          try clear c9b0
          try clear c9b1
          try clear c11
          try clear c11b0
          try clear c13
          try clear c14
          try clear c14b0
          try clear c16
          try clear p2
          obtain ⟨x10_2, x50_2, rfl, HA, HK2, HO_9, HO_10, HO_48, HB⟩ := hrel
          cases gk with
          | zero => exact absurd HA.out (by simp [laws_FnRangeNodesMoved.l0])
          | succ k2 =>
            have H := HA.out
            clear HA
            simp only [laws_FnRangeNodesMoved.l0] at H
            by_cases c20 : x50_2 < (t146.length : Int)
            · rw [if_pos c20] at H
              have c20b0 : decide (x50_2 < (t146.length : Int)) = true := decide_eq_true c20
              clear c20
              by_cases c21 : 0 ≤ x50_2
              · rw [if_pos c21] at H
                have c21b0 : decide (0 ≤ x50_2) = true := decide_eq_true c21
                clear c21
                by_cases c22 : x50_2 < (t146.length : Int)
                · rw [if_pos c22] at H
                  have c22b0 : decide (x50_2 < (t146.length : Int)) = true := decide_eq_true c22
                  clear c22
                  by_cases c23 : ((rd_T28 t146 x50_2).f0) > (IntKind.u64.wrap (a2))
                  · rw [if_pos c23] at H
                    have c23b0 : decide ((IntKind.u64.wrap (a2)) < ((rd_T28 t146 x50_2).f0)) = true := decide_eq_true c23
                    clear c23
                    obtain rfl := Option.some.inj H
                    have p149 : 0 ≤ (x50_2 : Int) := of_decide_eq_true (by first | (with_reducible assumption) | assumption)
                    have q149 : x50_2 < (t146.length : Int) := of_decide_eq_true (by first | (with_reducible assumption) | assumption)
                    obtain ⟨ad149, e149, hx149_0, hx149_1⟩ := at_T28 (Kd.R_reads' HO_48.out).2.2 x50_2 p149 q149
                    cases e149
                    replace p149 := eq_true p149
                    replace q149 := eq_true q149
                    go_wp2_with (first | ((with_reducible refine gate_dst (N := 12) rfl ?_); (try (refine gate_guard (by rfl) ?_; dsimp only)); refine box_event ?hg (N := 12) ?hd (cs := #[.int .u64 0, .int .u64 0]) (t := 28) ?hr ?_; (case hd => rfl); (case hg => rfl); (case hr => first | (go_simp; done) | (go_simp; rfl)); intro gb150 hg w24 hbox hb; have n0_ := Aside0.mk (Kd.R_below (Kd.R_elderB (by (with_reducible repeat (first | apply Kd.R_alloc | apply Kd.R_drewN | apply Kd.R_drew)); exact HO_9.out) gb150 (Nat.le_of_eq hg.symm)) hb); have n1_ := Aside0.mk (Kd.R_below (Kd.R_elderB (by (with_reducible repeat (first | apply Kd.R_alloc | apply Kd.R_drewN | apply Kd.R_drew)); exact HO_10.out) gb150 (Nat.le_of_eq hg.symm)) hb); have n2_ := Aside0.mk (Kd.R_below (Kd.R_elderB (by (with_reducible repeat (first | apply Kd.R_alloc | apply Kd.R_drewN | apply Kd.R_drew)); exact HO_48.out) gb150 (Nat.le_of_eq hg.symm)) hb); have n3_ := Aside0.mk (below_step (by repeat (first | (with_reducible first | exact HB.out | apply below_alloc | apply pw_below_drewN | apply below_drew1) | exact HB.out)) hb); have n4_ := Aside0.mk (hbox); have n5_ := Aside0.mk ((by rw [hg]; exact (below_size (by repeat (first | (with_reducible first | exact HB.out | apply below_alloc | apply pw_below_drewN | apply below_drew1) | exact HB.out))) : w.heap.size ≤ gb150)); have n6_ := Aside0.mk ((by rw [hg]; exact (below_size (by repeat (first | (with_reducible first | exact HB.out | apply below_alloc | apply pw_below_drewN | apply below_drew1) | exact HB.out))) : w.heap.size ≤ gb150)); clear HO_9; clear HO_10; clear HO_48; clear HB; have HO_9 := n0_; have HO_10 := n1_; have HO_48 := n2_; have HB := n3_; have BK150 := n4_; have GW150 := n5_; have GE150 := n6_; clear n0_ n1_ n2_ n3_ n4_ n5_ n6_; clear hb hbox hg; have hcz25_0 : w24.cell? ⟨gb150, 0, none⟩ = some (.int .u64 0) := (blk_cell BK150.out 0).trans rfl; have hcz25_1 : w24.cell? ⟨gb150, 1, none⟩ = some (.int .u64 0) := (blk_cell BK150.out 1).trans rfl; have hfz25_0 := blk_frozen BK150.out 0; have hfz25_1 := blk_frozen BK150.out 1))
                    go_ret
                    exact ⟨by first | rfl | (simp [errW_none, errW_some] <;> rfl) | (simp [*, errW_none, errW_some] <;> rfl), by repeat (first | (with_reducible first | exact HB.out | apply below_alloc | apply pw_below_drewN | apply below_drew1 | refine below_set ?_ GE150.out) | exact HB.out)⟩
                  · rw [if_neg c23] at H
                    have c23b0 : decide ((IntKind.u64.wrap (a2)) < ((rd_T28 t146 x50_2).f0)) = false := decide_eq_false c23
                    clear c23
                    by_cases c26 : 0 ≤ a2
                    · rw [if_pos c26] at H
                      have c26b0 := eq_true c26
                      have c26b1 : decide (0 ≤ a2) = true := decide_eq_true c26
                      clear c26
                      obtain ⟨ji27, hji27⟩ : ∃ j_ : Int, (shl .u64 a3 a2) = j_ := ⟨_, rfl⟩
                      replace H : (if 0 ≤ ((rd_T28 t146 x50_2).f0) then (if x10_2.length < 8796093022208 then (laws_FnRangeNodesMoved.l0 k2 a0 a1 a2 a3 t146 (x10_2 ++ [(⟨(rd_T28 t146 x50_2).f0, IntKind.u64.wrap (((rd_T28 t146 x50_2).f1) + (shr .u64 (ji27) ((rd_T28 t146 x50_2).f0)))⟩ : S28)]) t146 (t146.length : Int) (wrap64 (x50_2 + 1))) else (none)) else (none)) = some r := by first | (rw [hji27] at H; exact H) | (simp only [hji27] at H ⊢; exact H)
                      have hji27_ : (IntKind.u64.wrap (a3 * 2 ^ min a2.toNat 64)) = ji27 := hji27
                      have hji27z : a2 ≤ 64 → (IntKind.u64.wrap (a3 * 2 ^ a2.toNat)) = ji27 := shl_small hji27
                      by_cases c28 : 0 ≤ ((rd_T28 t146 x50_2).f0)
                      · rw [if_pos c28] at H
                        have c28b0 := eq_true c28
                        have c28b1 : decide (0 ≤ ((rd_T28 t146 x50_2).f0)) = true := decide_eq_true c28
                        clear c28
                        obtain ⟨ji29, hji29⟩ : ∃ j_ : Int, (shr .u64 (ji27) ((rd_T28 t146 x50_2).f0)) = j_ := ⟨_, rfl⟩
                        replace H : (if x10_2.length < 8796093022208 then (laws_FnRangeNodesMoved.l0 k2 a0 a1 a2 a3 t146 (x10_2 ++ [(⟨(rd_T28 t146 x50_2).f0, IntKind.u64.wrap (((rd_T28 t146 x50_2).f1) + (ji29))⟩ : S28)]) t146 (t146.length : Int) (wrap64 (x50_2 + 1))) else (none)) = some r := by first | (rw [hji29] at H; exact H) | (simp only [hji29] at H ⊢; exact H)
                        have hji29_ : ((ji27) / 2 ^ min ((rd_T28 t146 x50_2).f0).toNat 64) = ji29 := hji29
                        have hji29z : ((rd_T28 t146 x50_2).f0) ≤ 64 → ((ji27) / 2 ^ ((rd_T28 t146 x50_2).f0).toNat) = ji29 := shr_small hji29
                        by_cases c30 : x10_2.length < 8796093022208
                        · rw [if_pos c30] at H
                          have LMc30 := Aside0.mk c30
                          clear c30
                          obtain ⟨y151, hy151⟩ : ∃ y_ : List (S28), y_ = (x10_2 ++ [(⟨(rd_T28 t146 x50_2).f0, IntKind.u64.wrap (((rd_T28 t146 x50_2).f1) + (ji29))⟩ : S28)]) := ⟨_, rfl⟩
                          replace H : (laws_FnRangeNodesMoved.l0 k2 a0 a1 a2 a3 t146 y151 t146 (t146.length : Int) (wrap64 (x50_2 + 1))) = some r := by first | (rw [hy151]; with_reducible exact H) | (have H2_ := (Option.bind_some _ _).symm.trans H; rw [hy151]; with_reducible exact H2_) | (have H2_ := (Option.bind_some _ _).symm.trans H; with_reducible exact H2_) | with_reducible exact H | (rw [hy151]; exact H) | exact H
                          have Ny151 := Aside0.mk hy151
                          clear hy151
                          have H' := Aside0.mk H
                          clear H
                          have p149 : 0 ≤ (x50_2 : Int) := of_decide_eq_true (by first | (with_reducible assumption) | assumption)
                          have q149 : x50_2 < (t146.length : Int) := of_decide_eq_true (by first | (with_reducible assumption) | assumption)
                          obtain ⟨ad149, e149, hx149_0, hx149_1⟩ := at_T28 (Kd.R_reads' HO_48.out).2.2 x50_2 p149 q149
                          cases e149
                          replace p149 := eq_true p149
                          replace q149 := eq_true q149
                          try go_wp2_with (first | ((with_reducible refine gate_dst (N := 12) rfl ?_); (try (refine gate_guard (by rfl) ?_; dsimp only)); refine box_event ?hg (N := 12) ?hd (cs := #[.int .u64 0, .int .u64 0]) (t := 28) ?hr ?_; (case hd => rfl); (case hg => rfl); (case hr => first | (go_simp; done) | (go_simp; rfl)); intro gb150 hg w31 hbox hb; have n0_ := Aside0.mk (Kd.R_below (Kd.R_elderB (by (with_reducible repeat (first | apply Kd.R_alloc | apply Kd.R_drewN | apply Kd.R_drew)); exact HO_9.out) gb150 (Nat.le_of_eq hg.symm)) hb); have n1_ := Aside0.mk (Kd.R_below (Kd.R_elderB (by (with_reducible repeat (first | apply Kd.R_alloc | apply Kd.R_drewN | apply Kd.R_drew)); exact HO_10.out) gb150 (Nat.le_of_eq hg.symm)) hb); have n2_ := Aside0.mk (Kd.R_below (Kd.R_elderB (by (with_reducible repeat (first | apply Kd.R_alloc | apply Kd.R_drewN | apply Kd.R_drew)); exact HO_48.out) gb150 (Nat.le_of_eq hg.symm)) hb); have n3_ := Aside0.mk (below_step (by repeat (first | (with_reducible first | exact HB.out | apply below_alloc | apply pw_below_drewN | apply below_drew1) | exact HB.out)) hb); have n4_ := Aside0.mk (hbox); have n5_ := Aside0.mk ((by rw [hg]; exact (below_size (by repeat (first | (with_reducible first | exact HB.out | apply below_alloc | apply pw_below_drewN | apply below_drew1) | exact HB.out))) : w.heap.size ≤ gb150)); have n6_ := Aside0.mk ((by rw [hg]; exact (below_size (by repeat (first | (with_reducible first | exact HB.out | apply below_alloc | apply pw_below_drewN | apply below_drew1) | exact HB.out))) : w.heap.size ≤ gb150)); clear HO_9; clear HO_10; clear HO_48; clear HB; have HO_9 := n0_; have HO_10 := n1_; have HO_48 := n2_; have HB := n3_; have BK150 := n4_; have GW150 := n5_; have GE150 := n6_; clear n0_ n1_ n2_ n3_ n4_ n5_ n6_; clear hb hbox hg; have hcz32_0 : w31.cell? ⟨gb150, 0, none⟩ = some (.int .u64 0) := (blk_cell BK150.out 0).trans rfl; have hcz32_1 : w31.cell? ⟨gb150, 1, none⟩ = some (.int .u64 0) := (blk_cell BK150.out 1).trans rfl; have hfz32_0 := blk_frozen BK150.out 0; have hfz32_1 := blk_frozen BK150.out 1))
                          have n0_ : Aside0 (Kd.R k28 28 ((w31.setCell ⟨gb150, 0, none⟩ (.int .u64 ((rd_T28 t146 x50_2).f0))).setCell ⟨gb150, 1, none⟩ (.int .u64 ((rd_T28 t146 x50_2).f1))) w.heap.size (fun k_ => some k_ ≠ (u10 : Value).ownBlock ∧ k_ ≠ gb150) (.slice (some ad149) t146.length co19) t146) := ⟨by (with_reducible repeat (first | apply Kd.R_alloc | apply Kd.R_drewN | apply Kd.R_drew)); exact Kd.R_mono (Kd.R_far (p := ⟨gb150, 1, none⟩) (Kd.R_far (p := ⟨gb150, 0, none⟩) (Kd.R_mono HO_9.out (fun k_ hk => (⟨hk, hk.2⟩ : _ ∧ k_ ≠ gb150))) (fun _ hk => hk.2) (.int .u64 ((rd_T28 t146 x50_2).f0))) (fun _ hk => hk.2) (.int .u64 ((rd_T28 t146 x50_2).f1))) (fun _ hk => ⟨hk.1.1, hk.1.2⟩)⟩
                          have n1_ : Aside0 (Kd.R k28 28 ((w31.setCell ⟨gb150, 0, none⟩ (.int .u64 ((rd_T28 t146 x50_2).f0))).setCell ⟨gb150, 1, none⟩ (.int .u64 ((rd_T28 t146 x50_2).f1))) w.heap.size (fun k_ => some k_ ≠ (.slice (some ad149) t146.length co19 : Value).ownBlock ∧ some k_ ≠ (.slice (some ad149) t146.length co19 : Value).ownBlock ∧ k_ ≠ gb150) u10 x10_2) := ⟨by (with_reducible repeat (first | apply Kd.R_alloc | apply Kd.R_drewN | apply Kd.R_drew)); exact Kd.R_mono (Kd.R_far (p := ⟨gb150, 1, none⟩) (Kd.R_far (p := ⟨gb150, 0, none⟩) (Kd.R_mono HO_10.out (fun k_ hk => (⟨hk, hk.2⟩ : _ ∧ k_ ≠ gb150))) (fun _ hk => hk.2) (.int .u64 ((rd_T28 t146 x50_2).f0))) (fun _ hk => hk.2) (.int .u64 ((rd_T28 t146 x50_2).f1))) (fun _ hk => ⟨hk.1.1.1, ⟨hk.1.1.2, hk.1.2⟩⟩)⟩
                          have n2_ : Aside0 (Kd.R k28 28 ((w31.setCell ⟨gb150, 0, none⟩ (.int .u64 ((rd_T28 t146 x50_2).f0))).setCell ⟨gb150, 1, none⟩ (.int .u64 ((rd_T28 t146 x50_2).f1))) w.heap.size (fun k_ => some k_ ≠ (u10 : Value).ownBlock ∧ k_ ≠ gb150) (.slice (some ad149) t146.length co19) t146) := ⟨by (with_reducible repeat (first | apply Kd.R_alloc | apply Kd.R_drewN | apply Kd.R_drew)); exact Kd.R_mono (Kd.R_far (p := ⟨gb150, 1, none⟩) (Kd.R_far (p := ⟨gb150, 0, none⟩) (Kd.R_mono HO_48.out (fun k_ hk => (⟨hk, hk.2⟩ : _ ∧ k_ ≠ gb150))) (fun _ hk => hk.2) (.int .u64 ((rd_T28 t146 x50_2).f0))) (fun _ hk => hk.2) (.int .u64 ((rd_T28 t146 x50_2).f1))) (fun _ hk => ⟨hk.1.1, hk.1.2⟩)⟩
                          have n3_ : Aside0 (((w31.setCell ⟨gb150, 0, none⟩ (.int .u64 ((rd_T28 t146 x50_2).f0))).setCell ⟨gb150, 1, none⟩ (.int .u64 ((rd_T28 t146 x50_2).f1))).heap[gb150]? = some (.cells #[.int .u64 ((rd_T28 t146 x50_2).f0), .int .u64 ((rd_T28 t146 x50_2).f1)] 28 (0, 0))) := ⟨by (with_reducible repeat (first | refine blk_drewN ?_ _ | refine blk_drew ?_ | refine blk_alloc ?_ _)); refine blk_put (cs := #[.int .u64 ((rd_T28 t146 x50_2).f0), .int .u64 0]) ?_ 1 _ rfl; (with_reducible repeat (first | refine blk_drewN ?_ _ | refine blk_drew ?_ | refine blk_alloc ?_ _)); refine blk_put (cs := #[.int .u64 0, .int .u64 0]) ?_ 0 _ rfl; (with_reducible repeat (first | refine blk_drewN ?_ _ | refine blk_drew ?_ | refine blk_alloc ?_ _)); exact BK150.out⟩
                          have n4_ : Aside0 (Below w.heap.size w ((w31.setCell ⟨gb150, 0, none⟩ (.int .u64 ((rd_T28 t146 x50_2).f0))).setCell ⟨gb150, 1, none⟩ (.int .u64 ((rd_T28 t146 x50_2).f1)))) := ⟨by repeat (first | (with_reducible first | exact HB.out | apply below_alloc | apply pw_below_drewN | apply below_drew1 | refine below_set ?_ GE150.out) | exact HB.out)⟩
                          (try clear HO_9)
                          (try clear HO_10)
                          (try clear HO_48)
                          (try clear BK150)
                          (try clear HB)
                          generalize ((w31.setCell ⟨gb150, 0, none⟩ (.int .u64 ((rd_T28 t146 x50_2).f0))).setCell ⟨gb150, 1, none⟩ (.int .u64 ((rd_T28 t146 x50_2).f1))) = w33 at n0_ n1_ n2_ n3_ n4_ ⊢
                          have HO_9 := n0_
                          have HO_10 := n1_
                          have HO_48 := n2_
                          have BK150 := n3_
                          have HB := n4_
                          clear n0_ n1_ n2_ n3_ n4_
                          have n0_ := Aside0.mk (Kd.R_drew HO_9.out)
                          have n1_ := Aside0.mk (Kd.R_drew HO_10.out)
                          have n2_ := Aside0.mk (Kd.R_drew HO_48.out)
                          have n3_ := Aside0.mk (blk_drew BK150.out)
                          have n4_ := Aside0.mk (below_drew1 HB.out)
                          clear HO_9
                          clear HO_10
                          clear HO_48
                          clear BK150
                          clear HB
                          have HO_9 := n0_
                          have HO_10 := n1_
                          have HO_48 := n2_
                          have BK150 := n3_
                          have HB := n4_
                          clear n0_ n1_ n2_ n3_ n4_
                          refine start_ (n := 16) (S := fun w' => w'.cell? ⟨gb150, 0, none⟩ = some (.int .u64 ((rd_T28 t146 x50_2).f0)) ∧ w'.cell? ⟨gb150, 1, none⟩ = some (.int .u64 ((rd_T28 t146 x50_2).f1))) (ds := []) #[false, false, false, false, false, false, false, false, false, false, false, false, false, false, false, false] (by kernel_rfl) rfl rfl ⟨(blk_cell BK150.out 0).trans rfl, (blk_cell BK150.out 1).trans rfl⟩ (fun hHeld => ?_); refine with_tabW laws_FnRangeNodesMoved.tab10 laws_FnRangeNodesMoved.bits10 (fun HT_ HW_ => ?_)
                          generalize w33.drew = w34 at HO_9 HO_10 HO_48 BK150 HB hHeld ⊢
                          refine pure_ (i := 0) (N := some 59) (v := ?_) (a' := ?_) #[true, false, false, false, false, false, false, false, false, false, false, false, false, false, false, false] rfl rfl (any_of HT_.out (by kernel_rfl)) (fun _ _ _ h => h) (Or.inl ⟨by rfl, ?_⟩) ?_ ?_
                          rotate_left
                          · intro w'
                            go_simp
                            with_reducible rfl
                          rotate_left
                          · simp only [Act.put, List.setIfInBounds_toArray, List.set_cons_zero, List.set_cons_succ, i64_w, i32_w]
                            rfl
                          refine pure_ (i := 1) (N := some 60) (v := ?_) (a' := ?_) #[true, true, false, false, false, false, false, false, false, false, false, false, false, false, false, false] rfl rfl (any_of HT_.out (by kernel_rfl)) (fun _ _ _ h => h) (Or.inl ⟨by rfl, ?_⟩) ?_ ?_
                          rotate_left
                          · intro w'
                            go_simp
                            with_reducible rfl
                          rotate_left
                          · simp only [Act.put, List.setIfInBounds_toArray, List.set_cons_zero, List.set_cons_succ, i64_w, i32_w]
                            rfl
                          refine pure_ (i := 3) (N := some 62) (v := ?_) (a' := ?_) #[true, true, false, true, false, false, false, false, false, false, false, false, false, false, false, false] rfl rfl (any_of HT_.out (by kernel_rfl)) (fun _ _ _ h => h) (Or.inl ⟨by rfl, ?_⟩) ?_ ?_
                          rotate_left
                          · intro w'
                            go_simp
                            with_reducible rfl
                          rotate_left
                          · simp only [Act.put, List.setIfInBounds_toArray, List.set_cons_zero, List.set_cons_succ, i64_w, i32_w]
                            rfl
                          refine pure_ (i := 5) (N := some 64) (v := ?_) (a' := ?_) #[true, true, false, true, false, true, false, false, false, false, false, false, false, false, false, false] rfl rfl (any_of HT_.out (by kernel_rfl)) (fun _ _ _ h => h) (Or.inl ⟨by rfl, ?_⟩) ?_ ?_
                          rotate_left
                          · intro w'
                            go_simp
                            with_reducible rfl
                          rotate_left
                          · simp only [Act.put, List.setIfInBounds_toArray, List.set_cons_zero, List.set_cons_succ, i64_w, i32_w]
                            rfl
                          refine pure_ (i := 6) (N := some 65) (v := ?_) (a' := ?_) #[true, true, false, true, false, true, true, false, false, false, false, false, false, false, false, false] rfl rfl (any_of HT_.out (by kernel_rfl)) (fun _ _ _ h => h) (Or.inl ⟨by rfl, ?_⟩) ?_ ?_
                          rotate_left
                          · intro w'
                            go_simp
                            with_reducible rfl
                          rotate_left
                          · simp only [Act.put, List.setIfInBounds_toArray, List.set_cons_zero, List.set_cons_succ, i64_w, i32_w]
                            rfl
                          refine pure_ (i := 7) (N := some 66) (v := ?_) (a' := ?_) #[true, true, false, true, false, true, true, true, false, false, false, false, false, false, false, false] rfl rfl (any_of HT_.out (by kernel_rfl)) (fun _ _ _ h => h) (Or.inl ⟨by rfl, ?_⟩) ?_ ?_
                          rotate_left
                          · intro w'
                            go_simp
                            with_reducible rfl
                          rotate_left
                          · simp only [Act.put, List.setIfInBounds_toArray, List.set_cons_zero, List.set_cons_succ, i64_w, i32_w]
                            rfl
                          refine pure_ (i := 8) (N := some 67) (v := ?_) (a' := ?_) #[true, true, false, true, false, true, true, true, true, false, false, false, false, false, false, false] rfl rfl (any_of HT_.out (by kernel_rfl)) (fun _ _ _ h => h) (Or.inl ⟨by rfl, ?_⟩) ?_ ?_
                          rotate_left
                          · intro w'
                            go_simp
                            with_reducible rfl
                          rotate_left
                          · simp only [Act.put, List.setIfInBounds_toArray, List.set_cons_zero, List.set_cons_succ, i64_w, i32_w]
                            rfl
                          refine take_ (i := 2) (N := some 61) (v := ?_) (a' := ?_) #[true, true, true, true, false, true, true, true, true, false, false, false, false, false, false, false] rfl rfl (take_ofW HT_.out HW_.out (by kernel_rfl)) (fun _ _ _ h => h) (Or.inl ⟨by rfl, ?_⟩) hHeld ?_ ?_
                          rotate_left
                          · rintro w' ⟨s0, s1⟩
                            go_simp
                            with_reducible rfl
                          rotate_left
                          · simp only [Act.put, List.setIfInBounds_toArray, List.set_cons_zero, List.set_cons_succ, i64_w, i32_w]
                            rfl
                          refine take_ (i := 4) (N := some 63) (v := ?_) (a' := ?_) #[true, true, true, true, true, true, true, true, true, false, false, false, false, false, false, false] rfl rfl (take_ofW HT_.out HW_.out (by kernel_rfl)) (fun _ _ _ h => h) (Or.inl ⟨by rfl, ?_⟩) hHeld ?_ ?_
                          rotate_left
                          · rintro w' ⟨s0, s1⟩
                            go_simp
                            with_reducible rfl
                          rotate_left
                          · simp only [Act.put, List.setIfInBounds_toArray, List.set_cons_zero, List.set_cons_succ, i64_w, i32_w]
                            rfl
                          refine take_ (i := 9) (N := some 68) (v := ?_) (a' := ?_) #[true, true, true, true, true, true, true, true, true, true, false, false, false, false, false, false] rfl rfl (take_ofW HT_.out HW_.out (by kernel_rfl)) (fun _ _ _ h => h) (Or.inl ⟨by rfl, ?_⟩) hHeld ?_ ?_
                          rotate_left
                          · rintro w' ⟨s0, s1⟩
                            go_simp
                            with_reducible rfl
                          rotate_left
                          · simp only [Act.put, List.setIfInBounds_toArray, List.set_cons_zero, List.set_cons_succ, i64_w, i32_w]
                            rfl
                          refine pure_ (i := 10) (N := some 69) (v := ?_) (a' := ?_) #[true, true, true, true, true, true, true, true, true, true, true, false, false, false, false, false] rfl rfl (any_of HT_.out (by kernel_rfl)) (fun _ _ _ h => h) (Or.inl ⟨by rfl, ?_⟩) ?_ ?_
                          rotate_left
                          · intro w'
                            go_simp
                            with_reducible rfl
                          rotate_left
                          · simp only [Act.put, List.setIfInBounds_toArray, List.set_cons_zero, List.set_cons_succ, i64_w, i32_w]
                            rfl
                          refine pure_ (i := 11) (N := some 70) (v := ?_) (a' := ?_) #[true, true, true, true, true, true, true, true, true, true, true, true, false, false, false, false] rfl rfl (any_of HT_.out (by kernel_rfl)) (fun _ _ _ h => h) (Or.inl ⟨by rfl, ?_⟩) ?_ ?_
                          rotate_left
                          · intro w'
                            go_simp
                            with_reducible rfl
                          rotate_left
                          · simp only [Act.put, List.setIfInBounds_toArray, List.set_cons_zero, List.set_cons_succ, i64_w, i32_w]
                            rfl
                          refine pure_ (i := 12) (N := some 71) (v := ?_) (a' := ?_) #[true, true, true, true, true, true, true, true, true, true, true, true, true, false, false, false] rfl rfl (any_of HT_.out (by kernel_rfl)) (fun _ _ _ h => h) (Or.inl ⟨by rfl, ?_⟩) ?_ ?_
                          rotate_left
                          · intro w'
                            go_simp
                            with_reducible rfl
                          rotate_left
                          · simp only [Act.put, List.setIfInBounds_toArray, List.set_cons_zero, List.set_cons_succ, i64_w, i32_w]
                            rfl
                          refine one_ (i := 13) (N := some 72) #[true, true, true, true, true, true, true, true, true, true, true, true, true, true, false, false] rfl rfl (one_of HT_.out (by kernel_rfl)) (by decide) (fun K hK => ?_)
                          refine value_ (w1 := ?_) (v := ?_) (by rfl) rfl ?_ ?_
                          rotate_left 2
                          · go_simp
                            constructor
                            · rfl
                            · rfl
                          refine hK.out _ _ ⟨(blk_cell (blk_alloc BK150.out _) 0).trans rfl, (blk_cell (blk_alloc BK150.out _) 1).trans rfl⟩ (fun hHeld => ?_)
                          clear hK K
                          refine norm_ (a' := ?_) ?_ ?_
                          rotate_left
                          · show Act.put _ (some 72) _ = _
                            simp only [Act.put, List.setIfInBounds_toArray, List.set_cons_zero, List.set_cons_succ, i64_w, i32_w]
                            rfl
                          refine one_ (i := 14) (N := some 73) #[true, true, true, true, true, true, true, true, true, true, true, true, true, true, true, false] rfl rfl (one_of HT_.out (by kernel_rfl)) (by decide) (fun K hK => ?_)
                          refine Kd.R_append_step k28 (w0 := w) w.heap.size (by rfl) (.tmp 59) (.tmp 72) 24 28 (.agg #[(.int .u64 0), (.int .u64 0)]) 16 rfl Tryd.underlying24 info28 rfl (by decide) (by omega) u10 x10_2 (⟨(rd_T28 t146 x50_2).f0, IntKind.u64.wrap (((rd_T28 t146 x50_2).f1) + (ji29))⟩ : S28) [.int .u64 ((rd_T28 t146 x50_2).f0), .int .u64 (IntKind.u64.wrap (((rd_T28 t146 x50_2).f1) + (ji29)))] (fun k_ => some k_ ≠ (.slice (some ad149) t146.length co19 : Value).ownBlock ∧ some k_ ≠ (.slice (some ad149) t146.length co19 : Value).ownBlock ∧ k_ ≠ gb150) (fun _ => False) rfl rfl ?aP (fun _ hk => hk.elim) ?aF ?aO ?aB ?aS ?aL ?_
                          (case aP => exact k28_mkM _ _ _ (⟨(rd_T28 t146 x50_2).f0, IntKind.u64.wrap (((rd_T28 t146 x50_2).f1) + (ji29))⟩ : S28))
                          (case aB => exact (by repeat (first | (with_reducible first | exact HB.out | apply below_alloc | apply pw_below_drewN | apply below_drew1 | refine below_set ?_ GE150.out) | exact HB.out)))
                          (case aF => exact (fun k_ hk => ⟨Kd.fresh' (Kd.R_lt (by (with_reducible repeat (first | apply Kd.R_alloc | apply Kd.R_drewN | apply Kd.R_drew)); exact HO_9.out)) k_ hk, Kd.fresh' (Kd.R_lt (by (with_reducible repeat (first | apply Kd.R_alloc | apply Kd.R_drewN | apply Kd.R_drew)); exact HO_48.out)) k_ hk, Kd.freshB (g := gb150) (o := .cells #[.int .u64 ((rd_T28 t146 x50_2).f0), .int .u64 ((rd_T28 t146 x50_2).f1)] 28 (0, 0)) (by (with_reducible repeat (first | refine blk_drewN ?_ _ | refine blk_drew ?_ | refine blk_alloc ?_ _)); exact BK150.out) k_ hk⟩))
                          (case aO => exact (by (with_reducible repeat (first | apply Kd.R_alloc | apply Kd.R_drewN | apply Kd.R_drew)); exact HO_10.out))
                          (case aS => exact (below_size (by repeat (first | (with_reducible first | exact HB.out | apply below_alloc | apply pw_below_drewN | apply below_drew1 | refine below_set ?_ GE150.out) | exact HB.out))))
                          (case aL => have := LMc30.out; omega)
                          intro v152 w35 ho hb hg hat
                          rw [← Ny151.out] at ho
                          have n0_ := Aside0.mk (Kd.R_after (ok := (fun k_ => k_ ≠ gb150)) (by (with_reducible repeat (first | apply Kd.R_alloc | apply Kd.R_drewN | apply Kd.R_drew)); exact Kd.R_mono HO_9.out (fun _ hk => ⟨hk.2, hk.1⟩)) hg hat)
                          have n1_ := Aside0.mk (Kd.R_after (ok := (fun k_ => k_ ≠ gb150)) (by (with_reducible repeat (first | apply Kd.R_alloc | apply Kd.R_drewN | apply Kd.R_drew)); exact Kd.R_mono HO_48.out (fun _ hk => ⟨hk.2, hk.1⟩)) hg hat)
                          have n2_ := Aside0.mk (blk_grown (g := gb150) (o := .cells #[.int .u64 ((rd_T28 t146 x50_2).f0), .int .u64 ((rd_T28 t146 x50_2).f1)] 28 (0, 0)) (by (with_reducible repeat (first | refine blk_drewN ?_ _ | refine blk_drew ?_ | refine blk_alloc ?_ _)); exact BK150.out) hg (Kd.R_away HO_10.out (fun _ hk => hk.2.2)))
                          have n3_ := Aside0.mk (hb)
                          have n4_ := Aside0.mk (ho)
                          clear HO_9
                          clear HO_48
                          clear BK150
                          clear HB
                          clear HO_10
                          have HO_9 := n0_
                          have HO_48 := n1_
                          have BK150 := n2_
                          have HB := n3_
                          have HO153 := n4_
                          clear n0_ n1_ n2_ n3_ n4_
                          clear ho hb hg hat
                          refine hK.out _ _ ⟨(blk_cell BK150.out 0).trans rfl, (blk_cell BK150.out 1).trans rfl⟩ (fun hHeld => ?_)
                          clear hK K
                          refine norm_ (a' := ?_) ?_ ?_
                          rotate_left
                          · show Act.put _ (some 73) _ = _
                            simp only [Act.put, List.setIfInBounds_toArray, List.set_cons_zero, List.set_cons_succ, i64_w, i32_w]
                            rfl
                          refine pure_ (i := 15) (N := some 10) (v := ?_) (a' := ?_) #[true, true, true, true, true, true, true, true, true, true, true, true, true, true, true, true] rfl rfl (any_of HT_.out (by kernel_rfl)) (fun _ _ _ h => h) (Or.inl ⟨by rfl, ?_⟩) ?_ ?_
                          rotate_left
                          · intro w'
                            go_simp
                            with_reducible rfl
                          rotate_left
                          · simp only [Act.put, List.setIfInBounds_toArray, List.set_cons_zero, List.set_cons_succ, i64_w, i32_w]
                            rfl
                          refine done_ (done_of HT_.out (by kernel_rfl)) ?_
                          try go_wp2
                          go_roundg k2
                          case measure => have := HJ4.out; have := HK2.out; omega
                          case rel => exact ⟨(y151), (wrap64 (x50_2 + 1)), (by first | rfl | (simp; done) | (simp [*]; done)), H', ⟨by have := HJ4.out; have := HK2.out; omega⟩, ⟨by (with_reducible repeat (first | apply Kd.R_alloc | apply Kd.R_drewN | apply Kd.R_drew)); exact Kd.R_mono HO_9.out (fun _ hk => hk.2)⟩, ⟨by (with_reducible repeat (first | apply Kd.R_alloc | apply Kd.R_drewN | apply Kd.R_drew)); exact Kd.R_mono HO153.out (fun _ hk => ⟨hk.1, hk.2.1⟩)⟩, ⟨by (with_reducible repeat (first | apply Kd.R_alloc | apply Kd.R_drewN | apply Kd.R_drew)); exact Kd.R_mono HO_48.out (fun _ hk => hk.2)⟩, ⟨by repeat (first | (with_reducible first | exact HB.out | apply below_alloc | apply pw_below_drewN | apply below_drew1 | refine below_set ?_ GE150.out) | exact HB.out)⟩⟩
                        · rw [if_neg c30] at H
                          exact absurd H (by simp)
                      · rw [if_neg c28] at H
                        exact absurd H (by simp)
                    · rw [if_neg c26] at H
                      exact absurd H (by simp)
                · rw [if_neg c22] at H
                  exact absurd H (by simp)
              · rw [if_neg c21] at H
                exact absurd H (by simp)
            · rw [if_neg c20] at H
              have c20b0 : decide (x50_2 < (t146.length : Int)) = false := decide_eq_false c20
              clear c20
              by_cases c36 : 0 ≤ a2
              · rw [if_pos c36] at H
                have c36b0 := eq_true c36
                have c36b1 : decide (0 ≤ a2) = true := decide_eq_true c36
                clear c36
                obtain ⟨ji37, hji37⟩ : ∃ j_ : Int, (shl .u64 a3 a2) = j_ := ⟨_, rfl⟩
                replace H : ((impl_RangeNodes.f k2 (IntKind.u64.wrap ((ji37) + a0)) (IntKind.u64.wrap ((ji37) + a1)) ([] : List (S28))).bind fun t154 => ((spec_SameNodes.f k2 t154 x10_2).bind fun t157 => (if t157 = true then (some ((decide ((t146.length : Int) > 0)) == (decide (a0 < a1)))) else (some false)))) = some r := by first | (rw [hji37] at H; exact H) | (simp only [hji37] at H ⊢; exact H)
                have hji37_ : (IntKind.u64.wrap (a3 * 2 ^ min a2.toNat 64)) = ji37 := hji37
                have hji37z : a2 ≤ 64 → (IntKind.u64.wrap (a3 * 2 ^ a2.toNat)) = ji37 := shl_small hji37
                have c38b0 := eq_true (of_decide_eq_true (by first | (with_reducible assumption) | assumption) : 0 ≤ a2)
                replace H := Option.bind_eq_some_iff.mp H
                obtain ⟨t154, A390, H⟩ := H
                replace H : ((spec_SameNodes.f k2 t154 x10_2).bind fun t157 => (if t157 = true then (some ((decide ((t146.length : Int) > 0)) == (decide (a0 < a1)))) else (some false))) = some r := H
                have A39 := Aside0.mk A390
                clear A390
                replace H := Option.bind_eq_some_iff.mp H
                obtain ⟨t157, A400, H⟩ := H
                replace H : (if t157 = true then (some ((decide ((t146.length : Int) > 0)) == (decide (a0 < a1)))) else (some false)) = some r := H
                have A40 := Aside0.mk A400
                clear A400
                by_cases c41 : t157 = true
                · subst c41
                  have H1 : (some ((decide ((t146.length : Int) > 0)) == (decide (a0 < a1)))) = some r := by rw [if_pos rfl] at H; exact H
                  clear H
                  have H := H1
                  clear H1
                  obtain rfl := Option.some.inj H
                  try go_wp2
                  have n0_ := Aside0.mk (Kd.R_drew HO_9.out)
                  have n1_ := Aside0.mk (Kd.R_drew HO_10.out)
                  have n2_ := Aside0.mk (Kd.R_drew HO_48.out)
                  have n3_ := Aside0.mk (below_drew1 HB.out)
                  clear HO_9
                  clear HO_10
                  clear HO_48
                  clear HB
                  have HO_9 := n0_
                  have HO_10 := n1_
                  have HO_48 := n2_
                  have HB := n3_
                  clear n0_ n1_ n2_ n3_
                  refine start_ (n := 23) (S := fun w' => True) (ds := []) #[false, false, false, false, false, false, false, false, false, false, false, false, false, false, false, false, false, false, false, false, false, false, false] (by kernel_rfl) rfl rfl trivial (fun hHeld => ?_); refine with_tabW laws_FnRangeNodesMoved.tab12 laws_FnRangeNodesMoved.bits12 (fun HT_ HW_ => ?_)
                  generalize wr.drew = w42 at HO_9 HO_10 HO_48 HB hHeld ⊢
                  refine pure_ (i := 0) (N := some 75) (v := ?_) (a' := ?_) #[true, false, false, false, false, false, false, false, false, false, false, false, false, false, false, false, false, false, false, false, false, false, false] rfl rfl (any_of HT_.out (by kernel_rfl)) (fun _ _ _ h => h) (Or.inl ⟨by rfl, ?_⟩) ?_ ?_
                  rotate_left
                  · intro w'
                    go_simp
                    with_reducible rfl
                  rotate_left
                  · simp only [Act.put, List.setIfInBounds_toArray, List.set_cons_zero, List.set_cons_succ, i64_w, i32_w]
                    rfl
                  refine pure_ (i := 1) (N := some 76) (v := ?_) (a' := ?_) #[true, true, false, false, false, false, false, false, false, false, false, false, false, false, false, false, false, false, false, false, false, false, false] rfl rfl (any_of HT_.out (by kernel_rfl)) (fun _ _ _ h => h) (Or.inl ⟨by rfl, ?_⟩) ?_ ?_
                  rotate_left
                  · intro w'
                    go_simp
                    with_reducible rfl
                  rotate_left
                  · simp only [Act.put, List.setIfInBounds_toArray, List.set_cons_zero, List.set_cons_succ, i64_w, i32_w]
                    rfl
                  refine pure_ (i := 2) (N := some 77) (v := ?_) (a' := ?_) #[true, true, true, false, false, false, false, false, false, false, false, false, false, false, false, false, false, false, false, false, false, false, false] rfl rfl (any_of HT_.out (by kernel_rfl)) (fun _ _ _ h => h) (Or.inl ⟨by rfl, ?_⟩) ?_ ?_
                  rotate_left
                  · intro w'
                    go_simp
                    with_reducible rfl
                  rotate_left
                  · simp only [Act.put, List.setIfInBounds_toArray, List.set_cons_zero, List.set_cons_succ, i64_w, i32_w]
                    rfl
                  refine pure_ (i := 3) (N := some 78) (v := ?_) (a' := ?_) #[true, true, true, true, false, false, false, false, false, false, false, false, false, false, false, false, false, false, false, false, false, false, false] rfl rfl (any_of HT_.out (by kernel_rfl)) (fun _ _ _ h => h) (Or.inl ⟨by rfl, ?_⟩) ?_ ?_
                  rotate_left
                  · intro w'
                    go_simp
                    with_reducible rfl
                  rotate_left
                  · simp only [Act.put, List.setIfInBounds_toArray, List.set_cons_zero, List.set_cons_succ, i64_w, i32_w]
                    rfl
                  refine pure_ (i := 4) (N := some 79) (v := ?_) (a' := ?_) #[true, true, true, true, true, false, false, false, false, false, false, false, false, false, false, false, false, false, false, false, false, false, false] rfl rfl (any_of HT_.out (by kernel_rfl)) (fun _ _ _ h => h) (Or.inl ⟨by rfl, ?_⟩) ?_ ?_
                  rotate_left
                  · intro w'
                    go_simp
                    with_reducible rfl
                  rotate_left
                  · simp only [Act.put, List.setIfInBounds_toArray, List.set_cons_zero, List.set_cons_succ, i64_w, i32_w]
                    rfl
                  refine pure_ (i := 5) (N := some 80) (v := ?_) (a' := ?_) #[true, true, true, true, true, true, false, false, false, false, false, false, false, false, false, false, false, false, false, false, false, false, false] rfl rfl (any_of HT_.out (by kernel_rfl)) (fun _ _ _ h => h) (Or.inl ⟨by rfl, ?_⟩) ?_ ?_
                  rotate_left
                  · intro w'
                    go_simp
                    with_reducible rfl
                  rotate_left
                  · simp only [Act.put, List.setIfInBounds_toArray, List.set_cons_zero, List.set_cons_succ, i64_w, i32_w]
                    rfl
                  refine pure_ (i := 6) (N := some 81) (v := ?_) (a' := ?_) #[true, true, true, true, true, true, true, false, false, false, false, false, false, false, false, false, false, false, false, false, false, false, false] rfl rfl (any_of HT_.out (by kernel_rfl)) (fun _ _ _ h => h) (Or.inl ⟨by rfl, ?_⟩) ?_ ?_
                  rotate_left
                  · intro w'
                    go_simp
                    with_reducible rfl
                  rotate_left
                  · simp only [Act.put, List.setIfInBounds_toArray, List.set_cons_zero, List.set_cons_succ, i64_w, i32_w]
                    rfl
                  refine pure_ (i := 7) (N := some 82) (v := ?_) (a' := ?_) #[true, true, true, true, true, true, true, true, false, false, false, false, false, false, false, false, false, false, false, false, false, false, false] rfl rfl (any_of HT_.out (by kernel_rfl)) (fun _ _ _ h => h) (Or.inl ⟨by rfl, ?_⟩) ?_ ?_
                  rotate_left
                  · intro w'
                    go_simp
                    with_reducible rfl
                  rotate_left
                  · simp only [Act.put, List.setIfInBounds_toArray, List.set_cons_zero, List.set_cons_succ, i64_w, i32_w]
                    rfl
                  refine pure_ (i := 8) (N := some 83) (v := ?_) (a' := ?_) #[true, true, true, true, true, true, true, true, true, false, false, false, false, false, false, false, false, false, false, false, false, false, false] rfl rfl (any_of HT_.out (by kernel_rfl)) (fun _ _ _ h => h) (Or.inl ⟨by rfl, ?_⟩) ?_ ?_
                  rotate_left
                  · intro w'
                    go_simp
                    with_reducible rfl
                  rotate_left
                  · simp only [Act.put, List.setIfInBounds_toArray, List.set_cons_zero, List.set_cons_succ, i64_w, i32_w]
                    rfl
                  refine pure_ (i := 9) (N := some 84) (v := ?_) (a' := ?_) #[true, true, true, true, true, true, true, true, true, true, false, false, false, false, false, false, false, false, false, false, false, false, false] rfl rfl (any_of HT_.out (by kernel_rfl)) (fun _ _ _ h => h) (Or.inl ⟨by rfl, ?_⟩) ?_ ?_
                  rotate_left
                  · intro w'
                    go_simp
                    with_reducible rfl
                  rotate_left
                  · simp only [Act.put, List.setIfInBounds_toArray, List.set_cons_zero, List.set_cons_succ, i64_w, i32_w]
                    rfl
                  refine pure_ (i := 11) (N := some 86) (v := ?_) (a' := ?_) #[true, true, true, true, true, true, true, true, true, true, false, true, false, false, false, false, false, false, false, false, false, false, false] rfl rfl (any_of HT_.out (by kernel_rfl)) (fun _ _ _ h => h) (Or.inl ⟨by rfl, ?_⟩) ?_ ?_
                  rotate_left
                  · intro w'
                    go_simp
                    with_reducible rfl
                  rotate_left
                  · simp only [Act.put, List.setIfInBounds_toArray, List.set_cons_zero, List.set_cons_succ, i64_w, i32_w]
                    rfl
                  refine one_ (i := 10) (N := some 85) #[true, true, true, true, true, true, true, true, true, true, true, true, false, false, false, false, false, false, false, false, false, false, false] rfl rfl (one_of HT_.out (by kernel_rfl)) (by decide) (fun K hK => ?_)
                  refine goes_ Tryd.func8 (by kernel_rfl) rfl #[.int .u64 (IntKind.u64.wrap ((ji37) + a0)), .int .u64 (IntKind.u64.wrap ((ji37) + a1)), .slice none 0 0] (by rfl) rfl rfl (by (try simp only [List.map_toArray, List.map_cons, List.map_nil]); first | done | (simp only [hji37]; rfl) | rfl | (simp only [List.length_drop, List.length_take]; rfl)) ?_
                  refine (impl_RangeNodes.calls k2 (IntKind.u64.wrap ((ji37) + a0)) (IntKind.u64.wrap ((ji37) + a1)) _ _ ([] : List (S28)) t154 _ ?side1 ?side2 ?side3 A39.out).mono ?_
                  (case side1 => exact TabOK.below HT.out (by repeat (first | (with_reducible first | exact HB.out | apply below_alloc | apply pw_below_drewN | apply below_drew1) | exact HB.out)))
                  (case side2 => exact Kd.C_nil _ _)
                  (case side3 => exact Nat.le_refl _)
                  rintro e w43 ⟨v155, rfl, ho0, hb⟩
                  refine ⟨_, rfl, ?_⟩
                  have n0_ := Aside0.mk (Kd.R_elder' (by (with_reducible repeat (first | apply Kd.R_alloc | apply Kd.R_drewN | apply Kd.R_drew)); exact HO_9.out) (Kd.R_base ho0) hb)
                  have n1_ := Aside0.mk (Kd.R_elder' (by (with_reducible repeat (first | apply Kd.R_alloc | apply Kd.R_drewN | apply Kd.R_drew)); exact HO_10.out) (Kd.R_base ho0) hb)
                  have n2_ := Aside0.mk (Kd.R_elder' (by (with_reducible repeat (first | apply Kd.R_alloc | apply Kd.R_drewN | apply Kd.R_drew)); exact HO_48.out) (Kd.R_base ho0) hb)
                  have n3_ := Aside0.mk (Kd.R_lower (Kd.R_new' (Kd.R_new' (Kd.R_new' ho0 (Kd.R_lt (by (with_reducible repeat (first | apply Kd.R_alloc | apply Kd.R_drewN | apply Kd.R_drew)); exact HO_9.out))) (Kd.R_lt (by (with_reducible repeat (first | apply Kd.R_alloc | apply Kd.R_drewN | apply Kd.R_drew)); exact HO_10.out))) (Kd.R_lt (by (with_reducible repeat (first | apply Kd.R_alloc | apply Kd.R_drewN | apply Kd.R_drew)); exact HO_48.out))) (below_size (by repeat (first | (with_reducible first | exact HB.out | apply below_alloc | apply pw_below_drewN | apply below_drew1) | exact HB.out))))
                  have n4_ := Aside0.mk (below_step (by repeat (first | (with_reducible first | exact HB.out | apply below_alloc | apply pw_below_drewN | apply below_drew1) | exact HB.out)) hb)
                  clear HO_9
                  clear HO_10
                  clear HO_48
                  clear HB
                  have HO_9 := n0_
                  have HO_10 := n1_
                  have HO_48 := n2_
                  have HO156 := n3_
                  have HB := n4_
                  clear n0_ n1_ n2_ n3_ n4_
                  (try clear hb)
                  (try clear hb2)
                  (try clear hk)
                  (try clear hi)
                  (try clear ho0)
                  obtain ⟨Ao44, co44, eo44⟩ := Kd.R_slice HO156.out
                  (first | subst eo44 | (injection eo44 with f1_ f2_ f3_; have f4_ := f1_.symm; have f5_ := f3_.symm; clear f1_ f2_ f3_; subst f4_; subst f5_))
                  obtain ⟨Ao45, co45, eo45⟩ := Kd.R_slice HO_10.out
                  (first | subst eo45 | (injection eo45 with f1_ f2_ f3_; have f4_ := f1_.symm; have f5_ := f3_.symm; clear f1_ f2_ f3_; subst f4_; subst f5_))
                  refine hK.out _ _ trivial (fun hHeld => ?_)
                  clear hK K
                  refine norm_ (a' := ?_) ?_ ?_
                  rotate_left
                  · show Act.put _ (some 85) _ = _
                    simp only [Act.put, List.setIfInBounds_toArray, List.set_cons_zero, List.set_cons_succ, i64_w, i32_w]
                    rfl
                  refine one_ (i := 12) (N := some 87) #[true, true, true, true, true, true, true, true, true, true, true, true, true, false, false, false, false, false, false, false, false, false, false] rfl rfl (one_of HT_.out (by kernel_rfl)) (by decide) (fun K hK => ?_)
                  refine goes_ Tryd.func9 (by kernel_rfl) rfl #[.slice Ao44 t154.length co44, .slice Ao45 x10_2.length co45] (by rfl) rfl rfl (by (try simp only [List.map_toArray, List.map_cons, List.map_nil]); first | done | rfl | (simp only [List.length_drop, List.length_take]; rfl)) ?_
                  with_reducible refine (spec_SameNodes.calls k2 _ _ t154 _ _ x10_2 true _ ?side1 ?side2 ?side3 ?side4 A40.out).mono ?_
                  (case side1 => repeat (first | exact (Kd.R_reads' HO156.out).2.2 | (with_reducible refine Kd.C_alloc ?_ _) | (with_reducible refine Kd.C_drewN ?_ _) | (with_reducible refine Kd.C_drew ?_)))
                  (case side2 => exact (Kd.R_reads' HO156.out).2.1)
                  (case side3 => repeat (first | exact (Kd.R_reads' HO_10.out).2.2 | (with_reducible refine Kd.C_alloc ?_ _) | (with_reducible refine Kd.C_drewN ?_ _) | (with_reducible refine Kd.C_drew ?_)))
                  (case side4 => exact (Kd.R_reads' HO_10.out).2.1)
                  rintro e w' ⟨rfl, ⟨nd, rfl⟩⟩
                  refine ⟨_, rfl, ?_⟩
                  refine hK.out _ _ trivial (fun hHeld => ?_)
                  clear hK K
                  refine norm_ (a' := ?_) ?_ ?_
                  rotate_left
                  · show Act.put _ (some 87) _ = _
                    simp only [Act.put, List.setIfInBounds_toArray, List.set_cons_zero, List.set_cons_succ, i64_w, i32_w]
                    rfl
                  refine pure_ (i := 13) (N := some 88) (v := ?_) (a' := ?_) #[true, true, true, true, true, true, true, true, true, true, true, true, true, true, false, false, false, false, false, false, false, false, false] rfl rfl (any_of HT_.out (by kernel_rfl)) (fun _ _ _ h => h) (Or.inl ⟨by rfl, ?_⟩) ?_ ?_
                  rotate_left
                  · intro w'
                    go_simp
                    with_reducible rfl
                  rotate_left
                  · simp only [Act.put, List.setIfInBounds_toArray, List.set_cons_zero, List.set_cons_succ, i64_w, i32_w]
                    rfl
                  refine pure_ (i := 14) (N := some 89) (v := ?_) (a' := ?_) #[true, true, true, true, true, true, true, true, true, true, true, true, true, true, true, false, false, false, false, false, false, false, false] rfl rfl (any_of HT_.out (by kernel_rfl)) (fun _ _ _ h => h) (Or.inl ⟨by rfl, ?_⟩) ?_ ?_
                  rotate_left
                  · intro w'
                    go_simp
                    with_reducible rfl
                  rotate_left
                  · simp only [Act.put, List.setIfInBounds_toArray, List.set_cons_zero, List.set_cons_succ, i64_w, i32_w]
                    rfl
                  refine pure_ (i := 15) (N := some 90) (v := ?_) (a' := ?_) #[true, true, true, true, true, true, true, true, true, true, true, true, true, true, true, true, false, false, false, false, false, false, false] rfl rfl (any_of HT_.out (by kernel_rfl)) (fun _ _ _ h => h) (Or.inl ⟨by rfl, ?_⟩) ?_ ?_
                  rotate_left
                  · intro w'
                    go_simp
                    with_reducible rfl
                  rotate_left
                  · simp only [Act.put, List.setIfInBounds_toArray, List.set_cons_zero, List.set_cons_succ, i64_w, i32_w]
                    rfl
                  refine pure_ (i := 16) (N := some 91) (v := ?_) (a' := ?_) #[true, true, true, true, true, true, true, true, true, true, true, true, true, true, true, true, true, false, false, false, false, false, false] rfl rfl (any_of HT_.out (by kernel_rfl)) (fun _ _ _ h => h) (Or.inl ⟨by rfl, ?_⟩) ?_ ?_
                  rotate_left
                  · intro w'
                    go_simp
                    with_reducible rfl
                  rotate_left
                  · simp only [Act.put, List.setIfInBounds_toArray, List.set_cons_zero, List.set_cons_succ, i64_w, i32_w]
                    rfl
                  refine pure_ (i := 17) (N := some 92) (v := ?_) (a' := ?_) #[true, true, true, true, true, true, true, true, true, true, true, true, true, true, true, true, true, true, false, false, false, false, false] rfl rfl (any_of HT_.out (by kernel_rfl)) (fun _ _ _ h => h) (Or.inl ⟨by rfl, ?_⟩) ?_ ?_
                  rotate_left
                  · intro w'
                    go_simp
                    with_reducible rfl
                  rotate_left
                  · simp only [Act.put, List.setIfInBounds_toArray, List.set_cons_zero, List.set_cons_succ, i64_w, i32_w]
                    rfl
                  refine pure_ (i := 18) (N := some 93) (v := ?_) (a' := ?_) #[true, true, true, true, true, true, true, true, true, true, true, true, true, true, true, true, true, true, true, false, false, false, false] rfl rfl (any_of HT_.out (by kernel_rfl)) (fun _ _ _ h => h) (Or.inl ⟨by rfl, ?_⟩) ?_ ?_
                  rotate_left
                  · intro w'
                    go_simp
                    with_reducible rfl
                  rotate_left
                  · simp only [Act.put, List.setIfInBounds_toArray, List.set_cons_zero, List.set_cons_succ, i64_w, i32_w]
                    rfl
                  refine pure_ (i := 19) (N := some 94) (v := ?_) (a' := ?_) #[true, true, true, true, true, true, true, true, true, true, true, true, true, true, true, true, true, true, true, true, false, false, false] rfl rfl (any_of HT_.out (by kernel_rfl)) (fun _ _ _ h => h) (Or.inl ⟨by rfl, ?_⟩) ?_ ?_
                  rotate_left
                  · intro w'
                    go_simp
                    with_reducible rfl
                  rotate_left
                  · simp only [Act.put, List.setIfInBounds_toArray, List.set_cons_zero, List.set_cons_succ, i64_w, i32_w]
                    rfl
                  refine pure_ (i := 20) (N := some 95) (v := ?_) (a' := ?_) #[true, true, true, true, true, true, true, true, true, true, true, true, true, true, true, true, true, true, true, true, true, false, false] rfl rfl (any_of HT_.out (by kernel_rfl)) (fun _ _ _ h => h) (Or.inl ⟨by rfl, ?_⟩) ?_ ?_
                  rotate_left
                  · intro w'
                    go_simp
                    with_reducible rfl
                  rotate_left
                  · simp only [Act.put, List.setIfInBounds_toArray, List.set_cons_zero, List.set_cons_succ, i64_w, i32_w]
                    rfl
                  refine pure_ (i := 21) (N := some 96) (v := ?_) (a' := ?_) #[true, true, true, true, true, true, true, true, true, true, true, true, true, true, true, true, true, true, true, true, true, true, false] rfl rfl (any_of HT_.out (by kernel_rfl)) (fun _ _ _ h => h) (Or.inl ⟨by rfl, ?_⟩) ?_ ?_
                  rotate_left
                  · intro w'
                    go_simp
                    with_reducible rfl
                  rotate_left
                  · simp only [Act.put, List.setIfInBounds_toArray, List.set_cons_zero, List.set_cons_succ, i64_w, i32_w]
                    rfl
                  refine pure_ (i := 22) (N := some 8) (v := ?_) (a' := ?_) #[true, true, true, true, true, true, true, true, true, true, true, true, true, true, true, true, true, true, true, true, true, true, true] rfl rfl (any_of HT_.out (by kernel_rfl)) (fun _ _ _ h => h) (Or.inl ⟨by rfl, ?_⟩) ?_ ?_
                  rotate_left
                  · intro w'
                    go_simp
                    with_reducible rfl
                  rotate_left
                  · simp only [Act.put, List.setIfInBounds_toArray, List.set_cons_zero, List.set_cons_succ, i64_w, i32_w]
                    rfl
                  refine done_ (done_of HT_.out (by kernel_rfl)) ?_
                  try go_wp2
                  go_ret
                  exact ⟨by first | rfl | (simp [errW_none, errW_some] <;> rfl) | (simp only [← hji37]; first | rfl | (simp [errW_none, errW_some] <;> rfl)) | (simp [*, errW_none, errW_some] <;> rfl), by repeat (first | (with_reducible first | exact HB.out | apply below_alloc | apply pw_below_drewN | apply below_drew1) | exact HB.out)⟩
                · replace c41 := Bool.eq_false_iff.mpr c41
                  subst c41
                  have H1 : (some false) = some r := by rw [if_neg (show ¬ (false = true) by decide)] at H; exact H
                  clear H
                  have H := H1
                  clear H1
                  obtain rfl := Option.some.inj H
                  try go_wp2
                  have n0_ := Aside0.mk (Kd.R_drew HO_9.out)
                  have n1_ := Aside0.mk (Kd.R_drew HO_10.out)
                  have n2_ := Aside0.mk (Kd.R_drew HO_48.out)
                  have n3_ := Aside0.mk (below_drew1 HB.out)
                  clear HO_9
                  clear HO_10
                  clear HO_48
                  clear HB
                  have HO_9 := n0_
                  have HO_10 := n1_
                  have HO_48 := n2_
                  have HB := n3_
                  clear n0_ n1_ n2_ n3_
                  refine start_ (n := 23) (S := fun w' => True) (ds := []) #[false, false, false, false, false, false, false, false, false, false, false, false, false, false, false, false, false, false, false, false, false, false, false] (by kernel_rfl) rfl rfl trivial (fun hHeld => ?_); refine with_tabW laws_FnRangeNodesMoved.tab12 laws_FnRangeNodesMoved.bits12 (fun HT_ HW_ => ?_)
                  generalize wr.drew = w46 at HO_9 HO_10 HO_48 HB hHeld ⊢
                  refine pure_ (i := 0) (N := some 75) (v := ?_) (a' := ?_) #[true, false, false, false, false, false, false, false, false, false, false, false, false, false, false, false, false, false, false, false, false, false, false] rfl rfl (any_of HT_.out (by kernel_rfl)) (fun _ _ _ h => h) (Or.inl ⟨by rfl, ?_⟩) ?_ ?_
                  rotate_left
                  · intro w'
                    go_simp
                    with_reducible rfl
                  rotate_left
                  · simp only [Act.put, List.setIfInBounds_toArray, List.set_cons_zero, List.set_cons_succ, i64_w, i32_w]
                    rfl
                  refine pure_ (i := 1) (N := some 76) (v := ?_) (a' := ?_) #[true, true, false, false, false, false, false, false, false, false, false, false, false, false, false, false, false, false, false, false, false, false, false] rfl rfl (any_of HT_.out (by kernel_rfl)) (fun _ _ _ h => h) (Or.inl ⟨by rfl, ?_⟩) ?_ ?_
                  rotate_left
                  · intro w'
                    go_simp
                    with_reducible rfl
                  rotate_left
                  · simp only [Act.put, List.setIfInBounds_toArray, List.set_cons_zero, List.set_cons_succ, i64_w, i32_w]
                    rfl
                  refine pure_ (i := 2) (N := some 77) (v := ?_) (a' := ?_) #[true, true, true, false, false, false, false, false, false, false, false, false, false, false, false, false, false, false, false, false, false, false, false] rfl rfl (any_of HT_.out (by kernel_rfl)) (fun _ _ _ h => h) (Or.inl ⟨by rfl, ?_⟩) ?_ ?_
                  rotate_left
                  · intro w'
                    go_simp
                    with_reducible rfl
                  rotate_left
                  · simp only [Act.put, List.setIfInBounds_toArray, List.set_cons_zero, List.set_cons_succ, i64_w, i32_w]
                    rfl
                  refine pure_ (i := 3) (N := some 78) (v := ?_) (a' := ?_) #[true, true, true, true, false, false, false, false, false, false, false, false, false, false, false, false, false, false, false, false, false, false, false] rfl rfl (any_of HT_.out (by kernel_rfl)) (fun _ _ _ h => h) (Or.inl ⟨by rfl, ?_⟩) ?_ ?_
                  rotate_left
                  · intro w'
                    go_simp
                    with_reducible rfl
                  rotate_left
                  · simp only [Act.put, List.setIfInBounds_toArray, List.set_cons_zero, List.set_cons_succ, i64_w, i32_w]
                    rfl
                  refine pure_ (i := 4) (N := some 79) (v := ?_) (a' := ?_) #[true, true, true, true, true, false, false, false, false, false, false, false, false, false, false, false, false, false, false, false, false, false, false] rfl rfl (any_of HT_.out (by kernel_rfl)) (fun _ _ _ h => h) (Or.inl ⟨by rfl, ?_⟩) ?_ ?_
                  rotate_left
                  · intro w'
                    go_simp
                    with_reducible rfl
                  rotate_left
                  · simp only [Act.put, List.setIfInBounds_toArray, List.set_cons_zero, List.set_cons_succ, i64_w, i32_w]
                    rfl
                  refine pure_ (i := 5) (N := some 80) (v := ?_) (a' := ?_) #[true, true, true, true, true, true, false, false, false, false, false, false, false, false, false, false, false, false, false, false, false, false, false] rfl rfl (any_of HT_.out (by kernel_rfl)) (fun _ _ _ h => h) (Or.inl ⟨by rfl, ?_⟩) ?_ ?_
                  rotate_left
                  · intro w'
                    go_simp
                    with_reducible rfl
                  rotate_left
                  · simp only [Act.put, List.setIfInBounds_toArray, List.set_cons_zero, List.set_cons_succ, i64_w, i32_w]
                    rfl
                  refine pure_ (i := 6) (N := some 81) (v := ?_) (a' := ?_) #[true, true, true, true, true, true, true, false, false, false, false, false, false, false, false, false, false, false, false, false, false, false, false] rfl rfl (any_of HT_.out (by kernel_rfl)) (fun _ _ _ h => h) (Or.inl ⟨by rfl, ?_⟩) ?_ ?_
                  rotate_left
                  · intro w'
                    go_simp
                    with_reducible rfl
                  rotate_left
                  · simp only [Act.put, List.setIfInBounds_toArray, List.set_cons_zero, List.set_cons_succ, i64_w, i32_w]
                    rfl
                  refine pure_ (i := 7) (N := some 82) (v := ?_) (a' := ?_) #[true, true, true, true, true, true, true, true, false, false, false, false, false, false, false, false, false, false, false, false, false, false, false] rfl rfl (any_of HT_.out (by kernel_rfl)) (fun _ _ _ h => h) (Or.inl ⟨by rfl, ?_⟩) ?_ ?_
                  rotate_left
                  · intro w'
                    go_simp
                    with_reducible rfl
                  rotate_left
                  · simp only [Act.put, List.setIfInBounds_toArray, List.set_cons_zero, List.set_cons_succ, i64_w, i32_w]
                    rfl
                  refine pure_ (i := 8) (N := some 83) (v := ?_) (a' := ?_) #[true, true, true, true, true, true, true, true, true, false, false, false, false, false, false, false, false, false, false, false, false, false, false] rfl rfl (any_of HT_.out (by kernel_rfl)) (fun _ _ _ h => h) (Or.inl ⟨by rfl, ?_⟩) ?_ ?_
                  rotate_left
                  · intro w'
                    go_simp
                    with_reducible rfl
                  rotate_left
                  · simp only [Act.put, List.setIfInBounds_toArray, List.set_cons_zero, List.set_cons_succ, i64_w, i32_w]
                    rfl
                  refine pure_ (i := 9) (N := some 84) (v := ?_) (a' := ?_) #[true, true, true, true, true, true, true, true, true, true, false, false, false, false, false, false, false, false, false, false, false, false, false] rfl rfl (any_of HT_.out (by kernel_rfl)) (fun _ _ _ h => h) (Or.inl ⟨by rfl, ?_⟩) ?_ ?_
                  rotate_left
                  · intro w'
                    go_simp
                    with_reducible rfl
                  rotate_left
                  · simp only [Act.put, List.setIfInBounds_toArray, List.set_cons_zero, List.set_cons_succ, i64_w, i32_w]
                    rfl
                  refine pure_ (i := 11) (N := some 86) (v := ?_) (a' := ?_) #[true, true, true, true, true, true, true, true, true, true, false, true, false, false, false, false, false, false, false, false, false, false, false] rfl rfl (any_of HT_.out (by kernel_rfl)) (fun _ _ _ h => h) (Or.inl ⟨by rfl, ?_⟩) ?_ ?_
                  rotate_left
                  · intro w'
                    go_simp
                    with_reducible rfl
                  rotate_left
                  · simp only [Act.put, List.setIfInBounds_toArray, List.set_cons_zero, List.set_cons_succ, i64_w, i32_w]
                    rfl
                  refine one_ (i := 10) (N := some 85) #[true, true, true, true, true, true, true, true, true, true, true, true, false, false, false, false, false, false, false, false, false, false, false] rfl rfl (one_of HT_.out (by kernel_rfl)) (by decide) (fun K hK => ?_)
                  refine goes_ Tryd.func8 (by kernel_rfl) rfl #[.int .u64 (IntKind.u64.wrap ((ji37) + a0)), .int .u64 (IntKind.u64.wrap ((ji37) + a1)), .slice none 0 0] (by rfl) rfl rfl (by (try simp only [List.map_toArray, List.map_cons, List.map_nil]); first | done | (simp only [hji37]; rfl) | rfl | (simp only [List.length_drop, List.length_take]; rfl)) ?_
                  refine (impl_RangeNodes.calls k2 (IntKind.u64.wrap ((ji37) + a0)) (IntKind.u64.wrap ((ji37) + a1)) _ _ ([] : List (S28)) t154 _ ?side1 ?side2 ?side3 A39.out).mono ?_
                  (case side1 => exact TabOK.below HT.out (by repeat (first | (with_reducible first | exact HB.out | apply below_alloc | apply pw_below_drewN | apply below_drew1) | exact HB.out)))
                  (case side2 => exact Kd.C_nil _ _)
                  (case side3 => exact Nat.le_refl _)
                  rintro e w47 ⟨v155, rfl, ho0, hb⟩
                  refine ⟨_, rfl, ?_⟩
                  have n0_ := Aside0.mk (Kd.R_elder' (by (with_reducible repeat (first | apply Kd.R_alloc | apply Kd.R_drewN | apply Kd.R_drew)); exact HO_9.out) (Kd.R_base ho0) hb)
                  have n1_ := Aside0.mk (Kd.R_elder' (by (with_reducible repeat (first | apply Kd.R_alloc | apply Kd.R_drewN | apply Kd.R_drew)); exact HO_10.out) (Kd.R_base ho0) hb)
                  have n2_ := Aside0.mk (Kd.R_elder' (by (with_reducible repeat (first | apply Kd.R_alloc | apply Kd.R_drewN | apply Kd.R_drew)); exact HO_48.out) (Kd.R_base ho0) hb)
                  have n3_ := Aside0.mk (Kd.R_lower (Kd.R_new' (Kd.R_new' (Kd.R_new' ho0 (Kd.R_lt (by (with_reducible repeat (first | apply Kd.R_alloc | apply Kd.R_drewN | apply Kd.R_drew)); exact HO_9.out))) (Kd.R_lt (by (with_reducible repeat (first | apply Kd.R_alloc | apply Kd.R_drewN | apply Kd.R_drew)); exact HO_10.out))) (Kd.R_lt (by (with_reducible repeat (first | apply Kd.R_alloc | apply Kd.R_drewN | apply Kd.R_drew)); exact HO_48.out))) (below_size (by repeat (first | (with_reducible first | exact HB.out | apply below_alloc | apply pw_below_drewN | apply below_drew1) | exact HB.out))))
                  have n4_ := Aside0.mk (below_step (by repeat (first | (with_reducible first | exact HB.out | apply below_alloc | apply pw_below_drewN | apply below_drew1) | exact HB.out)) hb)
                  clear HO_9
                  clear HO_10
                  clear HO_48
                  clear HB
                  have HO_9 := n0_
                  have HO_10 := n1_
                  have HO_48 := n2_
                  have HO156 := n3_
                  have HB := n4_
                  clear n0_ n1_ n2_ n3_ n4_
                  (try clear hb)
                  (try clear hb2)
                  (try clear hk)
                  (try clear hi)
                  (try clear ho0)
                  obtain ⟨Ao48, co48, eo48⟩ := Kd.R_slice HO156.out
                  (first | subst eo48 | (injection eo48 with f1_ f2_ f3_; have f4_ := f1_.symm; have f5_ := f3_.symm; clear f1_ f2_ f3_; subst f4_; subst f5_))
                  obtain ⟨Ao49, co49, eo49⟩ := Kd.R_slice HO_10.out
                  (first | subst eo49 | (injection eo49 with f1_ f2_ f3_; have f4_ := f1_.symm; have f5_ := f3_.symm; clear f1_ f2_ f3_; subst f4_; subst f5_))
                  refine hK.out _ _ trivial (fun hHeld => ?_)
                  clear hK K
                  refine norm_ (a' := ?_) ?_ ?_
                  rotate_left
                  · show Act.put _ (some 85) _ = _
                    simp only [Act.put, List.setIfInBounds_toArray, List.set_cons_zero, List.set_cons_succ, i64_w, i32_w]
                    rfl
                  refine one_ (i := 12) (N := some 87) #[true, true, true, true, true, true, true, true, true, true, true, true, true, false, false, false, false, false, false, false, false, false, false] rfl rfl (one_of HT_.out (by kernel_rfl)) (by decide) (fun K hK => ?_)
                  refine goes_ Tryd.func9 (by kernel_rfl) rfl #[.slice Ao48 t154.length co48, .slice Ao49 x10_2.length co49] (by rfl) rfl rfl (by (try simp only [List.map_toArray, List.map_cons, List.map_nil]); first | done | rfl | (simp only [List.length_drop, List.length_take]; rfl)) ?_
                  with_reducible refine (spec_SameNodes.calls k2 _ _ t154 _ _ x10_2 false _ ?side1 ?side2 ?side3 ?side4 A40.out).mono ?_
                  (case side1 => repeat (first | exact (Kd.R_reads' HO156.out).2.2 | (with_reducible refine Kd.C_alloc ?_ _) | (with_reducible refine Kd.C_drewN ?_ _) | (with_reducible refine Kd.C_drew ?_)))
                  (case side2 => exact (Kd.R_reads' HO156.out).2.1)
                  (case side3 => repeat (first | exact (Kd.R_reads' HO_10.out).2.2 | (with_reducible refine Kd.C_alloc ?_ _) | (with_reducible refine Kd.C_drewN ?_ _) | (with_reducible refine Kd.C_drew ?_)))
                  (case side4 => exact (Kd.R_reads' HO_10.out).2.1)
                  rintro e w' ⟨rfl, ⟨nd, rfl⟩⟩
                  refine ⟨_, rfl, ?_⟩
                  refine hK.out _ _ trivial (fun hHeld => ?_)
                  clear hK K
                  refine norm_ (a' := ?_) ?_ ?_
                  rotate_left
                  · show Act.put _ (some 87) _ = _
                    simp only [Act.put, List.setIfInBounds_toArray, List.set_cons_zero, List.set_cons_succ, i64_w, i32_w]
                    rfl
                  refine pure_ (i := 13) (N := some 88) (v := ?_) (a' := ?_) #[true, true, true, true, true, true, true, true, true, true, true, true, true, true, false, false, false, false, false, false, false, false, false] rfl rfl (any_of HT_.out (by kernel_rfl)) (fun _ _ _ h => h) (Or.inl ⟨by rfl, ?_⟩) ?_ ?_
                  rotate_left
                  · intro w'
                    go_simp
                    with_reducible rfl
                  rotate_left
                  · simp only [Act.put, List.setIfInBounds_toArray, List.set_cons_zero, List.set_cons_succ, i64_w, i32_w]
                    rfl
                  refine pure_ (i := 14) (N := some 89) (v := undef) (a' := ?_) #[true, true, true, true, true, true, true, true, true, true, true, true, true, true, true, false, false, false, false, false, false, false, false] rfl rfl (any_of HT_.out (by kernel_rfl)) (fun _ _ _ h => h) (Or.inr ⟨by rfl, rfl⟩) ?_ ?_
                  rotate_left
                  · simp only [Act.put, List.setIfInBounds_toArray, List.set_cons_zero, List.set_cons_succ, i64_w, i32_w]
                    rfl
                  refine pure_ (i := 15) (N := some 90) (v := undef) (a' := ?_) #[true, true, true, true, true, true, true, true, true, true, true, true, true, true, true, true, false, false, false, false, false, false, false] rfl rfl (any_of HT_.out (by kernel_rfl)) (fun _ _ _ h => h) (Or.inr ⟨by rfl, rfl⟩) ?_ ?_
                  rotate_left
                  · simp only [Act.put, List.setIfInBounds_toArray, List.set_cons_zero, List.set_cons_succ, i64_w, i32_w]
                    rfl
                  refine pure_ (i := 16) (N := some 91) (v := undef) (a' := ?_) #[true, true, true, true, true, true, true, true, true, true, true, true, true, true, true, true, true, false, false, false, false, false, false] rfl rfl (any_of HT_.out (by kernel_rfl)) (fun _ _ _ h => h) (Or.inr ⟨by rfl, rfl⟩) ?_ ?_
                  rotate_left
                  · simp only [Act.put, List.setIfInBounds_toArray, List.set_cons_zero, List.set_cons_succ, i64_w, i32_w]
                    rfl
                  refine pure_ (i := 17) (N := some 92) (v := undef) (a' := ?_) #[true, true, true, true, true, true, true, true, true, true, true, true, true, true, true, true, true, true, false, false, false, false, false] rfl rfl (any_of HT_.out (by kernel_rfl)) (fun _ _ _ h => h) (Or.inr ⟨by rfl, rfl⟩) ?_ ?_
                  rotate_left
                  · simp only [Act.put, List.setIfInBounds_toArray, List.set_cons_zero, List.set_cons_succ, i64_w, i32_w]
                    rfl
                  refine pure_ (i := 18) (N := some 93) (v := undef) (a' := ?_) #[true, true, true, true, true, true, true, true, true, true, true, true, true, true, true, true, true, true, true, false, false, false, false] rfl rfl (any_of HT_.out (by kernel_rfl)) (fun _ _ _ h => h) (Or.inr ⟨by rfl, rfl⟩) ?_ ?_
                  rotate_left
                  · simp only [Act.put, List.setIfInBounds_toArray, List.set_cons_zero, List.set_cons_succ, i64_w, i32_w]
                    rfl
                  refine pure_ (i := 19) (N := some 94) (v := undef) (a' := ?_) #[true, true, true, true, true, true, true, true, true, true, true, true, true, true, true, true, true, true, true, true, false, false, false] rfl rfl (any_of HT_.out (by kernel_rfl)) (fun _ _ _ h => h) (Or.inr ⟨by rfl, rfl⟩) ?_ ?_
                  rotate_left
                  · simp only [Act.put, List.setIfInBounds_toArray, List.set_cons_zero, List.set_cons_succ, i64_w, i32_w]
                    rfl
                  refine pure_ (i := 20) (N := some 95) (v := undef) (a' := ?_) #[true, true, true, true, true, true, true, true, true, true, true, true, true, true, true, true, true, true, true, true, true, false, false] rfl rfl (any_of HT_.out (by kernel_rfl)) (fun _ _ _ h => h) (Or.inr ⟨by rfl, rfl⟩) ?_ ?_
                  rotate_left
                  · simp only [Act.put, List.setIfInBounds_toArray, List.set_cons_zero, List.set_cons_succ, i64_w, i32_w]
                    rfl
                  refine pure_ (i := 21) (N := some 96) (v := ?_) (a' := ?_) #[true, true, true, true, true, true, true, true, true, true, true, true, true, true, true, true, true, true, true, true, true, true, false] rfl rfl (any_of HT_.out (by kernel_rfl)) (fun _ _ _ h => h) (Or.inl ⟨by rfl, ?_⟩) ?_ ?_
                  rotate_left
                  · intro w'
                    go_simp
                    with_reducible rfl
                  rotate_left
                  · simp only [Act.put, List.setIfInBounds_toArray, List.set_cons_zero, List.set_cons_succ, i64_w, i32_w]
                    rfl
                  refine pure_ (i := 22) (N := some 8) (v := ?_) (a' := ?_) #[true, true, true, true, true, true, true, true, true, true, true, true, true, true, true, true, true, true, true, true, true, true, true] rfl rfl (any_of HT_.out (by kernel_rfl)) (fun _ _ _ h => h) (Or.inl ⟨by rfl, ?_⟩) ?_ ?_
                  rotate_left
                  · intro w'
                    go_simp
                    with_reducible rfl
                  rotate_left
                  · simp only [Act.put, List.setIfInBounds_toArray, List.set_cons_zero, List.set_cons_succ, i64_w, i32_w]
                    rfl
                  refine done_ (done_of HT_.out (by kernel_rfl)) ?_
                  try go_wp2
                  go_ret
                  exact ⟨by first | rfl | (simp [errW_none, errW_some] <;> rfl) | (simp only [← hji37]; first | rfl | (simp [errW_none, errW_some] <;> rfl)) | (simp [*, errW_none, errW_some] <;> rfl), by repeat (first | (with_reducible first | exact HB.out | apply below_alloc | apply pw_below_drewN | apply below_drew1) | exact HB.out)⟩
              · rw [if_neg c36] at H
                exact absurd H (by simp)

end Go.Proofs.YtkkkaegocinkeaaDoor.Q
