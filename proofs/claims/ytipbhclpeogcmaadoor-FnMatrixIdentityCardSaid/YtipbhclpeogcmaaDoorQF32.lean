-- Written by a program of ours (wip/xp) out of the translation; Lean checks it.
import Derived.Test.YtipbhclpeogcmaaDoorQ0
namespace Go.Proofs.YtipbhclpeogcmaaDoor.Q
open Go.RowKit Go.Proofs.YtipbhclpeogcmaaDoorW.PrintWords Go.Proofs.YtipbhclpeogcmaaDoorW.PrintLast Go.Proofs.YtipbhclpeogcmaaDoorW.PrintMore
attribute [local go_sem] max2_int min2_int max_two min_two max_three min_three max_four min_four   -- for this text's walks alone
set_option linter.unusedVariables false
set_option linter.unusedSimpArgs false

/-! ### spec_remainder: function 32 -/
def spec_remainder.l0 : Nat → Int → Int → Int → Int → Option (Int)
  | 0, _, _, _, _ => none
  | k + 1, x0, x1, x2, x7 => if x7 ≥ x2 then (if 0 ≤ x7 then (if (Go.bits .and .u64 (shr .u64 x0 x7) 1) = 1 then (if 0 ≤ (wrap64 (x7 - x2)) then (spec_remainder.l0 k (Go.bits .xor .u64 x0 (shl .u64 x1 (wrap64 (x7 - x2)))) x1 x2 (wrap64 (x7 - 1))) else (none)) else (spec_remainder.l0 k x0 x1 x2 (wrap64 (x7 - 1)))) else (none)) else (some x0)
def spec_remainder.f (k : Nat) (a0 : Int) (a1 : Int) (a2 : Int) : Option (Int) := spec_remainder.l0 k a0 a1 a2 63
theorem spec_remainder.mono_l : ∀ k, (∀ y0 y1 y2 y3, LeO (spec_remainder.l0 k y0 y1 y2 y3) (spec_remainder.l0 (k + 1) y0 y1 y2 y3))
  | 0 => fun _ _ _ _ r h => by simp [spec_remainder.l0] at h
  | k + 1 => by
    have ih0 := spec_remainder.mono_l k
    · intro y0 y1 y2 y3
      unfold spec_remainder.l0
      repeat' first
      | (with_reducible exact ih0 _ _ _ _)
      | (with_reducible exact LeO.refl _)
      | (with_reducible exact LeO.none _)
      | (with_reducible refine LeO.ite ?_ ?_)
      | (with_reducible refine LeO.bind ?_ (fun _ => ?_))
      | exact ih0 _ _ _ _
      | exact LeO.none _
      | refine LeO.ite ?_ ?_
      | refine LeO.bind ?_ (fun _ => ?_)
theorem spec_remainder.mono : ∀ a0 a1 a2 k, LeO (spec_remainder.f k a0 a1 a2) (spec_remainder.f (k + 1) a0 a1 a2) := by
  intro a0 a1 a2 k
  have ih0 := spec_remainder.mono_l k
  unfold spec_remainder.f
  repeat' first
      | (with_reducible exact ih0 _ _ _ _)
      | (with_reducible exact LeO.refl _)
      | (with_reducible exact LeO.none _)
      | (with_reducible refine LeO.ite ?_ ?_)
      | (with_reducible refine LeO.bind ?_ (fun _ => ?_))
      | exact ih0 _ _ _ _
      | exact LeO.none _
      | refine LeO.ite ?_ ?_
      | refine LeO.bind ?_ (fun _ => ?_)
set_option maxHeartbeats 8000000 in
set_option maxRecDepth 100000 in
theorem spec_remainder.calls (k : Nat) (a0 : Int) (a1 : Int) (a2 : Int) (r : Int) (w : World) (h : spec_remainder.f k a0 a1 a2 = some r) :
    Calls Tryd.prog 32 #[.int .u64 a0, .int .u64 a1, .int .i64 a2] w fun e w' => e = .returned (.int .u64 r) ∧ Drawn0 w w' := by
  have H : (spec_remainder.l0 k a0 a1 a2 63) = some r := h
  clear h
  have H' := Aside0.mk H
  clear H
  go_enter Tryd.func32, Tryd.ntmps32
  go_wp2
  go_loopg [0, 7] k (fun kq v0 v7 w' => ∃ (x0_1 : Int) (x7_1 : Int), v0 = .int .u64 x0_1 ∧ v7 = .int .i64 x7_1 ∧ Aside0 (spec_remainder.l0 kq x0_1 a1 a2 x7_1 = some r) ∧ Aside0 (kq ≤ k) ∧ Drawn0 w w')
  case atStart => exact ⟨(a0), (63), (by first | rfl | (simp; done) | (simp [*]; done)), (by first | rfl | (simp; done) | (simp [*]; done)), H', ⟨Nat.le_refl _⟩, by repeat (first | exact Drawn0.refl _ | apply Drawn0.step)⟩
  case round =>
    clear H'
    try clear p2
    try clear c3
    obtain ⟨x0_1, x7_1, rfl, rfl, HA, HK1, ⟨m1, rfl⟩⟩ := hrel
    cases gk with
    | zero => exact absurd HA.out (by simp [spec_remainder.l0])
    | succ k1 =>
      have H := HA.out
      clear HA
      simp only [spec_remainder.l0] at H
      by_cases c4 : x7_1 ≥ a2
      · rw [if_pos c4] at H
        have c4b0 : decide (a2 ≤ x7_1) = true := decide_eq_true c4
        clear c4
        by_cases c5 : 0 ≤ x7_1
        · rw [if_pos c5] at H
          have c5b0 := eq_true c5
          have c5b1 : decide (0 ≤ x7_1) = true := decide_eq_true c5
          clear c5
          obtain ⟨ji6, hji6⟩ : ∃ j_ : Int, (shr .u64 x0_1 x7_1) = j_ := ⟨_, rfl⟩
          replace H : (if (Go.bits .and .u64 (ji6) 1) = 1 then (if 0 ≤ (wrap64 (x7_1 - a2)) then (spec_remainder.l0 k1 (Go.bits .xor .u64 x0_1 (shl .u64 a1 (wrap64 (x7_1 - a2)))) a1 a2 (wrap64 (x7_1 - 1))) else (none)) else (spec_remainder.l0 k1 x0_1 a1 a2 (wrap64 (x7_1 - 1)))) = some r := by first | (rw [hji6] at H; exact H) | (simp only [hji6] at H ⊢; exact H)
          have hji6_ : (x0_1 / 2 ^ min x7_1.toNat 64) = ji6 := hji6
          have hji6z : x7_1 ≤ 64 → (x0_1 / 2 ^ x7_1.toNat) = ji6 := shr_small hji6
          by_cases c7 : (Go.bits .and .u64 (ji6) 1) = 1
          · rw [if_pos c7] at H
            have c7b0 : ((Go.bits .and .u64 (ji6) 1) == 1) = true := beq_iff_eq.mpr c7
            have c7b1 : ((Go.bits .and .u64 (ji6) 1) != 1) = false := bne_eq_false_iff_eq.mpr c7
            clear c7
            obtain ⟨ji8, hji8⟩ : ∃ j_ : Int, (wrap64 (x7_1 - a2)) = j_ := ⟨_, rfl⟩
            replace H : (if 0 ≤ (ji8) then (spec_remainder.l0 k1 (Go.bits .xor .u64 x0_1 (shl .u64 a1 (ji8))) a1 a2 (wrap64 (x7_1 - 1))) else (none)) = some r := by first | (rw [hji8] at H; exact H) | (simp only [hji8] at H ⊢; exact H)
            have hji8w : (IntKind.i64.wrap (x7_1 - a2)) = ji8 := (i64_w _).trans hji8
            by_cases c9 : 0 ≤ (ji8)
            · rw [if_pos c9] at H
              have c9b0 := eq_true c9
              have c9b1 : decide (0 ≤ (ji8)) = true := decide_eq_true c9
              clear c9
              obtain ⟨ji10, hji10⟩ : ∃ j_ : Int, (shl .u64 a1 (ji8)) = j_ := ⟨_, rfl⟩
              replace H : (spec_remainder.l0 k1 (Go.bits .xor .u64 x0_1 (ji10)) a1 a2 (wrap64 (x7_1 - 1))) = some r := by first | (rw [hji10] at H; exact H) | (simp only [hji10] at H ⊢; exact H)
              have hji10_ : (IntKind.u64.wrap (a1 * 2 ^ min (ji8).toNat 64)) = ji10 := hji10
              have hji10z : (ji8) ≤ 64 → (IntKind.u64.wrap (a1 * 2 ^ (ji8).toNat)) = ji10 := shl_small hji10
              have H' := Aside0.mk H
              clear H
              go_wp2
              go_roundg k1
              case measure => have := HK1.out; omega
              case rel => exact ⟨(Go.bits .xor .u64 x0_1 (ji10)), (wrap64 (x7_1 - 1)), (by first | rfl | (simp; done) | (simp only [← hji10] <;> (first | rfl | simp)) | (simp [*]; done)), (by first | rfl | (simp; done) | (simp [*]; done)), H', ⟨by have := HK1.out; omega⟩, by repeat (first | exact Drawn0.refl _ | apply Drawn0.step)⟩
            · rw [if_neg c9] at H
              exact absurd H (by simp)
          · rw [if_neg c7] at H
            have c7b0 : ((Go.bits .and .u64 (ji6) 1) == 1) = false := beq_eq_false_iff_ne.mpr c7
            have c7b1 : ((Go.bits .and .u64 (ji6) 1) != 1) = true := bne_iff_ne.mpr c7
            have H' := Aside0.mk H
            clear H
            go_wp2
            go_roundg k1
            case measure => have := HK1.out; omega
            case rel => exact ⟨(x0_1), (wrap64 (x7_1 - 1)), (by first | rfl | (simp; done) | (simp [*]; done)), (by first | rfl | (simp; done) | (simp [*]; done)), H', ⟨by have := HK1.out; omega⟩, by repeat (first | exact Drawn0.refl _ | apply Drawn0.step)⟩
        · rw [if_neg c5] at H
          exact absurd H (by simp)
      · rw [if_neg c4] at H
        have c4b0 : decide (a2 ≤ x7_1) = false := decide_eq_false c4
        clear c4
        obtain rfl := Option.some.inj H
        go_wp2
        go_ret
        exact ⟨by first | rfl | (simp; done) | (simp [*]; done), by repeat (first | exact Drawn0.refl _ | apply Drawn0.step)⟩

end Go.Proofs.YtipbhclpeogcmaaDoor.Q
