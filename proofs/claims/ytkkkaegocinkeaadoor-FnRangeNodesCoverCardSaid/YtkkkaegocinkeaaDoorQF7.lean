-- Written by a program of ours (wip/xp) out of the translation; Lean checks it.
import Derived.Test.YtkkkaegocinkeaaDoorQ0
namespace Go.Proofs.YtkkkaegocinkeaaDoor.Q
open Go.RowKit Go.Proofs.YtkkkaegocinkeaaDoorW.PrintWords Go.Proofs.YtkkkaegocinkeaaDoorW.PrintLast Go.Proofs.YtkkkaegocinkeaaDoorW.PrintMore
attribute [local go_sem] max2_int min2_int max_two min_two max_three min_three max_four min_four   -- for this text's walks alone
set_option linter.unusedVariables false
set_option linter.unusedSimpArgs false

/-! ### laws_scalable: function 7 -/
def laws_scalable.f (a0 : Int) (a1 : Int) : Option (Bool) := if a1 ≥ 0 then (if a1 ≤ 63 then (if 0 ≤ a1 then (some ((shr .u64 (shl .u64 a0 a1) a1) == a0)) else (none)) else (some false)) else (some false)
set_option maxHeartbeats 8000000 in
set_option maxRecDepth 100000 in
theorem laws_scalable.calls (a0 : Int) (a1 : Int) (r : Bool) (w : World) (h : laws_scalable.f a0 a1 = some r) :
    Calls Tryd.prog 7 #[.int .u64 a0, .int .i64 a1] w fun e w' => e = .returned (.bool r) ∧ Drawn0 w w' := by
  have H : (if a1 ≥ 0 then (if a1 ≤ 63 then (if 0 ≤ a1 then (some ((shr .u64 (shl .u64 a0 a1) a1) == a0)) else (none)) else (some false)) else (some false)) = some r := h
  clear h
  by_cases c3 : a1 ≥ 0
  · rw [if_pos c3] at H
    have c3b0 : decide (0 ≤ a1) = true := decide_eq_true c3
    clear c3
    by_cases c4 : a1 ≤ 63
    · rw [if_pos c4] at H
      have c4b0 : decide (a1 ≤ 63) = true := decide_eq_true c4
      clear c4
      by_cases c5 : 0 ≤ a1
      · rw [if_pos c5] at H
        have c5b0 := eq_true c5
        have c5b1 : decide (0 ≤ a1) = true := decide_eq_true c5
        clear c5
        obtain ⟨ji6, hji6⟩ : ∃ j_ : Int, (shl .u64 a0 a1) = j_ := ⟨_, rfl⟩
        replace H : (some ((shr .u64 (ji6) a1) == a0)) = some r := by first | (rw [hji6] at H; exact H) | (simp only [hji6] at H ⊢; exact H)
        have hji6_ : (IntKind.u64.wrap (a0 * 2 ^ min a1.toNat 64)) = ji6 := hji6
        have hji6z : a1 ≤ 64 → (IntKind.u64.wrap (a0 * 2 ^ a1.toNat)) = ji6 := shl_small hji6
        have c7b0 := eq_true (of_decide_eq_true (by first | (with_reducible assumption) | assumption) : 0 ≤ a1)
        obtain ⟨ji8, hji8⟩ : ∃ j_ : Int, (shr .u64 (ji6) a1) = j_ := ⟨_, rfl⟩
        replace H : (some ((ji8) == a0)) = some r := by first | (rw [hji8] at H; exact H) | (simp only [hji8] at H ⊢; exact H)
        have hji8_ : ((ji6) / 2 ^ min a1.toNat 64) = ji8 := hji8
        have hji8z : a1 ≤ 64 → ((ji6) / 2 ^ a1.toNat) = ji8 := shr_small hji8
        obtain rfl := Option.some.inj H
        go_enter Tryd.func7, Tryd.ntmps7
        go_wp2
        go_ret
        exact ⟨by first | rfl | (simp; done) | (simp only [← hji6, ← hji8] <;> (first | rfl | simp)) | (simp [*]; done), by repeat (first | exact Drawn0.refl _ | apply Drawn0.step)⟩
      · rw [if_neg c5] at H
        exact absurd H (by simp)
    · rw [if_neg c4] at H
      have c4b0 : decide (a1 ≤ 63) = false := decide_eq_false c4
      clear c4
      obtain rfl := Option.some.inj H
      go_enter Tryd.func7, Tryd.ntmps7
      go_wp2
      go_ret
      exact ⟨by first | rfl | (simp; done) | (simp [*]; done), by repeat (first | exact Drawn0.refl _ | apply Drawn0.step)⟩
  · rw [if_neg c3] at H
    have c3b0 : decide (0 ≤ a1) = false := decide_eq_false c3
    clear c3
    obtain rfl := Option.some.inj H
    go_enter Tryd.func7, Tryd.ntmps7
    go_wp2
    go_ret
    exact ⟨by first | rfl | (simp; done) | (simp [*]; done), by repeat (first | exact Drawn0.refl _ | apply Drawn0.step)⟩

end Go.Proofs.YtkkkaegocinkeaaDoor.Q
