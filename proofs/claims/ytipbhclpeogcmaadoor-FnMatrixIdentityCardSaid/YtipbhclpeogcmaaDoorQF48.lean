-- Written by a program of ours (wip/xp) out of the translation; Lean checks it.
import Derived.Test.YtipbhclpeogcmaaDoorQ0
namespace Go.Proofs.YtipbhclpeogcmaaDoor.Q
open Go.RowKit Go.Proofs.YtipbhclpeogcmaaDoorW.PrintWords Go.Proofs.YtipbhclpeogcmaaDoorW.PrintLast Go.Proofs.YtipbhclpeogcmaaDoorW.PrintMore
attribute [local go_sem] max2_int min2_int max_two min_two max_three min_three max_four min_four   -- for this text's walks alone
set_option linter.unusedVariables false
set_option linter.unusedSimpArgs false

/-! ### reedsolomon_galExp: function 48 -/
set_option maxRecDepth 100000 in
theorem reedsolomon_galExp.main (a n x z p : Nat) (ha : a < 256) (hx : x < 256) (_ : n ≤ 100000) (h1 : ((a : Int) == 0) = false) (h2 : ((n : Int) == 0) = false) (w : World)
    (hp : (x : Int) * (n : Int) = (p : Int)) (hp2 : p ≤ 25600000)
    (ca : w.cell? ⟨2, a, none⟩ = some (.int .u8 x)) (cc : w.cell? ⟨3, p % 255, none⟩ = some (.int .u8 z)) :
    Calls Tryd.prog 48 #[.int .u8 a, .int .i64 n] w fun e w' => e = .returned (.int .u8 z) ∧ Drawn0 w w' := by
  go_enter Tryd.func48, Tryd.ntmps48
  go_wp2_with (simp only [hp])
  go_loop [6] (fun i => ∃ k : Nat, k ≤ p ∧ k % 255 = p % 255 ∧ i = .int .i64 k) (fun i => (intOf i).toNat)
  case atStart => exact ⟨p, Nat.le_refl _, rfl, rfl⟩
  case round =>
    obtain ⟨k, hk, hm, rfl⟩ := hrel
    by_cases hlt : 255 ≤ k
    · go_wp2
      go_round
      case rel => exact ⟨k - 255, by omega, by omega, by go_num⟩
      case measure => simp [intOf]; omega
    · obtain rfl : k = p % 255 := by omega
      go_wp2
      go_ret
      exact ⟨rfl, Drawn0.refl _⟩
theorem reedsolomon_galExp.nought (a n : Nat) (h : n = 0 ∨ a = 0) (w : World) :
    Calls Tryd.prog 48 #[.int .u8 a, .int .i64 n] w fun e w' => e = .returned (.int .u8 ((if n = 0 then 1 else 0 : Nat))) ∧ Drawn0 w w' := by
  by_cases h0 : n = 0
  · subst h0
    rw [if_pos rfl]
    go_enter Tryd.func48, Tryd.ntmps48
    go_wp2
    go_ret
    exact ⟨rfl, Drawn0.refl _⟩
  · obtain rfl : a = 0 := by omega
    rw [if_neg h0]
    have h1 : ((n : Int) == 0) = false := by rw [beq_eq_false_iff_ne]; omega
    clear h h0
    go_enter Tryd.func48, Tryd.ntmps48
    go_wp2
    go_ret
    exact ⟨rfl, Drawn0.refl _⟩
theorem reedsolomon_galExp.any (a n : Nat) (ha : a < 256) (hn : n ≤ 100000) (w : World) (hT : TabOK w) :
    Calls Tryd.prog 48 #[.int .u8 a, .int .i64 n] w fun e w' => e = .returned (.int .u8 (Field.ge a n : Nat)) ∧ Drawn0 w w' := by
  unfold Field.ge
  by_cases h0 : n = 0 ∨ a = 0
  · have h := reedsolomon_galExp.nought a n h0 w
    by_cases hz : n = 0
    · rw [if_pos hz] at h ⊢; exact h
    · rw [if_neg hz] at h ⊢; rw [if_pos (by omega)]; exact h
  · rw [if_neg (by omega), if_neg (by omega)]
    have k1 := Field.lg_lt ⟨a, ha⟩
    dsimp only at k1
    have hp : Field.lg a * n ≤ 256 * 100000 := Nat.mul_le_mul (by omega) hn
    exact reedsolomon_galExp.main a n _ _ (Field.lg a * n) ha k1 hn (by rw [beq_eq_false_iff_ne]; omega) (by rw [beq_eq_false_iff_ne]; omega) w (by rw [Int.natCast_mul]) hp (hT.lg a ha) (hT.ex _ (by omega))
def reedsolomon_galExp.f (a0 a1 : Int) : Option Int := if 0 ≤ a0 ∧ a0 ≤ 255 ∧ 0 ≤ a1 ∧ a1 ≤ 100000 then some (Field.ge a0.toNat a1.toNat : Int) else none
theorem reedsolomon_galExp.calls (a0 a1 : Int) (r : Int) (w : World) (hT : TabOK w) (h : reedsolomon_galExp.f a0 a1 = some r) :
    Calls Tryd.prog 48 #[.int .u8 a0, .int .i64 a1] w fun e w' => e = .returned (.int .u8 r) ∧ Drawn0 w w' := by
  unfold reedsolomon_galExp.f at h
  split at h
  · rename_i hc
    injection h with h
    subst h
    obtain ⟨x, rfl⟩ : ∃ x : Nat, a0 = (x : Int) := ⟨a0.toNat, by omega⟩
    obtain ⟨y, rfl⟩ : ∃ y : Nat, a1 = (y : Int) := ⟨a1.toNat, by omega⟩
    rw [Int.toNat_natCast, Int.toNat_natCast]
    exact reedsolomon_galExp.any x y (by omega) (by omega) w hT
  · cases h

end Go.Proofs.YtipbhclpeogcmaaDoor.Q
