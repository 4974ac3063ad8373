-- Written by a program of ours (wip/xp) out of the translation; Lean checks it.
import Derived.Test.YtipbhclpeogcmaaDoorQ0
namespace Go.Proofs.YtipbhclpeogcmaaDoor.Q
open Go.RowKit Go.Proofs.YtipbhclpeogcmaaDoorW.PrintWords Go.Proofs.YtipbhclpeogcmaaDoorW.PrintLast Go.Proofs.YtipbhclpeogcmaaDoorW.PrintMore
attribute [local go_sem] max2_int min2_int max_two min_two max_three min_three max_four min_four   -- for this text's walks alone
set_option linter.unusedVariables false
set_option linter.unusedSimpArgs false

/-! ### reedsolomon_galMultiply: function 47 -/
theorem reedsolomon_galMultiply.zero (a b : Nat) (ha : a < 256) (hb : b < 256) (h : a = 0 ∨ b = 0) (w : World) :
    Calls Tryd.prog 47 #[.int .u8 a, .int .u8 b] w fun e w' => e = .returned (.int .u8 0) ∧ Drawn0 w w' := by
  by_cases h0 : a = 0
  · subst h0
    go_enter Tryd.func47, Tryd.ntmps47
    go_wp2
    go_ret
    exact ⟨rfl, Drawn0.refl _⟩
  · obtain rfl : b = 0 := by omega
    have h1 : ((a : Int) == 0) = false := by rw [beq_eq_false_iff_ne]; omega
    go_enter Tryd.func47, Tryd.ntmps47
    go_wp2
    go_ret
    exact ⟨rfl, Drawn0.refl _⟩
set_option maxRecDepth 100000 in
theorem reedsolomon_galMultiply.small (a b x y z : Nat) (ha : a < 256) (hb : b < 256) (hx : x < 256) (hy : y < 256) (h1 : ((a : Int) == 0) = false) (h2 : ((b : Int) == 0) = false) (hs : x + y < 255) (w : World)
    (ca : w.cell? ⟨2, a, none⟩ = some (.int .u8 x)) (cb : w.cell? ⟨2, b, none⟩ = some (.int .u8 y)) (cc : w.cell? ⟨3, x + y, none⟩ = some (.int .u8 z)) :
    Calls Tryd.prog 47 #[.int .u8 a, .int .u8 b] w fun e w' => e = .returned (.int .u8 z) ∧ Drawn0 w w' := by
  have cc2 : w.cell? ⟨3, ((x : Int) + (y : Int)).toNat, none⟩ = some (.int .u8 z) := by rw [show ((x : Int) + (y : Int)).toNat = x + y by omega]; exact cc
  go_enter Tryd.func47, Tryd.ntmps47
  go_wp2
  go_quiet (fail)
  go_wp2
  go_ret
  exact ⟨rfl, (Drawn0.refl _).step _⟩
set_option maxRecDepth 100000 in
theorem reedsolomon_galMultiply.large (a b x y z : Nat) (ha : a < 256) (hb : b < 256) (hx : x < 256) (hy : y < 256) (h1 : ((a : Int) == 0) = false) (h2 : ((b : Int) == 0) = false) (hs : 255 ≤ x + y) (w : World)
    (ca : w.cell? ⟨2, a, none⟩ = some (.int .u8 x)) (cb : w.cell? ⟨2, b, none⟩ = some (.int .u8 y)) (cc : w.cell? ⟨3, x + y - 255, none⟩ = some (.int .u8 z)) :
    Calls Tryd.prog 47 #[.int .u8 a, .int .u8 b] w fun e w' => e = .returned (.int .u8 z) ∧ Drawn0 w w' := by
  have cc2 : w.cell? ⟨3, ((x : Int) + (y : Int) - 255).toNat, none⟩ = some (.int .u8 z) := by rw [show ((x : Int) + (y : Int) - 255).toNat = x + y - 255 by omega]; exact cc
  go_enter Tryd.func47, Tryd.ntmps47
  go_wp2
  go_quiet (fail)
  go_wp2
  go_ret
  exact ⟨rfl, (Drawn0.refl _).step _⟩
theorem reedsolomon_galMultiply.any (a b : Nat) (ha : a < 256) (hb : b < 256) (w : World) (hT : TabOK w) :
    Calls Tryd.prog 47 #[.int .u8 a, .int .u8 b] w fun e w' => e = .returned (.int .u8 (Field.gm a b : Nat)) ∧ Drawn0 w w' := by
  unfold Field.gm
  by_cases h0 : a = 0 ∨ b = 0
  · rw [if_pos h0]
    exact reedsolomon_galMultiply.zero a b ha hb h0 w
  · rw [if_neg h0]
    have h1 : ((a : Int) == 0) = false := by rw [beq_eq_false_iff_ne]; omega
    have h2 : ((b : Int) == 0) = false := by rw [beq_eq_false_iff_ne]; omega
    have k1 := Field.lg_lt ⟨a, ha⟩
    have k2 := Field.lg_lt ⟨b, hb⟩
    have k3 := Field.lg_le ⟨a, ha⟩
    have k4 := Field.lg_le ⟨b, hb⟩
    dsimp only at k1 k2 k3 k4
    by_cases hs : 255 ≤ Field.lg a + Field.lg b
    · rw [if_pos hs]
      exact reedsolomon_galMultiply.large a b _ _ _ ha hb k1 k2 h1 h2 hs w (hT.lg a ha) (hT.lg b hb) (hT.ex _ (by omega))
    · rw [if_neg hs]
      exact reedsolomon_galMultiply.small a b _ _ _ ha hb k1 k2 h1 h2 (by omega) w (hT.lg a ha) (hT.lg b hb) (hT.ex _ (by omega))
def reedsolomon_galMultiply.f (a0 a1 : Int) : Option Int := if 0 ≤ a0 ∧ a0 ≤ 255 ∧ 0 ≤ a1 ∧ a1 ≤ 255 then some (Field.gm a0.toNat a1.toNat : Int) else none
theorem reedsolomon_galMultiply.calls (a0 a1 : Int) (r : Int) (w : World) (hT : TabOK w) (h : reedsolomon_galMultiply.f a0 a1 = some r) :
    Calls Tryd.prog 47 #[.int .u8 a0, .int .u8 a1] w fun e w' => e = .returned (.int .u8 r) ∧ Drawn0 w w' := by
  unfold reedsolomon_galMultiply.f at h
  split at h
  · rename_i hc
    injection h with h
    subst h
    obtain ⟨x, rfl⟩ : ∃ x : Nat, a0 = (x : Int) := ⟨a0.toNat, by omega⟩
    obtain ⟨y, rfl⟩ : ∃ y : Nat, a1 = (y : Int) := ⟨a1.toNat, by omega⟩
    rw [Int.toNat_natCast, Int.toNat_natCast]
    exact reedsolomon_galMultiply.any x y (by omega) (by omega) w hT
  · cases h

end Go.Proofs.YtipbhclpeogcmaaDoor.Q
