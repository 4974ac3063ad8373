-- Written by a program of ours (wip/xp) out of the translation; Lean checks it.
import Derived.Test.YtkkkaegocinkeaaDoorQ0
namespace Go.Proofs.YtkkkaegocinkeaaDoor.Q
open Go.RowKit Go.Proofs.YtkkkaegocinkeaaDoorW.PrintWords Go.Proofs.YtkkkaegocinkeaaDoorW.PrintLast Go.Proofs.YtkkkaegocinkeaaDoorW.PrintMore
attribute [local go_sem] max2_int min2_int max_two min_two max_three min_three max_four min_four   -- for this text's walks alone
set_option linter.unusedVariables false
set_option linter.unusedSimpArgs false

/-! ### bits_TrailingZeros64: function 37 -/
set_option maxHeartbeats 1000000 in
theorem bits_TrailingZeros64.core (x k idx : Nat) (w : World) (hx0 : ((x : Int) == 0) = false)
    (key : IntKind.u64.wrap (bits BinOp.and IntKind.u64 (x : Int) (IntKind.u64.wrap (-(x : Int))) * 285870213051353865) / 288230376151711744 = (idx : Int))
    (hi : idx < 64) (hk : k < 64) (hcell : w.cell? ⟨0, idx, none⟩ = some (.int .u8 k)) :
    Calls Tryd.prog 37 #[.int .u64 x] w fun e w' => e = .returned (.int .i64 k) ∧ w' = w := by
  go_enter Tryd.func37, Tryd.ntmps37
  go_wp2_with (simp only [key])
  go_ret
  exact ⟨rfl, rfl⟩
theorem bits_TrailingZeros64.zero (w : World) :
    Calls Tryd.prog 37 #[.int .u64 0] w fun e w' => e = .returned (.int .i64 64) ∧ w' = w := by
  go_enter Tryd.func37, Tryd.ntmps37
  go_wp2
  go_ret
  exact ⟨rfl, rfl⟩
theorem bits_TrailingZeros64.any (x : Nat) (hx : x < 18446744073709551616) (w : World) (hT : TabOK w) :
    Calls Tryd.prog 37 #[.int .u64 x] w fun e w' => e = .returned (.int .i64 (Lib.ctz 64 x)) ∧ w' = w := by
  by_cases hx0 : x = 0
  · subst hx0
    exact bits_TrailingZeros64.zero w
  · obtain ⟨hlow, hk⟩ := Lib.lowest_bit 64 x hx0 hx
    obtain ⟨hi, htab⟩ := Lib.deBruijn64_at _ hk
    have hcell := hT.tz _ hi
    rw [htab] at hcell
    exact bits_TrailingZeros64.core x _ _ w (by simp; omega) (tz64_key x _ hx hx0 hlow) hi hk hcell
def bits_TrailingZeros64.f (a0 : Int) : Option (Int) := if 0 ≤ a0 ∧ a0 ≤ 18446744073709551615 then some (Lib.ctz 64 a0.toNat : Int) else none
theorem bits_TrailingZeros64.calls (a0 : Int) (r : Int) (w : World) (hT : TabOK w) (h : bits_TrailingZeros64.f a0 = some r) :
    Calls Tryd.prog 37 #[.int .u64 a0] w fun e w' => e = .returned (.int .i64 r) ∧ Drawn0 w w' := by
  unfold bits_TrailingZeros64.f at h
  split at h
  · rename_i hc
    injection h with h
    subst h
    obtain ⟨x, rfl⟩ : ∃ x : Nat, a0 = (x : Int) := ⟨a0.toNat, by omega⟩
    rw [Int.toNat_natCast]
    refine (bits_TrailingZeros64.any x (by omega) w hT).mono ?_
    rintro e w' ⟨rfl, rfl⟩
    exact ⟨rfl, Drawn0.refl _⟩
  · cases h

end Go.Proofs.YtkkkaegocinkeaaDoor.Q
