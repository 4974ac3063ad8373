-- Written by a program of ours (wip/xp) out of the translation; Lean checks it.
import Derived.Test.YtkmdkmlgahfcpaaM0
namespace Go.Proofs.Ytkmdkmlgahfcpaa.M
open Go.RowKit Go.Proofs.YtkmdkmlgahfcpaaW.PrintWords Go.Proofs.YtkmdkmlgahfcpaaW.PrintLast Go.Proofs.YtkmdkmlgahfcpaaW.PrintMore
attribute [local go_sem] max2_int min2_int max_two min_two max_three min_three max_four min_four   -- for this text's walks alone
set_option linter.unusedVariables false
set_option linter.unusedSimpArgs false

/-! ### bits_OnesCount64: function 46 -/
theorem bits_OnesCount64.walk (x1 x2 x3 x4 x5 x6 r x : Int) (w : World)
    (e1 : IntKind.u64.wrap (Go.bits .and .u64 (x / 2) 6148914691236517205 + Go.bits .and .u64 x 6148914691236517205) = x1)
    (e2 : IntKind.u64.wrap (Go.bits .and .u64 (x1 / 4) 3689348814741910323 + Go.bits .and .u64 x1 3689348814741910323) = x2)
    (e3 : Go.bits .and .u64 (IntKind.u64.wrap (x2 / 16 + x2)) 1085102592571150095 = x3)
    (e4 : IntKind.u64.wrap (x3 + x3 / 256) = x4) (e5 : IntKind.u64.wrap (x4 + x4 / 65536) = x5) (e6 : IntKind.u64.wrap (x5 + x5 / 4294967296) = x6)
    (e7 : Go.bits .and .i64 (wrap64 x6) 127 = r) :
    Calls Try.prog 46 #[.int .u64 x] w fun e w' => e = .returned (.int .i64 r) ∧ w' = w := by
  go_enter Try.func46, Try.ntmps46
  go_wp2
  go_ret
  exact ⟨rfl, rfl⟩
def bits_OnesCount64.f (a0 : Int) : Option (Int) := if 0 ≤ a0 ∧ a0 ≤ 18446744073709551615 then some (Lib.onesCount a0.toNat : Int) else none
theorem bits_OnesCount64.calls (a0 : Int) (r : Int) (w : World) (h : bits_OnesCount64.f a0 = some r) :
    Calls Try.prog 46 #[.int .u64 a0] w fun e w' => e = .returned (.int .i64 r) ∧ Drawn0 w w' := by
  unfold bits_OnesCount64.f at h
  split at h
  · rename_i hc
    injection h with h
    obtain ⟨x, rfl⟩ : ∃ x : Nat, a0 = (x : Int) := ⟨a0.toNat, by omega⟩
    rw [Int.toNat_natCast] at h
    refine (bits_OnesCount64.walk _ _ _ _ _ _ r x w rfl rfl rfl rfl rfl rfl (by rw [← h]; exact Ones.swar x (by omega))).mono ?_
    rintro e w' ⟨rfl, rfl⟩
    exact ⟨rfl, Drawn0.refl _⟩
  · cases h

end Go.Proofs.Ytkmdkmlgahfcpaa.M
