/- The walk of FnCeilPow2: for a number from 1 to 65536 the shift by the length of the number below it is a power of two that is not less, and less than twice the number. -/
import Derived.Test.YtipbhclpeogcmaaShelf
import Derived.WalkKit
import Derived.RowKit3
import Derived.Lib.ItoaNum
namespace Go.Proofs.Ytipbhclpeogcmaa
open Go.RowKit

theorem pow_wrap (b : Nat) (hb : b ≤ 17) : wrap64 (2 ^ (64 - (64 - b))) = ((2 ^ b : Nat) : Int) := by
  have e : 64 - (64 - b) = b := by omega
  rw [e]
  have h : 2 ^ b ≤ 2 ^ 17 := Nat.pow_le_pow_right (by decide) hb
  have e2 : ((2 : Int) ^ b) = ((2 ^ b : Nat) : Int) := by simp
  rw [e2]
  generalize 2 ^ b = m at *
  unfold wrap64
  omega

theorem ret_int {k : IntKind} {a b : Int} (h : a = b) : Ending.returned (.int k a) = .returned (.int k b) := by rw [h]

theorem ceil_core (n : Int) (b : Nat) (h1 : 1 ≤ n) (h2 : n ≤ 65536) (hb : b ≤ 17) (w : World)
    (hc : ∀ W, Calls Try.prog 7 #[.int .u64 (n - 1)] W fun e w' => e = .returned (.int .i64 (64 - (b : Int))) ∧ W = w') :
    Calls Try.prog 6 #[.int .i64 n] w fun e w' => e = .returned (.int .i64 ((2 ^ b : Nat) : Int)) ∧ w = w' := by
  go_enter Try.func6, Try.ntmps6
  go_wp2_with (go_at_call 7; refine (hc _).mono ?_; rintro e w' ⟨rfl, rfl⟩)
  go_ret
  exact ⟨ret_int (pow_wrap b hb), rfl⟩

theorem bit_len_of (m : Nat) (h : m < 65536) : Lib.bitLen m ≤ 17 ∧ m < 2 ^ Lib.bitLen m ∧ 2 ^ Lib.bitLen m ≤ 2 * m + 1 := by
  have h0 := Lib.bitLen_le m 17 (by decide) (by omega)
  refine ⟨h0, ?_⟩
  by_cases hm : m = 0
  · subst hm; decide
  · obtain ⟨a, b, c⟩ := Lib.bitLenAux_bounds 64 m (by omega) hm
    refine ⟨c, ?_⟩
    show 2 ^ Lib.bitLenAux 64 m ≤ _
    have e : Lib.bitLenAux 64 m = (Lib.bitLenAux 64 m - 1) + 1 := by omega
    rw [e, Nat.pow_succ]
    omega

theorem ceil_any (n : Int) (h1 : 1 ≤ n) (h2 : n ≤ 65536) (w : World) :
    Calls Try.prog 6 #[.int .i64 n] w fun e w' => e = .returned (.int .i64 ((2 ^ Lib.bitLen (n - 1).toNat : Nat) : Int)) ∧ w = w' := by
  have hb := (bit_len_of (n - 1).toNat (by omega)).1
  refine ceil_core n _ h1 h2 hb w fun W => (Try.bits_LeadingZeros (n - 1) W (by omega) (by omega)).mono ?_
  rintro e w' ⟨rfl, rfl⟩
  exact ⟨rfl, rfl⟩

theorem law_core (n : Int) (b : Nat) (h1 : 1 ≤ n) (h2 : n ≤ 65536) (hp : n ≤ ((2 ^ b : Nat) : Int)) (hq : ((2 ^ b : Nat) : Int) < 2 * n)
    (hand : bits .and .i64 ((2 ^ b : Nat) : Int) (((2 ^ b : Nat) : Int) - 1) = 0)
    (w : World) (hc : ∀ W, Calls Try.prog 6 #[.int .i64 n] W fun e w' => e = .returned (.int .i64 ((2 ^ b : Nat) : Int)) ∧ W = w') :
    Calls Try.prog 3 #[.int .i64 n] w fun e w' => e = .returned (.bool true) ∧ Grown w w' := by
  generalize ((2 ^ b : Nat) : Int) = p at *
  go_enter Try.func3, Try.ntmps3
  go_wp2_with (first | (go_at_call 6; refine (hc _).mono ?_; rintro e w' ⟨rfl, rfl⟩) | go_in)
  go_ret
  exact ⟨rfl, Grown.refl _⟩

theorem and_pow (b : Nat) (hb : b ≤ 17) : bits .and .i64 ((2 ^ b : Nat) : Int) (((2 ^ b : Nat) : Int) - 1) = 0 := by
  have h : ∀ c : Fin 18, bits .and .i64 ((2 ^ c.val : Nat) : Int) (((2 ^ c.val : Nat) : Int) - 1) = 0 := by decide +kernel
  exact h ⟨b, by omega⟩

theorem walk_out (n : Int) (h : n < 1 ∨ 65536 < n) (w : World) : Calls Try.prog 3 #[.int .i64 n] w fun e w' => e = .returned (.bool true) ∧ Grown w w' := by
  by_cases h1 : n < 1
  · go_enter Try.func3, Try.ntmps3
    go_wp2
    go_ret
    exact ⟨rfl, Grown.refl _⟩
  · have h2 : 65536 < n := by omega
    go_enter Try.func3, Try.ntmps3
    go_wp2
    go_ret
    exact ⟨rfl, Grown.refl _⟩

/-- The law's walk. -/
theorem ceil_walk (n : Int) (w : World) : Calls Try.prog 3 #[.int .i64 n] w fun e w' => e = .returned (.bool true) ∧ Grown w w' := by
  by_cases h : n < 1 ∨ 65536 < n
  · exact walk_out n h w
  · have h1 : 1 ≤ n := by omega
    have h2 : n ≤ 65536 := by omega
    obtain ⟨hb, hc, hd⟩ := bit_len_of (n - 1).toNat (by omega)
    exact law_core n _ h1 h2 (by omega) (by omega) (and_pow _ hb) w fun W => ceil_any n h1 h2 W
end Go.Proofs.Ytipbhclpeogcmaa
