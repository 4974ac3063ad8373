/- FnFamilyCovers in plain numbers: the printed law answers true. -/
import Derived.Test.YtkkkaegocinkeaaQF3
import Derived.Test.YtkkkaegocinkeaaNodes2
import Derived.OpenShut
namespace Go.Proofs.Ytkkkaegocinkeaa.Fam
open Go.RowKit Go.Proofs.Ytkkkaegocinkeaa.Q Go.Proofs.YtkkkaegocinkeaaW.PrintWords Go.Proofs.YtkkkaegocinkeaaW.PrintLast Go.Proofs.YtkkkaegocinkeaaW.PrintMore Go.Proofs.Ytkkkaegocinkeaa.Nodes
set_option linter.unusedVariables false
set_option linter.unusedSimpArgs false

theorem shl_mod (a l : Nat) (hl : l ≤ 64) : shl .u64 (a : Int) (l : Int) = ((a * 2 ^ l % 2 ^ 64 : Nat) : Int) := by
  unfold shl
  rw [Int.toNat_natCast, show IntKind.bits .u64 = 64 from rfl, Nat.min_eq_left hl, IntKind.wrap_u64]
  have e : ((a : Int) * 2 ^ l) = ((a * 2 ^ l : Nat) : Int) := by simp
  rw [e]
  generalize a * 2 ^ l = z
  omega
theorem wrap_mod (a : Nat) : IntKind.u64.wrap ((a : Nat) : Int) = ((a % 2 ^ 64 : Nat) : Int) := by rw [IntKind.wrap_u64]; omega
theorem coverage (l i : Nat) (hl : l < 64) : impl_Coverage.f (l : Int) (i : Int) = some (((i * 2 ^ l % 2 ^ 64 : Nat) : Int), (((i + 1) * 2 ^ l % 2 ^ 64 : Nat) : Int)) := by
  unfold impl_Coverage.f impl_toNode.f compact_NewNodeID.f
  simp only [Option.bind_some]
  unfold compact_NodeID_Coverage.f
  rw [if_pos (by omega), shl_mod i l (by omega), show ((i : Int) + 1) = ((i + 1 : Nat) : Int) from by omega, wrap_mod, shl_mod _ l (by omega)]
  simp only [Option.bind_some]
  rw [Nat.mod_mul_mod]
theorem parent (l i : Nat) (hl : l < 63) : impl_Parent.f (l : Int) (i : Int) = some (((l + 1 : Nat) : Int), ((i / 2 : Nat) : Int)) := by
  unfold impl_Parent.f impl_toNode.f impl_fromNode.f compact_NodeID_Parent.f compact_NewNodeID.f
  simp only [Option.bind_some]
  rw [show ((l : Int) + 1) = ((l + 1 : Nat) : Int) from by omega, u64_nat _ (by omega), show ((i : Int) / 2) = ((i / 2 : Nat) : Int) from by omega]
theorem xor64 (a b : Nat) (ha : a < 2 ^ 64) (hb : b < 2 ^ 64) : Go.bits .xor .u64 (a : Int) (b : Int) = ((a ^^^ b : Nat) : Int) := bits_xor_u64_nat a b (by omega) (by omega)
theorem sibling (l i : Nat) (h : i % 2 = 0) (hi : i + 1 < 2 ^ 64) : impl_Sibling.f (l : Int) (i : Int) = some ((l : Int), ((i + 1 : Nat) : Int)) := by
  unfold impl_Sibling.f impl_toNode.f impl_fromNode.f compact_NodeID_Sibling.f compact_NewNodeID.f
  simp only [Option.bind_some]
  rw [show (1 : Int) = ((1 : Nat) : Int) from rfl, xor64 _ _ (by omega) (by omega), even_xor_one i h]
theorem or_one (i : Nat) : i ||| 1 = 2 * (i / 2) + 1 := by
  have h1 : (i ||| 1) % 2 = 1 := by
    have := @Nat.or_mod_two_pow i 1 1
    rw [show 2 ^ 1 = 2 from rfl] at this
    rw [this]
    rcases Nat.mod_two_eq_zero_or_one i with a | a <;> rw [a] <;> rfl
  have h2 : (i ||| 1) / 2 = i / 2 := by
    have := @Nat.or_div_two i 1
    simpa using this
  omega
theorem or64 (i : Nat) (hi : i < 2 ^ 64) : Go.bits .or .u64 (i : Int) 1 = ((2 * (i / 2) + 1 : Nat) : Int) := by
  rw [show (1 : Int) = ((1 : Nat) : Int) from rfl, bits_or_u64_nat i 1 (by omega) (by omega), or_one]
theorem andNot64 (i : Nat) (hi : i < 2 ^ 64) : Go.bits .andNot .u64 (i : Int) 1 = ((2 * (i / 2) : Nat) : Int) := by
  have h1 : (BitVec.ofInt 64 (i : Int)).toNat = i := by
    rw [BitVec.ofInt_natCast, BitVec.toNat_ofNat]; exact Nat.mod_eq_of_lt hi
  show IntKind.u64.wrap ((BitVec.ofInt 64 (i : Int) &&& ~~~ BitVec.ofInt 64 (1 : Int)).toNat : Int) = _
  have h2 : (~~~ BitVec.ofInt 64 (1 : Int)).toNat = 2 ^ 64 - 2 := by rfl
  have h3 : i &&& (2 ^ 64 - 2) = 2 * (i / 2) := by
    have e : 2 ^ 64 - 2 = 2 * (2 ^ 63 - 1) := by omega
    have h4 : (i &&& (2 ^ 64 - 2)) % 2 = 0 := by
      have := @Nat.and_mod_two_pow i (2 ^ 64 - 2) 1
      rw [show 2 ^ 1 = 2 from rfl] at this
      rw [this, show (2 ^ 64 - 2) % 2 = 0 by omega, Nat.and_zero]
    have h5 : (i &&& (2 ^ 64 - 2)) / 2 = i / 2 := by
      have := @Nat.and_div_two_pow i (2 ^ 64 - 2) 1
      rw [show 2 ^ 1 = 2 from rfl] at this
      rw [this, show (2 ^ 64 - 2) / 2 = 2 ^ 63 - 1 by omega, Nat.and_two_pow_sub_one_eq_mod, Nat.mod_eq_of_lt (by omega)]
    omega
  rw [BitVec.toNat_and, h1, h2, h3]
  exact u64_nat _ (by omega)

theorem law (l i : Nat) (hl : l < 63) (hi : i < 2 ^ 64) : lawFC.f (l : Int) (i : Int) = some true := by
  unfold lawFC.f
  have hp := pow_pos l
  have e2 : ∀ x, x * 2 ^ (l + 1) = 2 * x * 2 ^ l := fun x => by rw [Nat.pow_succ, Nat.mul_comm (2 ^ l) 2, ← Nat.mul_assoc, Nat.mul_comm x 2]
  have c1 : ((2 * (i / 2) + 1) * 2 ^ l % 2 ^ 64) = ((2 * (i / 2) + 1) * 2 ^ l % 2 ^ 64) := rfl
  rw [if_neg (by omega), andNot64 i hi, or64 i hi, coverage l _ (by omega), coverage l _ (by omega), parent l i hl]
  simp only [Option.bind_some]
  rw [coverage (l + 1) _ (by omega), e2, e2]
  simp only [Option.bind_some, if_true]
  have e3 : 2 * (i / 2 + 1) = 2 * (i / 2) + 1 + 1 := by omega
  rw [e3, if_pos rfl, if_pos (by omega)]
  have e4 : IntKind.u64.wrap ((((2 * (i / 2) + 1) * 2 ^ l % 2 ^ 64 : Nat) : Int) - ((2 * (i / 2) * 2 ^ l % 2 ^ 64 : Nat) : Int)) = shl .u64 1 (l : Int) := by
    rw [shl_one l (by omega), IntKind.wrap_u64, Nat.add_mul, Nat.one_mul]
    have hpl : 2 ^ l < 2 ^ 64 := pow_lt (by omega)
    generalize 2 * (i / 2) * 2 ^ l = z
    generalize 2 ^ l = q at *
    omega
  rw [if_pos e4, sibling l _ (by omega) (by omega)]
  simp
theorem out (l i : Int) (h : 63 ≤ l) : lawFC.f l i = some true := by
  unfold lawFC.f
  rw [if_pos h]
theorem fam (a0 a1 : Int) (w0 : (Lit.int .u64 a0).wf = true) (w1 : (Lit.int .u64 a1).wf = true) : lawFC.f a0 a1 = some true := by
  have h0 := bounds_u64 w0
  have h1 := bounds_u64 w1
  by_cases h : 63 ≤ a0
  · exact out _ _ h
  · obtain ⟨l, rfl⟩ : ∃ l : Nat, a0 = (l : Int) := ⟨a0.toNat, by omega⟩
    obtain ⟨i, rfl⟩ : ∃ i : Nat, a1 = (i : Int) := ⟨a1.toNat, by omega⟩
    exact law l i (by omega) (by omega)
end Go.Proofs.Ytkkkaegocinkeaa.Fam
