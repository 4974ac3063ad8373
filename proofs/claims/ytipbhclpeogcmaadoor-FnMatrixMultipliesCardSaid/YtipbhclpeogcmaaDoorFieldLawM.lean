/- The printed functions of the field in plain numbers: the product and the power by definition are those by logarithms. -/
import Derived.Test.YtipbhclpeogcmaaDoorFieldMul
import Derived.Test.YtipbhclpeogcmaaDoorM
import Derived.Laws.BitsAllLaws
import Derived.WalkKit
import Derived.Test.YtipbhclpeogcmaaDoorWMore
namespace Go.Proofs.YtipbhclpeogcmaaDoor.FieldM
open Go Go.RowKit Go.Proofs.YtipbhclpeogcmaaDoor.Field Go.Proofs.YtipbhclpeogcmaaDoor.M Go.Proofs.YtipbhclpeogcmaaDoorW.PrintMore Go.Proofs.YtipbhclpeogcmaaDoorW.PrintWords Go.Proofs.YtipbhclpeogcmaaDoorW.PrintLast
set_option linter.unusedVariables false
set_option linter.unusedSimpArgs false

theorem u64_nat (a : Nat) (h : a < 18446744073709551616) : IntKind.u64.wrap (a : Int) = (a : Int) := IntWalk.u64_in _ ⟨by omega, by omega⟩
theorem shl_u64 (a l : Nat) (hl : l ≤ 64) (h : a * 2 ^ l < 2 ^ 64) : shl .u64 (a : Int) (l : Int) = ((a <<< l : Nat) : Int) := by
  unfold shl
  rw [Int.toNat_natCast, show IntKind.bits .u64 = 64 from rfl, Nat.min_eq_left hl]
  have e : ((a : Int) * 2 ^ l) = ((a * 2 ^ l : Nat) : Int) := by simp
  rw [e, Nat.shiftLeft_eq]
  exact u64_nat _ h
theorem shr_u64 (a l : Nat) (hl : l ≤ 64) : shr .u64 (a : Int) (l : Int) = ((a >>> l : Nat) : Int) := by
  unfold shr
  rw [Int.toNat_natCast, show IntKind.bits .u64 = 64 from rfl, Nat.min_eq_left hl, Nat.shiftRight_eq_div_pow]
  have e : ((2 : Int) ^ l) = ((2 ^ l : Nat) : Int) := by simp
  rw [e, ← Int.natCast_ediv]
theorem shr_u32 (a l : Nat) (hl : l ≤ 32) : shr .u32 (a : Int) (l : Int) = ((a >>> l : Nat) : Int) := by
  unfold shr
  rw [Int.toNat_natCast, show IntKind.bits .u32 = 32 from rfl, Nat.min_eq_left hl, Nat.shiftRight_eq_div_pow]
  have e : ((2 : Int) ^ l) = ((2 ^ l : Nat) : Int) := by simp
  rw [e, ← Int.natCast_ediv]
theorem wrap_nat (n : Nat) (h : n < 9223372036854775807) : wrap64 ((n : Int) + 1) = ((n + 1 : Nat) : Int) := by unfold wrap64; omega
theorem wrap_pred (n : Nat) (h0 : 0 < n) (h : n < 9223372036854775807) : wrap64 ((n : Int) - 1) = ((n - 1 : Nat) : Int) := by unfold wrap64; omega
theorem wrap_sub (n m : Nat) (h0 : m ≤ n) (h : n < 9223372036854775807) : wrap64 ((n : Int) - (m : Int)) = ((n - m : Nat) : Int) := by unfold wrap64; omega
theorem low_bit (x : Nat) : x &&& 1 = x % 2 := Nat.and_one_is_mod x
theorem bit_u32 (b i : Nat) (hb : b < 256) (hi : i ≤ 32) : bits .and .u32 (shr .u32 (b : Int) (i : Int)) 1 = (((b >>> i) % 2 : Nat) : Int) := by
  rw [shr_u32 b i hi]
  have h : b >>> i ≤ b := Nat.shiftRight_le b i
  have := u32_and_nat (b >>> i) 1 (by omega) (by omega)
  rw [low_bit] at this
  exact this
theorem bit_u64 (b i : Nat) (hb : b < 2 ^ 64) (hi : i ≤ 64) : bits .and .u64 (shr .u64 (b : Int) (i : Int)) 1 = (((b >>> i) % 2 : Nat) : Int) := by
  rw [shr_u64 b i hi]
  have h : b >>> i ≤ b := Nat.shiftRight_le b i
  have := u64_and_nat (b >>> i) 1 (by omega) (by omega)
  rw [low_bit] at this
  exact this
theorem two (n : Nat) : n % 2 = 0 ∨ n % 2 = 1 := by omega
theorem shl_lt (a i n m : Nat) (ha : a < 2 ^ n) (h : n + i ≤ m) : a * 2 ^ i < 2 ^ m := by
  have h1 : a * 2 ^ i < 2 ^ n * 2 ^ i := Nat.mul_lt_mul_of_pos_right ha (Nat.two_pow_pos i)
  rw [← Nat.pow_add] at h1
  exact Nat.lt_of_lt_of_le h1 (Nat.pow_le_pow_right (by decide) h)

theorem n01 : ¬ (((0 : Nat) : Int) = 1) := by decide
theorem p11 : ((1 : Nat) : Int) = 1 := rfl
theorem prod_step (a b out i : Nat) (ha : a < 256) (hb : b < 256) (hi : i < 32) (ho : out < 2 ^ 40) (r : Int) (h : Ev (fun k => spec_product.l0 k (a : Int) (b : Int) ((out ^^^ ((b >>> i) % 2 * (a <<< i)) : Nat) : Int) ((i + 1 : Nat) : Int)) r) :
    Ev (fun k => spec_product.l0 k (a : Int) (b : Int) (out : Int) (i : Int)) r := by
  have hs : a * 2 ^ i < 2 ^ 40 := shl_lt a i 8 40 ha (by omega)
  refine Ev.step (fun k => spec_product.l0.eq_2 _ _ _ _ _) ?_
  have c1 : (i : Int) < 32 := by omega
  have c2 : 0 ≤ (i : Int) := by omega
  have e4 : a <<< i = a * 2 ^ i := Nat.shiftLeft_eq a i
  simp only [if_pos c1, if_pos c2, bit_u32 b i hb (by omega), wrap_nat i (by omega), u64_nat a (by omega), shl_u64 a i (by omega) (by omega), u64_xor_nat out (a <<< i) (by omega) (by omega)]
  rcases two (b >>> i) with e | e
  · rw [e] at h ⊢
    rw [Nat.zero_mul, Nat.xor_zero] at h
    simp only [if_neg n01]
    exact h
  · rw [e] at h ⊢
    rw [Nat.one_mul] at h
    simp only [if_pos p11]
    exact h
theorem prod_tail (a b out : Nat) (hb : b < 256) : ∀ n i : Nat, i + n = 32 → 8 ≤ i → Ev (fun k => spec_product.l0 k (a : Int) (b : Int) (out : Int) (i : Int)) (out : Int)
  | 0, i, h, h8 => by
    refine Ev.step (fun k => spec_product.l0.eq_2 _ _ _ _ _) ?_
    have c1 : ¬ (i : Int) < 32 := by omega
    simp only [if_neg c1]
    exact Ev.now _
  | n + 1, i, h, h8 => by
    refine Ev.step (fun k => spec_product.l0.eq_2 _ _ _ _ _) ?_
    have c1 : (i : Int) < 32 := by omega
    have c2 : 0 ≤ (i : Int) := by omega
    have h2 : 256 ≤ 2 ^ i := Nat.pow_le_pow_right (n := 2) (by decide) h8
    have e : b >>> i = 0 := by rw [Nat.shiftRight_eq_div_pow]; exact Nat.div_eq_of_lt (by omega)
    have c3 : ¬ ((((b >>> i) % 2 : Nat) : Int) = 1) := by rw [e]; decide
    simp only [if_pos c1, if_pos c2, bit_u32 b i hb (by omega), wrap_nat i (by omega), if_neg c3]
    exact prod_tail a b out hb n (i + 1) (by omega) (by omega)
theorem term_lt (a b i : Nat) (ha : a < 256) (hi : i < 8) : (b >>> i) % 2 * (a <<< i) < 2 ^ 15 := by
  have hs : a * 2 ^ i < 2 ^ 15 := shl_lt a i 8 15 ha (by omega)
  rw [Nat.shiftLeft_eq]
  rcases two (b >>> i) with e | e <;> rw [e] <;> omega
theorem P_lt (a b : Nat) (ha : a < 256) : P a b < 2 ^ 15 := by
  unfold P
  refine Nat.xor_lt_two_pow (Nat.xor_lt_two_pow (Nat.xor_lt_two_pow (Nat.xor_lt_two_pow (Nat.xor_lt_two_pow (Nat.xor_lt_two_pow (Nat.xor_lt_two_pow ?_ ?_) ?_) ?_) ?_) ?_) ?_) ?_ <;> exact term_lt a b _ ha (by decide)
theorem lt40 {a : Nat} (h : a < 2 ^ 15) : a < 2 ^ 40 := by omega
theorem product_ev (a b : Nat) (ha : a < 256) (hb : b < 256) : Ev (fun k => spec_product.f k (a : Int) (b : Int)) ((P a b : Nat) : Int) := by
  have t := fun i (hi : i < 8) => term_lt a b i ha hi
  have h := prod_tail a b (P a b) hb 24 8 (by omega) (by omega)
  have hp := lt40 (P_lt a b ha)
  refine prod_step a b 0 0 ha hb (by omega) (by decide) _ ?_
  rw [Nat.zero_xor]
  have o0 := t 0 (by decide)
  refine prod_step a b _ 1 ha hb (by omega) (lt40 o0) _ ?_
  have o1 := Nat.xor_lt_two_pow o0 (t 1 (by decide))
  refine prod_step a b _ 2 ha hb (by omega) (lt40 o1) _ ?_
  have o2 := Nat.xor_lt_two_pow o1 (t 2 (by decide))
  refine prod_step a b _ 3 ha hb (by omega) (lt40 o2) _ ?_
  have o3 := Nat.xor_lt_two_pow o2 (t 3 (by decide))
  refine prod_step a b _ 4 ha hb (by omega) (lt40 o3) _ ?_
  have o4 := Nat.xor_lt_two_pow o3 (t 4 (by decide))
  refine prod_step a b _ 5 ha hb (by omega) (lt40 o4) _ ?_
  have o5 := Nat.xor_lt_two_pow o4 (t 5 (by decide))
  refine prod_step a b _ 6 ha hb (by omega) (lt40 o5) _ ?_
  have o6 := Nat.xor_lt_two_pow o5 (t 6 (by decide))
  refine prod_step a b _ 7 ha hb (by omega) (lt40 o6) _ ?_
  exact h

theorem rem_step (x i : Nat) (hx : x < 2 ^ 15) (h8 : 8 ≤ i) (hi : i < 15) (r : Int) (h : Ev (fun k => spec_remainder.l0 k ((rem1 i x : Nat) : Int) 285 8 ((i - 1 : Nat) : Int)) r) :
    Ev (fun k => spec_remainder.l0 k (x : Int) 285 8 (i : Int)) r := by
  have hs : 285 * 2 ^ (i - 8) < 2 ^ 40 := shl_lt 285 (i - 8) 9 40 (by decide) (by omega)
  refine Ev.step (fun k => spec_remainder.l0.eq_2 _ _ _ _ _) ?_
  have c1 : (i : Int) ≥ 8 := by omega
  have c2 : 0 ≤ (i : Int) := by omega
  have c3 : 0 ≤ ((i - 8 : Nat) : Int) := by omega
  have e4 : 285 <<< (i - 8) = 285 * 2 ^ (i - 8) := Nat.shiftLeft_eq 285 (i - 8)
  have e5 := shl_u64 285 (i - 8) (by omega) (by omega)
  have e6 := wrap_sub i 8 h8 (by omega)
  have e7 : ((285 : Nat) : Int) = 285 := rfl
  have e8 : ((8 : Nat) : Int) = 8 := rfl
  rw [e7] at e5
  rw [e8] at e6
  simp only [if_pos c1, if_pos c2, bit_u64 x i (by omega) (by omega), wrap_pred i (by omega) (by omega), e6, if_pos c3, e5, u64_xor_nat x (285 <<< (i - 8)) (by omega) (by omega)]
  unfold rem1 at h
  rcases two (x >>> i) with e | e
  · rw [e] at h ⊢
    rw [Nat.zero_mul, Nat.xor_zero] at h
    simp only [if_neg n01]
    exact h
  · rw [e] at h ⊢
    rw [Nat.one_mul] at h
    simp only [if_pos p11]
    exact h
theorem rem_head (x : Nat) (hx : x < 2 ^ 15) (r : Int) : ∀ n i : Nat, i = 14 + n → i ≤ 63 → Ev (fun k => spec_remainder.l0 k (x : Int) 285 8 14) r → Ev (fun k => spec_remainder.l0 k (x : Int) 285 8 (i : Int)) r
  | 0, i, h, h8, hr => by subst h; exact hr
  | n + 1, i, h, h8, hr => by
    refine Ev.step (fun k => spec_remainder.l0.eq_2 _ _ _ _ _) ?_
    have c1 : (i : Int) ≥ 8 := by omega
    have c2 : 0 ≤ (i : Int) := by omega
    have h2 : 2 ^ 15 ≤ 2 ^ i := Nat.pow_le_pow_right (n := 2) (by decide) (by omega)
    have e : x >>> i = 0 := by rw [Nat.shiftRight_eq_div_pow]; exact Nat.div_eq_of_lt (by omega)
    have c3 : ¬ ((((x >>> i) % 2 : Nat) : Int) = 1) := by rw [e]; decide
    simp only [if_pos c1, if_pos c2, bit_u64 x i (by omega) (by omega), wrap_pred i (by omega) (by omega), if_neg c3]
    exact rem_head x hx r n (i - 1) (by omega) (by omega) hr
theorem rem1_lt (i x : Nat) (hx : x < 2 ^ 15) (hi : i < 15) (h8 : 8 ≤ i) : rem1 i x < 2 ^ 15 := by
  unfold rem1
  refine Nat.xor_lt_two_pow hx ?_
  have hs : 285 * 2 ^ (i - 8) < 2 ^ 15 := shl_lt 285 (i - 8) 9 15 (by decide) (by omega)
  rw [Nat.shiftLeft_eq]
  rcases two (x >>> i) with e | e <;> rw [e] <;> omega
theorem remainder_ev (x : Nat) (hx : x < 2 ^ 15) : Ev (fun k => spec_remainder.f k (x : Int) 285 8) ((R x : Nat) : Int) := by
  refine rem_head x hx _ 49 63 (by omega) (by omega) ?_
  have h14 := rem1_lt 14 x hx (by omega) (by omega)
  have h13 := rem1_lt 13 _ h14 (by omega) (by omega)
  have h12 := rem1_lt 12 _ h13 (by omega) (by omega)
  have h11 := rem1_lt 11 _ h12 (by omega) (by omega)
  have h10 := rem1_lt 10 _ h11 (by omega) (by omega)
  have h9 := rem1_lt 9 _ h10 (by omega) (by omega)
  refine rem_step x 14 hx (by omega) (by omega) _ ?_
  refine rem_step _ 13 h14 (by omega) (by omega) _ ?_
  refine rem_step _ 12 h13 (by omega) (by omega) _ ?_
  refine rem_step _ 11 h12 (by omega) (by omega) _ ?_
  refine rem_step _ 10 h11 (by omega) (by omega) _ ?_
  refine rem_step _ 9 h10 (by omega) (by omega) _ ?_
  refine rem_step _ 8 h9 (by omega) (by omega) _ ?_
  refine Ev.step (fun k => spec_remainder.l0.eq_2 _ _ _ _ _) ?_
  have c1 : ¬ ((8 - 1 : Nat) : Int) ≥ 8 := by decide
  simp only [if_neg c1]
  exact Ev.now _

theorem gm_lt (a b : Nat) (ha : a < 256) (hb : b < 256) : gm a b < 256 := by
  unfold gm
  split
  · decide
  · have k1 := lg_lt ⟨a, ha⟩
    have k2 := lg_lt ⟨b, hb⟩
    have k3 := lg_le ⟨a, ha⟩
    have k4 := lg_le ⟨b, hb⟩
    dsimp only at k1 k2 k3 k4
    have hlt : (if 255 ≤ lg a + lg b then lg a + lg b - 255 else lg a + lg b) < 256 := by split <;> omega
    generalize (if 255 ≤ lg a + lg b then lg a + lg b - 255 else lg a + lg b) = q at *
    exact ex_lt ⟨q, hlt⟩
/-- The product by definition is that by logarithms. -/
theorem mul_ev (a b : Nat) (ha : a < 256) (hb : b < 256) : Ev (fun k => spec_Mul.f k (a : Int) (b : Int)) ((gm a b : Nat) : Int) := by
  have e1 : ((a : Int)) % 4294967296 = (a : Int) := by omega
  have e2 : ((b : Int)) % 4294967296 = (b : Int) := by omega
  have hp := P_lt a b ha
  unfold spec_Mul.f
  rw [e1, e2]
  refine Ev.bind (product_ev a b ha hb) (Ev.bind (remainder_ev (P a b) hp) ?_)
  have h := gm_lt a b ha hb
  rw [gm_eq a b ha hb, show ((gm a b : Nat) : Int) % 256 = ((gm a b : Nat) : Int) by omega]
  exact Ev.now _
end Go.Proofs.YtipbhclpeogcmaaDoor.FieldM
