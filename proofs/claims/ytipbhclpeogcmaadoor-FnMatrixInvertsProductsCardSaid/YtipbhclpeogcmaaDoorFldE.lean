/- The field of 256 elements as a type: sums, products, and their laws. -/
import Derived.Test.YtipbhclpeogcmaaDoorFieldMul
namespace Go.Proofs.YtipbhclpeogcmaaDoor.Gauss
open Go.Proofs.YtipbhclpeogcmaaDoor.Field
set_option linter.unusedVariables false
set_option linter.unusedSimpArgs false

theorem lg_ex' : ∀ i : Fin 255, lg (ex i.val) = i.val ∧ ex i.val ≠ 0 := by decide +kernel
theorem ex_lg' : ∀ a : Fin 256, a.val = 0 ∨ ex (lg a.val) = a.val := by decide +kernel
theorem one_gm : ∀ a : Fin 256, gm 1 a.val = a.val := by decide +kernel
def rd5 (s : Nat) : Nat := if 255 ≤ s then s - 255 else s
theorem gm_log {a b : Nat} (ha : a ≠ 0) (hb : b ≠ 0) : gm a b = ex (rd5 (lg a + lg b)) := by
  unfold gm rd5
  rw [if_neg (by omega)]
theorem lg_254 {a : Nat} (ha : a < 256) (h : a ≠ 0) : lg a ≤ 254 := by
  rcases lg_le ⟨a, ha⟩ with h1 | h1
  · exact h1
  · exact absurd h1 h
theorem rd_lt {s : Nat} (h : s ≤ 508) : rd5 s < 255 := by unfold rd5; split <;> omega
theorem lg_gm {a b : Nat} (ha : a < 256) (hb : b < 256) (h1 : a ≠ 0) (h2 : b ≠ 0) : lg (gm a b) = rd5 (lg a + lg b) ∧ gm a b ≠ 0 := by
  rw [gm_log h1 h2]
  have e1 := lg_254 ha h1
  have e2 := lg_254 hb h2
  exact lg_ex' ⟨rd5 (lg a + lg b), rd_lt (by omega)⟩
theorem gm_zero_left (b : Nat) : gm 0 b = 0 := by unfold gm; rw [if_pos (.inl rfl)]
theorem gm_zero_right (a : Nat) : gm a 0 = 0 := by unfold gm; rw [if_pos (.inr rfl)]
theorem gm_comm' (a b : Nat) : gm a b = gm b a := by
  by_cases h : a = 0 ∨ b = 0
  · unfold gm
    rw [if_pos h, if_pos h.symm]
  · have h1 : a ≠ 0 := fun e => h (.inl e)
    have h2 : b ≠ 0 := fun e => h (.inr e)
    rw [gm_log h1 h2, gm_log h2 h1, Nat.add_comm]
theorem gm_assoc' {a b c : Nat} (ha : a < 256) (hb : b < 256) (hc : c < 256) : gm (gm a b) c = gm a (gm b c) := by
  by_cases h1 : a = 0
  · subst h1; rw [gm_zero_left, gm_zero_left, gm_zero_left]
  by_cases h2 : b = 0
  · subst h2; rw [gm_zero_right, gm_zero_left, gm_zero_right]
  by_cases h3 : c = 0
  · subst h3; rw [gm_zero_right, gm_zero_right, gm_zero_right]
  obtain ⟨e1, n1⟩ := lg_gm ha hb h1 h2
  obtain ⟨e2, n2⟩ := lg_gm hb hc h2 h3
  rw [gm_log n1 h3, gm_log h1 n2, e1, e2]
  have := lg_254 ha h1
  have := lg_254 hb h2
  have := lg_254 hc h3
  congr 1
  unfold rd5
  split <;> split <;> split <;> split <;> omega
theorem mod2 (n : Nat) : n % 2 = 0 ∨ n % 2 = 1 := by omega
theorem bit_xor (p q i m : Nat) : ((p ^^^ q) >>> i) % 2 * m = ((p >>> i) % 2 * m) ^^^ ((q >>> i) % 2 * m) := by
  have e : ((p ^^^ q) >>> i) % 2 = ((p >>> i) % 2) ^^^ ((q >>> i) % 2) := by
    rw [Nat.shiftRight_xor_distrib]
    exact Nat.xor_mod_two_pow (n := 1)
  rw [e]
  rcases mod2 (p >>> i) with h1 | h1 <;> rcases mod2 (q >>> i) with h2 | h2 <;> rw [h1, h2] <;> simp
theorem P_xor (a b c : Nat) : P a (b ^^^ c) = P a b ^^^ P a c := by
  unfold P
  simp only [bit_xor]
  ac_rfl
theorem rem1_xor (i p q : Nat) : rem1 i (p ^^^ q) = rem1 i p ^^^ rem1 i q := by
  unfold rem1
  rw [bit_xor]
  ac_rfl
theorem R_xor (p q : Nat) : R (p ^^^ q) = R p ^^^ R q := by
  unfold R
  simp only [rem1_xor]
theorem gm_xor {a b c : Nat} (ha : a < 256) (hb : b < 256) (hc : c < 256) : gm a (b ^^^ c) = gm a b ^^^ gm a c := by
  rw [← gm_eq a _ ha (Nat.xor_lt_two_pow (n := 8) hb hc), ← gm_eq a b ha hb, ← gm_eq a c ha hc, P_xor, R_xor]
theorem gm_lt' (a b : Nat) : gm a b < 256 := by
  unfold gm
  split
  · omega
  · unfold ex
    by_cases h : (if 255 ≤ lg a + lg b then lg a + lg b - 255 else lg a + lg b) < 256
    · exact ex_lt ⟨_, h⟩
    · rw [List.getD_eq_getElem?_getD, List.getElem?_eq_none (by have : expTab.length = 256 := by decide +kernel
                                                                omega)]
      decide

/-! ### the type -/
abbrev E := Fin 256
def ad (a b : E) : E := ⟨a.val ^^^ b.val, Nat.xor_lt_two_pow (n := 8) a.2 b.2⟩
def ml (a b : E) : E := ⟨gm a.val b.val, gm_lt' _ _⟩
theorem ad_comm (a b : E) : ad a b = ad b a := Fin.ext (Nat.xor_comm _ _)
theorem ad_assoc (a b c : E) : ad (ad a b) c = ad a (ad b c) := Fin.ext (Nat.xor_assoc _ _ _)
theorem ad_zero (a : E) : ad a 0 = a := Fin.ext (Nat.xor_zero _)
theorem zero_ad (a : E) : ad 0 a = a := Fin.ext (Nat.zero_xor _)
theorem ad_self (a : E) : ad a a = 0 := Fin.ext (Nat.xor_self _)
theorem ad_four (a b c d : E) : ad (ad a b) (ad c d) = ad (ad a c) (ad b d) := by
  rw [ad_assoc, ad_assoc, ← ad_assoc b c d, ad_comm b c, ad_assoc c b d]
theorem ad_eq_zero (a b : E) : ad a b = 0 ↔ a = b := by
  constructor
  · intro h
    have : ad (ad a b) b = ad 0 b := by rw [h]
    rwa [ad_assoc, ad_self, ad_zero, zero_ad] at this
  · rintro rfl; exact ad_self a
theorem ml_comm (a b : E) : ml a b = ml b a := Fin.ext (gm_comm' _ _)
theorem ml_assoc (a b c : E) : ml (ml a b) c = ml a (ml b c) := Fin.ext (gm_assoc' a.2 b.2 c.2)
theorem zero_ml (a : E) : ml 0 a = 0 := Fin.ext (gm_zero_left a.val)
theorem ml_zero (a : E) : ml a 0 = 0 := Fin.ext (gm_zero_right a.val)
theorem one_ml (a : E) : ml 1 a = a := Fin.ext (one_gm a)
theorem ml_one (a : E) : ml a 1 = a := by rw [ml_comm, one_ml]
theorem ml_ad (a b c : E) : ml a (ad b c) = ad (ml a b) (ml a c) := Fin.ext (gm_xor a.2 b.2 c.2)
theorem ad_ml (a b c : E) : ml (ad a b) c = ad (ml a c) (ml b c) := by rw [ml_comm, ml_ad, ml_comm c a, ml_comm c b]
/-- The program's inverse: by the logarithm's complement. -/
def iv (a : Nat) : Nat := ex (lg a ^^^ 255)
theorem iv_all : ∀ a : Fin 256, a.val = 0 ∨ (gm (iv a.val) a.val = 1 ∧ iv a.val < 256) := by decide +kernel
theorem ml_cancel {c a : E} (hc : c ≠ 0) (h : ml c a = 0) : a = 0 := by
  rcases iv_all c with h0 | ⟨h1, h2⟩
  · exact absurd (Fin.ext h0) hc
  · have e : ml ⟨iv c.val, h2⟩ c = 1 := Fin.ext h1
    have : ml ⟨iv c.val, h2⟩ (ml c a) = ml ⟨iv c.val, h2⟩ 0 := by rw [h]
    rwa [← ml_assoc, e, one_ml, ml_zero] at this

/-! ### sums -/
def sm (f : Nat → E) : Nat → E
  | 0 => 0
  | n + 1 => ad (sm f n) (f n)
theorem sm_congr {f g : Nat → E} : ∀ n : Nat, (∀ k, k < n → f k = g k) → sm f n = sm g n
  | 0, _ => rfl
  | n + 1, h => by
    unfold sm
    rw [sm_congr n (fun k hk => h k (by omega)), h n (by omega)]
theorem sm_zero {f : Nat → E} : ∀ n : Nat, (∀ k, k < n → f k = 0) → sm f n = 0
  | 0, _ => rfl
  | n + 1, h => by
    unfold sm
    rw [sm_zero n (fun k hk => h k (by omega)), h n (by omega), ad_zero]
theorem sm_ad (f g : Nat → E) : ∀ n : Nat, sm (fun k => ad (f k) (g k)) n = ad (sm f n) (sm g n)
  | 0 => (ad_self 0).symm
  | n + 1 => by
    unfold sm
    rw [sm_ad f g n, ad_four]
theorem sm_ml (c : E) (f : Nat → E) : ∀ n : Nat, sm (fun k => ml c (f k)) n = ml c (sm f n)
  | 0 => by unfold sm; rw [ml_zero]
  | n + 1 => by
    unfold sm
    rw [sm_ml c f n, ml_ad]
theorem sm_swap (f : Nat → Nat → E) (m : Nat) : ∀ n : Nat, sm (fun i => sm (fun j => f i j) m) n = sm (fun j => sm (fun i => f i j) n) m
  | 0 => (sm_zero m (fun k _ => rfl)).symm
  | n + 1 => by
    have e : sm (fun j => sm (fun i => f i j) (n + 1)) m = sm (fun j => ad (sm (fun i => f i j) n) (f n j)) m := sm_congr m (fun k _ => rfl)
    rw [e, sm_ad, ← sm_swap f m n]
    rfl
theorem sm_one {f : Nat → E} {j : Nat} : ∀ n : Nat, j < n → (∀ k, k < n → k ≠ j → f k = 0) → sm f n = f j
  | 0, hj, _ => by omega
  | n + 1, hj, h => by
    unfold sm
    by_cases e : j = n
    · subst e
      rw [sm_zero j (fun k hk => h k (by omega) (by omega)), zero_ad]
    · rw [sm_one n (by omega) (fun k hk hne => h k (by omega) hne), h n (by omega) (by omega), ad_zero]
theorem sm_add (f : Nat → E) (n : Nat) : ∀ m : Nat, sm f (n + m) = ad (sm f n) (sm (fun k => f (n + k)) m)
  | 0 => (ad_zero _).symm
  | m + 1 => by
    rw [← Nat.add_assoc]
    show ad (sm f (n + m)) (f (n + m)) = _
    rw [sm_add f n m, ad_assoc]
    rfl
end Go.Proofs.YtipbhclpeogcmaaDoor.Gauss
