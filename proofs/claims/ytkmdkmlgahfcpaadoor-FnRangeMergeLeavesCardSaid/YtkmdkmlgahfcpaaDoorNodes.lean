/- Plain numbers, no program: the perfect trees that cover a range of leaves, from left to right, each the greatest one that begins where the one before ends. -/
import Derived.Lib.BitFns
import Derived.Lib.TrailingZeros
import Derived.Lib.ItoaNum
namespace Go.Proofs.YtkmdkmlgahfcpaaDoor.Nodes
open Go

/-- G p e L: L has the levels and indexes of the greedy perfect trees from p to e. -/
inductive G : Nat → Nat → List (Nat × Nat) → Prop
  | nil (e : Nat) : G e e []
  | cons (p e l : Nat) (L : List (Nat × Nat)) (hd : 2 ^ l ∣ p) (hle : p + 2 ^ l ≤ e) (hmax : ¬ (2 ^ (l + 1) ∣ p ∧ p + 2 ^ (l + 1) ≤ e)) (t : G (p + 2 ^ l) e L) : G p e ((l, p / 2 ^ l) :: L)

theorem pow_pos (l : Nat) : 0 < 2 ^ l := Nat.two_pow_pos l
theorem pow_dvd {a b p : Nat} (h : a ≤ b) (hd : 2 ^ b ∣ p) : 2 ^ a ∣ p := Nat.dvd_trans (Nat.pow_dvd_pow 2 h) hd
theorem pow_mono {a b : Nat} (h : a ≤ b) : 2 ^ a ≤ 2 ^ b := Nat.pow_le_pow_right (by decide) h
theorem pow_lt {a b : Nat} (h : a < b) : 2 ^ a < 2 ^ b := Nat.pow_lt_pow_right (by decide) h

theorem G.le {p e : Nat} {L : List (Nat × Nat)} (h : G p e L) : p ≤ e := by
  induction h with
  | nil => exact Nat.le_refl _
  | cons p e l L _ hle _ _ _ => have := pow_pos l; omega

theorem level_unique {p e l l' : Nat} (hd : 2 ^ l ∣ p) (hle : p + 2 ^ l ≤ e) (hmax : ¬ (2 ^ (l + 1) ∣ p ∧ p + 2 ^ (l + 1) ≤ e))
    (hd' : 2 ^ l' ∣ p) (hle' : p + 2 ^ l' ≤ e) (hmax' : ¬ (2 ^ (l' + 1) ∣ p ∧ p + 2 ^ (l' + 1) ≤ e)) : l = l' := by
  rcases Nat.lt_trichotomy l l' with h | h | h
  · exact absurd ⟨pow_dvd h hd', Nat.le_trans (Nat.add_le_add_left (pow_mono h) p) hle'⟩ hmax
  · exact h
  · exact absurd ⟨pow_dvd h hd, Nat.le_trans (Nat.add_le_add_left (pow_mono h) p) hle⟩ hmax'

theorem G.det {p e : Nat} {L L' : List (Nat × Nat)} (h : G p e L) (h' : G p e L') : L = L' := by
  induction h generalizing L' with
  | nil e =>
    cases h' with
    | nil => rfl
    | cons _ _ l L hd hle => have := pow_pos l; omega
  | cons p e l L hd hle hmax t ih =>
    cases h' with
    | nil => have := pow_pos l; omega
    | cons _ _ l' L' hd' hle' hmax' t' =>
      obtain rfl := level_unique hd hle hmax hd' hle' hmax'
      rw [ih t']

theorem dvd_add_iff {a T p : Nat} (h : a ∣ T) : a ∣ T + p ↔ a ∣ p := by
  constructor
  · intro h2; exact (Nat.dvd_add_iff_right h).2 h2
  · intro h2; exact Nat.dvd_add h h2

theorem G.level_le {p e k : Nat} {L : List (Nat × Nat)} (h : G p e L) (he : e ≤ 2 ^ k) : ∀ n ∈ L, n.1 ≤ k := by
  induction h with
  | nil => intro n hn; cases hn
  | cons p e l L _ hle _ _ ih =>
    intro n hn
    rcases List.mem_cons.1 hn with rfl | hn
    · show l ≤ k
      apply Nat.le_of_not_lt
      intro hlt
      have := pow_lt hlt
      omega
    · exact ih he n hn

theorem G.bound {p e : Nat} {L : List (Nat × Nat)} (h : G p e L) : ∀ n ∈ L, p ≤ n.2 * 2 ^ n.1 ∧ n.2 * 2 ^ n.1 + 2 ^ n.1 ≤ e := by
  induction h with
  | nil => intro n hn; cases hn
  | cons p e l L hd hle _ _ ih =>
    intro n hn
    rcases List.mem_cons.1 hn with rfl | hn
    · show p ≤ p / 2 ^ l * 2 ^ l ∧ p / 2 ^ l * 2 ^ l + 2 ^ l ≤ e
      rw [Nat.div_mul_cancel hd]
      exact ⟨Nat.le_refl _, hle⟩
    · have := ih n hn
      omega
theorem G.index_le {p e : Nat} {L : List (Nat × Nat)} (h : G p e L) (n : Nat × Nat) (hn : n ∈ L) : n.2 ≤ e ∧ 2 ^ n.1 ≤ e := by
  have h1 := (h.bound n hn).2
  have h2 : n.2 * 1 ≤ n.2 * 2 ^ n.1 := Nat.mul_le_mul_left _ (pow_pos n.1)
  rw [Nat.mul_one] at h2
  exact ⟨Nat.le_trans h2 (Nat.le_trans (Nat.le_add_right _ _) h1), Nat.le_trans (Nat.le_add_left _ _) h1⟩
theorem G.empty {p e : Nat} {L : List (Nat × Nat)} (h : G p e L) : L = [] ↔ p = e := by
  cases h with
  | nil => simp
  | cons _ _ l L _ hle => have := pow_pos l; exact ⟨fun h' => (by cases h'), fun h' => (by omega)⟩

theorem G.shift {p e k T : Nat} {L : List (Nat × Nat)} (h : G p e L) (hT : 2 ^ k ∣ T) (he : e ≤ 2 ^ k) : G (T + p) (T + e) (L.map fun n => (n.1, T / 2 ^ n.1 + n.2)) := by
  induction h with
  | nil e => exact G.nil _
  | cons p e l L hd hle hmax t ih =>
    have hl : l ≤ k := by
      apply Nat.le_of_not_lt
      intro hlt
      have := pow_lt hlt
      omega
    have hTl := pow_dvd hl hT
    have e1 : (T + p) / 2 ^ l = T / 2 ^ l + p / 2 ^ l := by
      obtain ⟨a, rfl⟩ := hTl
      rw [Nat.mul_add_div (pow_pos l), Nat.mul_div_cancel_left _ (pow_pos l)]
    simp only [List.map_cons]
    rw [← e1]
    refine G.cons (T + p) (T + e) l _ ((dvd_add_iff hTl).2 hd) (by omega) ?_ (by rw [Nat.add_assoc]; exact ih he)
    rintro ⟨hx, hy⟩
    have hl2 : l + 1 ≤ k := by
      apply Nat.le_of_not_lt
      intro hlt
      have := pow_mono (show k ≤ l by omega)
      have h3 : 2 ^ (l + 1) = 2 * 2 ^ l := by rw [Nat.pow_succ]; omega
      have := pow_pos l
      omega
    exact hmax ⟨(dvd_add_iff (pow_dvd hl2 hT)).1 hx, by omega⟩

theorem xor_mod2 (m n : Nat) : (m ^^^ n) % 2 = (m % 2 + n % 2) % 2 := by
  have h := @Nat.xor_mod_two_pow m n 1
  rw [show 2 ^ 1 = 2 from rfl] at h
  rw [h]
  rcases Nat.mod_two_eq_zero_or_one m with a | a <;> rcases Nat.mod_two_eq_zero_or_one n with b | b <;> rw [a, b] <;> rfl

theorem odd_xor_one (x : Nat) (h : x % 2 = 1) : x ^^^ 1 = x - 1 := by
  have h1 : (x ^^^ 1) % 2 = 0 := by
    have := xor_mod2 x 1
    omega
  have h2 : (x ^^^ 1) / 2 = x / 2 := by
    have := Nat.xor_div_two (a := x) (b := 1)
    simpa using this
  omega
theorem even_xor_one (x : Nat) (h : x % 2 = 0) : x ^^^ 1 = x + 1 := by
  have h1 : (x ^^^ 1) % 2 = 1 := by
    have := xor_mod2 x 1
    omega
  have h2 : (x ^^^ 1) / 2 = x / 2 := by
    have := Nat.xor_div_two (a := x) (b := 1)
    simpa using this
  omega

/-- A bit that is set is taken away. -/
theorem xor_bit (m l : Nat) (h : m / 2 ^ l % 2 = 1) : m ^^^ 2 ^ l = m - 2 ^ l := by
  induction l generalizing m with
  | zero => simp at h ⊢; exact odd_xor_one m h
  | succ l ih =>
    have e : m / 2 / 2 ^ l = m / 2 ^ (l + 1) := by rw [Nat.div_div_eq_div_mul, Nat.pow_succ, Nat.mul_comm]
    have h3 := ih (m / 2) (by rw [e]; exact h)
    have h1 : (m ^^^ 2 ^ (l + 1)) % 2 = m % 2 := by
      have := xor_mod2 m (2 ^ (l + 1))
      have h4 : 2 ^ (l + 1) % 2 = 0 := by rw [Nat.pow_succ]; omega
      omega
    have h2 : (m ^^^ 2 ^ (l + 1)) / 2 = m / 2 ^^^ 2 ^ l := by
      have := Nat.xor_div_two (a := m) (b := 2 ^ (l + 1))
      rw [this, Nat.pow_succ, Nat.mul_div_cancel _ (by decide)]
    rw [h3] at h2
    have h5 : 2 ^ (l + 1) = 2 * 2 ^ l := by rw [Nat.pow_succ]; omega
    have h6 : 2 ^ l ≤ m / 2 := by
      apply Nat.le_of_not_lt
      intro hlt
      rw [← e, Nat.div_eq_of_lt hlt] at h
      omega
    omega

theorem bitLen_top (m : Nat) (h0 : m ≠ 0) (h : m < 2 ^ 64) : ∃ l, Lib.bitLen m = l + 1 ∧ 2 ^ l ≤ m ∧ m < 2 ^ (l + 1) ∧ l < 64 := by
  obtain ⟨a, b, c⟩ := Lib.bitLenAux_bounds 64 m h h0
  refine ⟨Lib.bitLenAux 64 m - 1, ?_, b, ?_, ?_⟩
  · show Lib.bitLenAux 64 m = _; omega
  · rw [show Lib.bitLenAux 64 m - 1 + 1 = Lib.bitLenAux 64 m by omega]; exact c
  · have := Lib.bitLen_le m 64 (by decide) h
    have e : Lib.bitLen m = Lib.bitLenAux 64 m := rfl
    omega

theorem ctz_low (m : Nat) (h0 : m ≠ 0) (h : m < 2 ^ 64) : ∃ q, m = 2 ^ Lib.ctz 64 m * (2 * q + 1) ∧ Lib.ctz 64 m < 64 := by
  have e : Lib.ctz 64 m = Lib.ctzFrom 64 m := by unfold Lib.ctz; rw [if_neg h0]
  rw [e]
  exact Lib.ctzFrom_spec 64 m (by omega) h

/-- One tree of the right part: the highest bit of what is left. -/
theorem dn_step (p m c : Nat) (hc : 2 ^ c ∣ p) (h0 : m ≠ 0) (hm : m < 2 ^ c) (hm2 : m < 2 ^ 64) : ∃ l, Lib.bitLen m = l + 1 ∧ l < c ∧ l < 64 ∧ 2 ^ l ∣ p ∧ p + 2 ^ l ≤ p + m ∧ ¬ (2 ^ (l + 1) ∣ p ∧ p + 2 ^ (l + 1) ≤ p + m) ∧ 2 ^ l ∣ p + 2 ^ l ∧ m - 2 ^ l < 2 ^ l ∧ m ^^^ 2 ^ l = m - 2 ^ l := by
  obtain ⟨l, e, h1, h2, h3⟩ := bitLen_top m h0 hm2
  have hl : l < c := by
    apply Nat.lt_of_not_le
    intro hle
    have := pow_mono hle
    omega
  have h5 : 2 ^ (l + 1) = 2 * 2 ^ l := by rw [Nat.pow_succ]; omega
  have hd := pow_dvd (Nat.le_of_lt hl) hc
  refine ⟨l, e, hl, h3, hd, by omega, fun h => by omega, Nat.dvd_add hd (Nat.dvd_refl _), by omega, xor_bit m l ?_⟩
  have h6 : m / 2 ^ l = 1 := by
    apply Nat.div_eq_of_lt_le <;> omega
  rw [h6]

/-- One tree of the left part: the lowest bit of what is left. -/
theorem up_step (p m d e : Nat) (hd : 2 ^ d ∣ p + m) (h0 : m ≠ 0) (hm : m < 2 ^ d) (hm2 : m < 2 ^ 64) (he : p + m ≤ e) :
    ∃ l q, Lib.ctz 64 m = l ∧ m = 2 ^ l * (2 * q + 1) ∧ l < d ∧ l < 64 ∧ 2 ^ l ∣ p ∧ p + 2 ^ l ≤ e ∧ ¬ (2 ^ (l + 1) ∣ p ∧ p + 2 ^ (l + 1) ≤ e) ∧ p / 2 ^ l % 2 = 1 ∧ 2 ^ l ≤ m ∧ 2 ^ (l + 1) ∣ m - 2 ^ l ∧ m ^^^ 2 ^ l = m - 2 ^ l := by
  obtain ⟨q, hq, hl64⟩ := ctz_low m h0 hm2
  generalize Lib.ctz 64 m = l at *
  have hlm : 2 ^ l ≤ m := by
    conv => rhs; rw [hq]
    exact Nat.le_mul_of_pos_right _ (by omega)
  have hld : l < d := by
    apply Nat.lt_of_not_le
    intro hle
    have := pow_mono hle
    omega
  have hlow : 2 ^ l ∣ m := ⟨2 * q + 1, hq⟩
  have hp : 2 ^ l ∣ p := (Nat.dvd_add_iff_left hlow).2 (pow_dvd (Nat.le_of_lt hld) hd)
  have h5 : 2 ^ (l + 1) = 2 ^ l * 2 := by rw [Nat.pow_succ]
  have hodd : p / 2 ^ l % 2 = 1 := by
    obtain ⟨a, rfl⟩ := hp
    have h6 : 2 ^ (l + 1) ∣ 2 ^ l * a + m := pow_dvd hld hd
    rw [hq, ← Nat.mul_add, h5] at h6
    have h7 := Nat.dvd_of_mul_dvd_mul_left (pow_pos l) h6
    rw [Nat.mul_div_cancel_left _ (pow_pos l)]
    omega
  refine ⟨l, q, rfl, hq, hld, hl64, hp, by omega, ?_, hodd, hlm, ?_, xor_bit m l ?_⟩
  · rintro ⟨h6, _⟩
    obtain ⟨a, ha⟩ := h6
    rw [h5, Nat.mul_assoc] at ha
    rw [ha, Nat.mul_div_cancel_left _ (pow_pos l)] at hodd
    omega
  · refine ⟨q, ?_⟩
    rw [h5, Nat.mul_assoc]
    have : 2 ^ l * (2 * q + 1) = 2 ^ l * (2 * q) + 2 ^ l := by rw [Nat.mul_add, Nat.mul_one]
    omega
  · rw [hq, Nat.mul_div_cancel_left _ (pow_pos l)]
    omega
end Go.Proofs.YtkmdkmlgahfcpaaDoor.Nodes
