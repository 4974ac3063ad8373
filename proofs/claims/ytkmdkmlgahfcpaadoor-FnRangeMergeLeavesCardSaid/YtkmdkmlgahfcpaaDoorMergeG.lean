/- Plain numbers, no program: two neighbouring compact ranges put together. -/
import Derived.Test.YtkmdkmlgahfcpaaDoorNodes
namespace Go.Proofs.YtkmdkmlgahfcpaaDoor.Nodes
open Go

theorem max_level (p e : Nat) : ∀ (d l : Nat), 2 ^ l ∣ p → p + 2 ^ l ≤ e → e < l + d → ∃ l', 2 ^ l' ∣ p ∧ p + 2 ^ l' ≤ e ∧ ¬ (2 ^ (l' + 1) ∣ p ∧ p + 2 ^ (l' + 1) ≤ e)
  | 0, l, _, h2, h3 => by
    have := @Nat.lt_two_pow_self l
    omega
  | d + 1, l, h1, h2, h3 => by
    by_cases h : 2 ^ (l + 1) ∣ p ∧ p + 2 ^ (l + 1) ≤ e
    · exact max_level p e d (l + 1) h.1 h.2 (by omega)
    · exact ⟨l, h1, h2, h⟩
theorem G.exists_ (e : Nat) : ∀ (d p : Nat), p + d = e → ∃ L, G p e L := by
  intro d
  induction d using Nat.strongRecOn with
  | _ d ih =>
    intro p h
    by_cases h0 : d = 0
    · subst h0
      rw [Nat.add_zero] at h
      subst h
      exact ⟨[], G.nil _⟩
    · obtain ⟨l, h1, h2, h3⟩ := max_level p e (e + 1) 0 (Nat.one_dvd _) (by rw [Nat.pow_zero]; omega) (by omega)
      have := pow_pos l
      obtain ⟨L, hL⟩ := ih (d - 2 ^ l) (by omega) (p + 2 ^ l) (by omega)
      exact ⟨_, G.cons p e l L h1 h2 h3 hL⟩
theorem half (x h : Nat) : x * 2 ^ h = 2 ^ (h + 1) * (x / 2) + x % 2 * 2 ^ h := by
  have e : 2 ^ (h + 1) * (x / 2) = 2 * (x / 2) * 2 ^ h := by rw [Nat.pow_succ, Nat.mul_comm, Nat.mul_comm (2 ^ h) 2, ← Nat.mul_assoc, Nat.mul_comm (x / 2) 2]
  rw [e, ← Nat.add_mul, Nat.div_add_mod]
/-- A node between two ranges, whose parent does not fit: the three are the range of all. -/
theorem G.join {b m h e x : Nat} {L R : List (Nat × Nat)} (hL : G b m L) (hm : m = x * 2 ^ h) (hR : G ((x + 1) * 2 ^ h) e R)
    (hno : ¬ (b ≤ x / 2 * 2 ^ (h + 1) ∧ (x / 2 + 1) * 2 ^ (h + 1) ≤ e)) : G b e (L ++ (h, x) :: R) := by
  have hp := pow_pos h
  have e2 : 2 ^ (h + 1) = 2 * 2 ^ h := by rw [Nat.pow_succ]; omega
  have e3 : (x + 1) * 2 ^ h = x * 2 ^ h + 2 ^ h := by rw [Nat.add_mul, Nat.one_mul]
  have hle := hR.le
  induction hL with
  | nil =>
    subst hm
    have := G.cons (x * 2 ^ h) e h R ⟨x, Nat.mul_comm _ _⟩ (by omega) ?_ (by rw [← e3]; exact hR)
    · rw [Nat.mul_div_cancel _ hp] at this
      exact this
    · rintro ⟨h1, h2⟩
      apply hno
      have h3 : x % 2 = 0 := by
        obtain ⟨c, hc⟩ := h1
        rw [e2, Nat.mul_comm 2, Nat.mul_assoc, Nat.mul_comm] at hc
        have := Nat.eq_of_mul_eq_mul_left hp hc
        omega
      have h4 := half x h
      rw [h3, Nat.zero_mul, Nat.add_zero, Nat.mul_comm] at h4
      rw [Nat.mul_comm, h4, Nat.add_mul, Nat.one_mul, ← Nat.mul_comm (2 ^ (h + 1)), ← h4]
      rw [Nat.mul_comm (2 ^ h)]
      exact ⟨Nat.le_refl _, h2⟩
  | cons p m l L hd hle1 hmax t ih =>
    have ht := t.le
    refine G.cons p e l _ hd (by omega) ?_ (ih hm (fun hx => hno ⟨Nat.le_trans (Nat.le_add_right _ _) hx.1, hx.2⟩))
    rintro ⟨h1, h2⟩
    have h3 : m < p + 2 ^ (l + 1) := by
      apply Nat.lt_of_not_le
      intro hx
      exact hmax ⟨h1, hx⟩
    have hpl := pow_pos l
    have hhl : h ≤ l := by
      apply Nat.le_of_not_lt
      intro hlt
      have hx : 2 ^ (l + 1) ∣ m - p := Nat.dvd_sub (by rw [hm]; exact Nat.dvd_trans (Nat.pow_dvd_pow 2 hlt) ⟨x, Nat.mul_comm _ _⟩) h1
      have := Nat.le_of_dvd (by omega) hx
      omega
    have hc : 2 ^ (h + 1) ∣ 2 ^ (l + 1) := Nat.pow_dvd_pow 2 (by omega)
    obtain ⟨a', ha⟩ := Nat.dvd_trans hc h1
    obtain ⟨b', hb⟩ := Nat.dvd_add (Nat.dvd_trans hc h1) hc
    have h4 := half x h
    have hr : x % 2 * 2 ^ h < 2 ^ (h + 1) := by
      rcases Nat.mod_two_eq_zero_or_one x with hx | hx <;> rw [hx] <;> omega
    generalize 2 ^ (h + 1) = c at *
    have h5 : a' ≤ x / 2 := by
      apply Nat.le_of_lt_succ
      apply Nat.lt_of_mul_lt_mul_left (a := c)
      rw [Nat.mul_succ]
      omega
    have h6 : x / 2 + 1 ≤ b' := by
      apply Nat.lt_of_mul_lt_mul_left (a := c)
      omega
    apply hno
    constructor
    · rw [ha, Nat.mul_comm _ c]; exact Nat.mul_le_mul_left c h5
    · have := Nat.mul_le_mul_left c h6
      rw [Nat.mul_comm]
      omega
/-- The last node of a range, where a right child follows that fits with it. -/
theorem G.last {b h x : Nat} {L : List (Nat × Nat)} (hx : x % 2 = 1) (hL : G b (x * 2 ^ h) L) (hb : b ≤ (x - 1) * 2 ^ h) : ∃ L', L = L' ++ [(h, x - 1)] ∧ G b ((x - 1) * 2 ^ h) L' := by
  obtain ⟨L', hL'⟩ := G.exists_ ((x - 1) * 2 ^ h) ((x - 1) * 2 ^ h - b) b (by omega)
  refine ⟨L', ?_, hL'⟩
  have e : x - 1 + 1 = x := by omega
  have hp := pow_pos h
  refine hL.det (G.join hL' rfl (R := []) (by rw [e]; exact G.nil _) ?_)
  rintro ⟨_, h2⟩
  have e2 : (x - 1) / 2 = x / 2 := by omega
  rw [e2, show (x / 2 + 1) * 2 ^ (h + 1) = (x + 1) * 2 ^ h by rw [Nat.pow_succ, Nat.mul_comm (2 ^ h) 2, ← Nat.mul_assoc]; congr 1; omega, Nat.add_mul, Nat.one_mul] at h2
  omega
/-- The first node of a range, where a left child goes ahead that fits with it. -/
theorem G.first {e h x : Nat} {R : List (Nat × Nat)} (hx : x % 2 = 0) (hR : G ((x + 1) * 2 ^ h) e R) (he : (x + 2) * 2 ^ h ≤ e) : ∃ R', R = (h, x + 1) :: R' ∧ G ((x + 2) * 2 ^ h) e R' := by
  obtain ⟨R', hR'⟩ := G.exists_ e (e - (x + 2) * 2 ^ h) ((x + 2) * 2 ^ h) (by omega)
  refine ⟨R', ?_, hR'⟩
  have hp := pow_pos h
  have e3 : (x + 2) * 2 ^ h = (x + 1) * 2 ^ h + 2 ^ h := by rw [show x + 2 = (x + 1) + 1 from rfl, Nat.add_mul (x + 1), Nat.one_mul]
  have := G.cons ((x + 1) * 2 ^ h) e h R' ⟨x + 1, Nat.mul_comm _ _⟩ (by omega) ?_ (by rw [← e3]; exact hR')
  · rw [Nat.mul_div_cancel _ hp] at this
    exact hR.det this
  · rintro ⟨⟨c, hc⟩, _⟩
    rw [Nat.pow_succ, Nat.mul_assoc, Nat.mul_comm] at hc
    have := Nat.eq_of_mul_eq_mul_left hp hc
    omega
/-- The node at level h on the way up from m fits between b and e. -/
def Fits (b e m h : Nat) : Prop := b ≤ m / 2 ^ h * 2 ^ h ∧ (m / 2 ^ h + 1) * 2 ^ h ≤ e
theorem div_up (m h : Nat) : m / 2 ^ (h + 1) = m / 2 ^ h / 2 := by rw [Nat.pow_succ, Nat.div_div_eq_div_mul]
theorem Fits.down {b e m h : Nat} (hf : Fits b e m (h + 1)) : Fits b e m h := by
  obtain ⟨h1, h2⟩ := hf
  rw [div_up] at h1 h2
  have h4 := half (m / 2 ^ h) h
  have hp := pow_pos h
  have e2 : 2 ^ (h + 1) = 2 * 2 ^ h := by rw [Nat.pow_succ]; omega
  have hr : m / 2 ^ h % 2 * 2 ^ h + 2 ^ h ≤ 2 ^ (h + 1) := by
    rcases Nat.mod_two_eq_zero_or_one (m / 2 ^ h) with hx | hx <;> rw [hx] <;> omega
  rw [Nat.add_mul, Nat.one_mul] at h2
  rw [Nat.mul_comm] at h1 h2
  unfold Fits
  rw [Nat.add_mul, Nat.one_mul]
  omega
theorem Fits.le {b e m h h' : Nat} (hf : Fits b e m h) (hle : h' ≤ h) : Fits b e m h' := by
  induction hle with
  | refl => exact hf
  | step _ ih => exact ih hf.down
theorem Fits.lt {b e m h : Nat} (hf : Fits b e m h) : 2 ^ h ≤ e := by
  have := hf.2
  rw [Nat.add_mul, Nat.one_mul] at this
  exact Nat.le_trans (Nat.le_add_left _ _) this
theorem bl_lt (z k : Nat) (hz : z < 2 ^ 64) : k < Lib.bitLen z ↔ 2 ^ k ≤ z := by
  constructor
  · intro h
    apply Nat.le_of_not_lt
    intro hlt
    by_cases hk : k ≤ 64
    · have := Lib.bitLen_le z k hk hlt
      omega
    · have := Lib.bitLen_le z 64 (Nat.le_refl _) hz
      omega
  · intro h
    have hp := pow_pos k
    rw [Lib.bitLen_shift k z h hz, Lib.bitLen_half (z / 2 ^ k) (by have := Nat.div_pos h hp; omega) (Nat.lt_of_le_of_lt (Nat.div_le_self _ _) hz)]
    omega
theorem xor_zero' {a b : Nat} : a ^^^ b = 0 ↔ a = b := by
  constructor
  · intro h
    apply Nat.eq_of_testBit_eq
    intro i
    have h2 : (a ^^^ b).testBit i = (0 : Nat).testBit i := by rw [h]
    rw [Nat.testBit_xor, Nat.zero_testBit] at h2
    cases h3 : a.testBit i <;> cases h4 : b.testBit i <;> simp [h3, h4] at h2 ⊢
  · intro h; rw [h]; exact Nat.xor_self _
theorem fork_iff {x y : Nat} (k : Nat) (hx : x < 2 ^ 64) (hy : y < 2 ^ 64) : k < Lib.bitLen (x ^^^ y) ↔ x / 2 ^ k ≠ y / 2 ^ k := by
  rw [bl_lt _ _ (Nat.xor_lt_two_pow hx hy), ← Nat.one_le_div_iff (pow_pos k), Nat.xor_div_two_pow]
  constructor
  · intro h h2
    rw [h2, Nat.xor_self] at h
    omega
  · intro h
    apply Nat.pos_of_ne_zero
    intro h2
    exact h (xor_zero'.1 h2)
/-- Which levels the merge path has. -/
theorem path_iff {b m e j : Nat} (hb : b ≤ m) (hm : 0 < m) (hme : m < e) (he : e < 2 ^ 64) (hj : ¬ 2 ^ (j + 1) ∣ m) :
    ((b = 0 ∨ j + 1 < Lib.bitLen (m ^^^ (b - 1))) ∧ j + 1 < Lib.bitLen ((m - 1) ^^^ e)) ↔ Fits b e m (j + 1) := by
  have hc := pow_pos (j + 1)
  rw [fork_iff (j + 1) (by omega) (by omega), fork_iff (j + 1) (by omega) he]
  unfold Fits
  generalize 2 ^ (j + 1) = c at *
  have m1 := Nat.div_add_mod m c
  have m2 := Nat.mod_lt m hc
  have b1 := Nat.div_add_mod (b - 1) c
  have b2 := Nat.mod_lt (b - 1) hc
  have e1 := Nat.div_add_mod e c
  have e2 := Nat.mod_lt e hc
  have hr : m % c ≠ 0 := fun h => hj (Nat.dvd_of_mod_eq_zero h)
  have hq : (m - 1) / c = m / c := by
    have h0 : (m % c - 1) / c = 0 := Nat.div_eq_of_lt (by omega)
    rw [show m - 1 = c * (m / c) + (m % c - 1) by omega, Nat.mul_add_div hc, h0, Nat.add_zero]
  rw [hq]
  have h1 : (b - 1) / c ≤ m / c := Nat.div_le_div_right (by omega)
  have h2 : m / c ≤ e / c := Nat.div_le_div_right (by omega)
  generalize m / c = u at *
  generalize (b - 1) / c = v at *
  generalize e / c = t at *
  have k1 : b = 0 ∨ u ≠ v ↔ b ≤ u * c := by
    constructor
    · rintro (h | h)
      · omega
      · have := Nat.mul_le_mul_left c (show v + 1 ≤ u by omega)
        rw [Nat.mul_succ] at this
        rw [Nat.mul_comm]
        omega
    · intro h
      by_cases h0 : b = 0
      · exact .inl h0
      · right
        rintro rfl
        rw [Nat.mul_comm] at h
        omega
  have k2 : u ≠ t ↔ (u + 1) * c ≤ e := by
    rw [Nat.mul_comm]
    constructor
    · intro h
      have := Nat.mul_le_mul_left c (show u + 1 ≤ t by omega)
      omega
    · rintro h rfl
      rw [Nat.mul_succ] at h
      omega
  rw [k1, k2]
theorem pop_fuel : ∀ (f x : Nat), x < 2 ^ f → Lib.popAux (f + 1) x = Lib.popAux f x
  | 0, x, h => by
    obtain rfl : x = 0 := by simp at h; exact h
    rfl
  | f + 1, x, h => by
    rw [Lib.popAux, pop_fuel f (x / 2) (by rw [Nat.pow_succ] at h; omega), Lib.popAux]
theorem pop_succ (x : Nat) (h : x < 2 ^ 64) : Lib.onesCount x = x % 2 + Lib.onesCount (x / 2) := by
  unfold Lib.onesCount
  rw [show (64 : Nat) = 63 + 1 from rfl, Lib.popAux, pop_fuel 63 (x / 2) (by omega)]
theorem pop_low (x d : Nat) (h : x < 2 ^ 64) : Lib.onesCount (x % 2 ^ (d + 1)) = x % 2 + Lib.onesCount (x / 2 % 2 ^ d) := by
  have e : 2 ^ (d + 1) = 2 * 2 ^ d := by rw [Nat.pow_succ]; omega
  rw [pop_succ _ (Nat.lt_of_le_of_lt (Nat.mod_le _ _) h), e, Nat.mod_mul_right_div_self, Nat.mod_mod_of_dvd _ ⟨2 ^ d, rfl⟩]
theorem pop_none : Lib.onesCount 0 = 0 := by decide
end Go.Proofs.YtkmdkmlgahfcpaaDoor.Nodes
