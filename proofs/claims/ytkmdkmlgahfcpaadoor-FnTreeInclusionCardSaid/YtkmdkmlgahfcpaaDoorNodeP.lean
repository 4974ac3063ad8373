/- Plain numbers: the way up from a node, what is beside it on the left and on the right, and two ranges put together. -/
import Derived.Test.YtkmdkmlgahfcpaaDoorNodes2
namespace Go.Proofs.YtkmdkmlgahfcpaaDoor.Nodes
open Go
set_option linter.unusedVariables false

/-- What is beside the way up, m levels. -/
def sf : Nat → Nat → Nat → List (Nat × Nat)
  | _, _, 0 => []
  | l, x, m + 1 => (l, x ^^^ 1) :: sf (l + 1) (x / 2) m
def lfF : Nat → Nat → Nat → List (Nat × Nat) → List (Nat × Nat)
  | _, _, 0, M => M
  | l, x, m + 1, M => lfF (l + 1) (x / 2) m (if x % 2 = 1 then (l, x - 1) :: M else M)
def rgF : Nat → Nat → Nat → List (Nat × Nat) → List (Nat × Nat)
  | _, _, 0, T => T
  | l, x, m + 1, T => if x % 2 = 1 then rgF (l + 1) (x / 2) m T else (l, x + 1) :: rgF (l + 1) (x / 2) m T

theorem sf_len : ∀ (m l x : Nat), (sf l x m).length = m
  | 0, _, _ => rfl
  | m + 1, l, x => by rw [sf, List.length_cons, sf_len m]

theorem sf_perm (T : List (Nat × Nat)) : ∀ (m l x : Nat) (M : List (Nat × Nat)), (sf l x m ++ M ++ T).Perm (lfF l x m M ++ rgF l x m T)
  | 0, l, x, M => by simp only [sf, lfF, rgF, List.nil_append]; exact List.Perm.refl _
  | m + 1, l, x, M => by
    rcases Nat.mod_two_eq_zero_or_one x with h | h
    · rw [sf, lfF, rgF, if_neg (by omega), if_neg (by omega), even_xor_one x h]
      have ih := sf_perm T m (l + 1) (x / 2) M
      exact (List.Perm.cons _ ih).trans List.perm_middle.symm
    · rw [sf, lfF, rgF, if_pos h, if_pos h, odd_xor_one x h]
      have ih := sf_perm T m (l + 1) (x / 2) ((l, x - 1) :: M)
      refine List.Perm.trans ?_ ih
      have e : sf (l + 1) (x / 2) m ++ (l, x - 1) :: M ++ T = sf (l + 1) (x / 2) m ++ (l, x - 1) :: (M ++ T) := by simp
      rw [e]
      refine List.Perm.trans ?_ List.perm_middle.symm
      simp only [List.cons_append, List.append_assoc]
      exact List.Perm.refl _

theorem up_l (x l m : Nat) : x / 2 / 2 ^ m * 2 ^ (l + 1 + m) = x / 2 ^ (m + 1) * 2 ^ (l + (m + 1)) := by
  rw [Nat.div_div_eq_div_mul, show 2 * 2 ^ m = 2 ^ (m + 1) by rw [Nat.pow_succ]; omega, show l + 1 + m = l + (m + 1) by omega]
theorem up_r (x l m : Nat) : (x / 2 / 2 ^ m + 1) * 2 ^ (l + 1 + m) = (x / 2 ^ (m + 1) + 1) * 2 ^ (l + (m + 1)) := by
  rw [Nat.div_div_eq_div_mul, show 2 * 2 ^ m = 2 ^ (m + 1) by rw [Nat.pow_succ]; omega, show l + 1 + m = l + (m + 1) by omega]

theorem G_lf (s : Nat) : ∀ (m l x : Nat) (M : List (Nat × Nat)), G (x * 2 ^ l) s M → (s < (x + 1) * 2 ^ l ∨ (x % 2 = 0 ∧ s ≤ (x + 1) * 2 ^ l)) →
    G (x / 2 ^ m * 2 ^ (l + m)) s (lfF l x m M)
  | 0, l, x, M => fun hG _ => by simpa [lfF] using hG
  | m + 1, l, x, M => fun hG hs => by
    have hp := pow_pos l
    have e2 : 2 ^ (l + 1) = 2 * 2 ^ l := by rw [Nat.pow_succ]; omega
    rw [lfF, ← up_l]
    rcases Nat.mod_two_eq_zero_or_one x with h | h
    · rw [if_neg (by omega)]
      obtain ⟨u, rfl⟩ : ∃ u, x = 2 * u := ⟨x / 2, by omega⟩
      rw [show 2 * u / 2 = u by omega]
      refine G_lf s m (l + 1) u M ?_ (.inl ?_)
      · rw [e2, show u * (2 * 2 ^ l) = 2 * u * 2 ^ l by rw [Nat.mul_left_comm, Nat.mul_assoc]]
        exact hG
      · rw [e2, show (u + 1) * (2 * 2 ^ l) = (2 * u + 1) * 2 ^ l + 2 ^ l by rw [← Nat.mul_assoc, show (u + 1) * 2 = (2 * u + 1) + 1 by omega, Nat.add_mul (2 * u + 1) 1, Nat.one_mul]]
        rcases hs with hs | hs <;> omega
    · rw [if_pos h]
      have hs : s < (x + 1) * 2 ^ l := by rcases hs with hs | hs; exact hs; omega
      obtain ⟨u, rfl⟩ : ∃ u, x = 2 * u + 1 := ⟨x / 2, by omega⟩
      rw [show (2 * u + 1) / 2 = u by omega, show 2 * u + 1 - 1 = 2 * u by omega]
      have e3 : u * 2 ^ (l + 1) = 2 * u * 2 ^ l := by rw [e2, Nat.mul_left_comm, Nat.mul_assoc]
      have e4 : (2 * u + 1) * 2 ^ l = 2 * u * 2 ^ l + 2 ^ l := by rw [Nat.add_mul, Nat.one_mul]
      have e5 : (2 * u + 1 + 1) * 2 ^ l = 2 * u * 2 ^ l + 2 * 2 ^ l := by rw [Nat.add_assoc, Nat.add_mul]
      have hle := hG.le
      rw [e4] at hle hG
      rw [e5] at hs
      refine G_lf s m (l + 1) u _ ?_ (.inl ?_)
      · rw [e3]
        have := G.cons (2 * u * 2 ^ l) s l M ⟨_, Nat.mul_comm _ _⟩ (by omega) (by rintro ⟨_, hx⟩; omega) hG
        rw [Nat.mul_div_cancel _ hp] at this
        exact this
      · rw [Nat.add_mul, e3, Nat.one_mul, e2]
        exact hs

theorem G_rg (e : Nat) (T : List (Nat × Nat)) : ∀ (m l x : Nat), G ((x / 2 ^ m + 1) * 2 ^ (l + m)) e T → G ((x + 1) * 2 ^ l) e (rgF l x m T)
  | 0, l, x => fun hG => by simpa [rgF] using hG
  | m + 1, l, x => fun hG => by
    have hp := pow_pos l
    have e2 : 2 ^ (l + 1) = 2 * 2 ^ l := by rw [Nat.pow_succ]; omega
    rw [← up_r] at hG
    have ih := G_rg e T m (l + 1) (x / 2) hG
    rcases Nat.mod_two_eq_zero_or_one x with h | h
    · rw [rgF, if_neg (by omega)]
      obtain ⟨u, rfl⟩ : ∃ u, x = 2 * u := ⟨x / 2, by omega⟩
      rw [show 2 * u / 2 = u by omega] at ih ⊢
      have e3 : (u + 1) * 2 ^ (l + 1) = (2 * u + 1) * 2 ^ l + 2 ^ l := by
        rw [e2, ← Nat.mul_assoc, show (u + 1) * 2 = (2 * u + 1) + 1 by omega, Nat.add_mul (2 * u + 1) 1, Nat.one_mul]
      rw [e3] at ih
      have hle := ih.le
      have := G.cons ((2 * u + 1) * 2 ^ l) e l _ ⟨_, Nat.mul_comm _ _⟩ (by omega) (by
        rintro ⟨⟨a, ha⟩, _⟩
        rw [Nat.pow_succ, Nat.mul_comm (2 * u + 1), Nat.mul_assoc] at ha
        have := Nat.eq_of_mul_eq_mul_left hp ha
        omega) ih
      rw [Nat.mul_div_cancel _ hp] at this
      exact this
    · rw [rgF, if_pos h]
      obtain ⟨u, rfl⟩ : ∃ u, x = 2 * u + 1 := ⟨x / 2, by omega⟩
      rw [show (2 * u + 1) / 2 = u by omega] at ih ⊢
      rw [show (2 * u + 1 + 1) * 2 ^ l = (u + 1) * 2 ^ (l + 1) by rw [e2, ← Nat.mul_assoc]; congr 1; omega]
      exact ih

theorem G.cat {p m e f : Nat} {L M : List (Nat × Nat)} (h : G p m L) (h2 : G m e M) (hd : 2 ^ (f + 1) ∣ m) (hle2 : e ≤ m + 2 ^ f) : G p e (L ++ M) := by
  induction h with
  | nil => exact h2
  | cons p m l L hd1 hle hmax t ih =>
    have h3 := h2.le
    refine G.cons p e l _ hd1 (by omega) ?_ (ih h2 hd hle2)
    rintro ⟨ha, hb⟩
    apply hmax
    refine ⟨ha, ?_⟩
    have hpl := pow_pos l
    have ef : 2 ^ (f + 1) = 2 * 2 ^ f := by rw [Nat.pow_succ]; omega
    have el : 2 ^ (l + 1) = 2 * 2 ^ l := by rw [Nat.pow_succ]; omega
    apply Nat.le_of_not_lt
    intro hlt
    rcases Nat.lt_or_ge f l with hfl | hfl
    · have hx : 2 ^ (f + 1) ∣ p + 2 ^ (l + 1) := Nat.dvd_add (pow_dvd (by omega) ha) (Nat.pow_dvd_pow 2 (by omega))
      have hy : 2 ^ (f + 1) ∣ p + 2 ^ (l + 1) - m := Nat.dvd_sub hx hd
      have := Nat.le_of_dvd (by omega) hy
      have := pow_pos f
      omega
    · have hx : 2 ^ (l + 1) ∣ m - p := Nat.dvd_sub (pow_dvd (by omega) hd) ha
      have := Nat.le_of_dvd (by omega) hx
      omega

/-- The node below the greatest fork: where the way up of index x ends below X. -/
theorem fork (x X : Nat) (hx : x < X) (hX : X < 2 ^ 64) :
    ∃ d, Lib.bitLen (x ^^^ X) = d + 1 ∧ d < 64 ∧ X / 2 ^ d = x / 2 ^ d + 1 ∧ x / 2 ^ d % 2 = 0 := by
  have hXx : x ^^^ X < 2 ^ 64 := Nat.xor_lt_two_pow (by omega) hX
  obtain ⟨d, h1, h2, h3, h4⟩ := bitLen_top (x ^^^ X) (xor_ne_zero (by omega)) hXx
  refine ⟨d, h1, h4, ?_⟩
  have h5 : (x ^^^ X) / 2 ^ d = 1 := by
    have : 2 ^ (d + 1) = 2 * 2 ^ d := by rw [Nat.pow_succ]; omega
    apply Nat.div_eq_of_lt_le <;> omega
  rw [Nat.xor_div_two_pow] at h5
  have h6 : x / 2 ^ d / 2 = X / 2 ^ d / 2 := by
    apply xor_zero_eq
    have := @Nat.xor_div_two (x / 2 ^ d) (X / 2 ^ d)
    rw [← this, h5]
  have h7 := xor_mod2 (x / 2 ^ d) (X / 2 ^ d)
  rw [h5] at h7
  have h8 : x / 2 ^ d ≤ X / 2 ^ d := Nat.div_le_div_right (by omega)
  omega

/-- The nodes of the two ranges are the node, what is beside its way up to the fork, and the rest. -/
theorem two_ranges {t q n d : Nat} {Nl Nr L1 L2 : List (Nat × Nat)} (hn : 2 ^ t * (2 * q + 1) < n) (hX : n / 2 ^ t / 2 ^ d = 2 * q / 2 ^ d + 1) (hev : 2 * q / 2 ^ d % 2 = 0)
    (hl : G 0 (2 * q / 2 ^ d * 2 ^ (t + d)) Nl) (hr : G ((2 * q / 2 ^ d + 1) * 2 ^ (t + d)) n Nr) (h1 : G 0 (2 ^ t * (2 * q + 1)) L1) (h2 : G (2 ^ t * (2 * q + 1)) n L2) :
    L1 = Nl ++ lfF t (2 * q) d [(t, 2 * q)] ∧ L2 = rgF t (2 * q) d Nr := by
  have hpt := pow_pos t
  have hpd := pow_pos d
  have es : 2 ^ t * (2 * q + 1) = 2 * q * 2 ^ t + 2 ^ t := by rw [Nat.mul_add, Nat.mul_one, Nat.mul_comm]
  have es' : (2 * q + 1) * 2 ^ t = 2 ^ t * (2 * q + 1) := Nat.mul_comm _ _
  have e2 : 2 ^ (t + 1) = 2 * 2 ^ t := by rw [Nat.pow_succ]; omega
  have g0 : G (2 * q * 2 ^ t) (2 ^ t * (2 * q + 1)) [(t, 2 * q)] := by
    have := G.cons (2 * q * 2 ^ t) (2 ^ t * (2 * q + 1)) t [] ⟨_, Nat.mul_comm _ _⟩ (by omega) (by rintro ⟨_, hx⟩; omega) (by rw [es]; exact G.nil _)
    rw [Nat.mul_div_cancel _ hpt] at this
    exact this
  have g1 := G_lf _ d t (2 * q) _ g0 (.inr ⟨by omega, by omega⟩)
  have hle : 2 ^ t * (2 * q + 1) ≤ 2 * q / 2 ^ d * 2 ^ (t + d) + 2 ^ (t + d) := by
    have h3 : 2 * q + 1 ≤ 2 * q / 2 ^ d * 2 ^ d + 2 ^ d := by
      have h4 := Nat.div_add_mod (2 * q) (2 ^ d)
      have h5 := Nat.mod_lt (2 * q) hpd
      rw [Nat.mul_comm] at h4
      omega
    have h6 := Nat.mul_le_mul_left (2 ^ t) h3
    rw [Nat.mul_add (2 ^ t) (2 * q / 2 ^ d * 2 ^ d)] at h6
    rw [Nat.pow_add, Nat.mul_left_comm]
    exact h6
  have hdv : 2 ^ (t + d + 1) ∣ 2 * q / 2 ^ d * 2 ^ (t + d) := by
    obtain ⟨u, hu⟩ : ∃ u, 2 * q / 2 ^ d = 2 * u := ⟨2 * q / 2 ^ d / 2, by omega⟩
    rw [hu]
    exact ⟨u, by rw [Nat.pow_succ, Nat.mul_comm (2 ^ (t + d)) 2, Nat.mul_assoc, Nat.mul_assoc, Nat.mul_comm u]⟩
  have g2 := G.cat hl g1 hdv hle
  have g3 := G_rg n Nr d t (2 * q) hr
  rw [es'] at g3
  exact ⟨h1.det g2, h2.det g3⟩
end Go.Proofs.YtkmdkmlgahfcpaaDoor.Nodes
