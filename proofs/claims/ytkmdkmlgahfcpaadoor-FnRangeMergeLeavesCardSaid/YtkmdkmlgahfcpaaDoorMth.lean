/- Plain: the root of a log (RFC 6962, 2.1), its levels, and the roots of its pieces. -/
import Derived.Test.YtkmdkmlgahfcpaaDoorLogA
namespace Go.Proofs.YtkmdkmlgahfcpaaDoor.Log
open Go Go.Proofs.YtkmdkmlgahfcpaaDoor.Nodes
set_option linter.unusedVariables false

section
variable {α : Type} (hc : α → α → α)
/-- The root of the n leaves from b on (n = 1: the leaf itself). -/
def mth (L : Nat → α) (b n : Nat) : α := if h : 2 ≤ n then hc (mth L b (sp n)) (mth L (b + sp n) (n - sp n)) else L b
termination_by n
decreasing_by
  · exact sp_lt h
  · have := sp_pos n; omega
theorem mth_one (L : Nat → α) (b n : Nat) (h : n ≤ 1) : mth hc L b n = L b := by rw [mth, dif_neg (by omega)]
theorem mth_two (L : Nat → α) (b n : Nat) (h : 2 ≤ n) : mth hc L b n = hc (mth hc L b (sp n)) (mth hc L (b + sp n) (n - sp n)) := by rw [mth, dif_pos h]
theorem mth_split (L : Nat → α) (b : Nat) {n a : Nat} (h1 : 2 ^ a < n) (h2 : n ≤ 2 * 2 ^ a) : mth hc L b n = hc (mth hc L b (2 ^ a)) (mth hc L (b + 2 ^ a) (n - 2 ^ a)) := by
  have hp := Nat.two_pow_pos a
  rw [mth_two hc L b n (by omega), sp_eq h1 h2]
theorem mth_pow (L : Nat → α) (b a : Nat) : mth hc L b (2 ^ (a + 1)) = hc (mth hc L b (2 ^ a)) (mth hc L (b + 2 ^ a) (2 ^ a)) := by
  have hp := Nat.two_pow_pos a
  rw [mth_split hc L b (a := a) (by rw [Nat.pow_succ]; omega) (by rw [Nat.pow_succ]; omega), show 2 ^ (a + 1) - 2 ^ a = 2 ^ a by rw [Nat.pow_succ]; omega]
/-- What lies at a node. -/
def nodeV (L : Nat → α) (p : Nat × Nat) : α := mth hc L (p.2 * 2 ^ p.1) (2 ^ p.1)
/-- From the right: each tree to the left of what stands to its right. -/
def foldR : List α → α → α
  | [], d => d
  | [x], _ => x
  | x :: y :: l, d => hc x (foldR (y :: l) d)
theorem foldR_G (L : Nat → α) (d : α) : ∀ (m p c : Nat) (N : List (Nat × Nat)), 2 ^ c ∣ p → m < 2 ^ c → 0 < m → G p (p + m) N → foldR hc (N.map (nodeV hc L)) d = mth hc L p m := by
  intro m
  induction m using Nat.strongRecOn with
  | _ m ih =>
    intro p c N hd hm h0 hG
    generalize he : p + m = e at hG
    cases hG with
    | nil => omega
    | cons _ _ l N' hdl hle hmax t =>
      have hpl := Nat.two_pow_pos l
      have hlt : 2 ^ l ≤ m := by omega
      have hlc : l < c := by
        rcases Nat.lt_or_ge l c with h | h
        · exact h
        · have := Nat.pow_le_pow_right (n := 2) (by decide) h
          omega
      have hlt2 : m < 2 ^ (l + 1) := by
        rcases Nat.lt_or_ge m (2 ^ (l + 1)) with h | h
        · exact h
        · exact absurd ⟨Nat.dvd_trans (Nat.pow_dvd_pow 2 hlc) hd, by omega⟩ hmax
      have hpe : p / 2 ^ l * 2 ^ l = p := Nat.div_mul_cancel hdl
      have hn0 : nodeV hc L (l, p / 2 ^ l) = mth hc L p (2 ^ l) := by unfold nodeV; rw [hpe]
      rcases Nat.lt_or_ge (2 ^ l) m with h | h
      · have hdl2 : 2 ^ l ∣ p + 2 ^ l := Nat.dvd_add hdl (Nat.dvd_refl _)
        have t' : G (p + 2 ^ l) (p + 2 ^ l + (m - 2 ^ l)) N' := by rw [show p + 2 ^ l + (m - 2 ^ l) = e by omega]; exact t
        have := ih (m - 2 ^ l) (by omega) (p + 2 ^ l) l N' hdl2 (by rw [Nat.pow_succ] at hlt2; omega) (by omega) t'
        rw [mth_split hc L p (a := l) h (by rw [Nat.pow_succ] at hlt2; omega), ← this]
        cases N' with
        | nil => have := (G.empty t').1 rfl; omega
        | cons y N'' => simp only [List.map_cons, foldR, hn0]
      · have e2 : m = 2 ^ l := by omega
        have t2 : N' = [] := (G.empty t).2 (by omega)
        rw [t2, e2]
        simp only [List.map_cons, List.map_nil, foldR, hn0]
/-- The root of the roots of the pieces of 2^k leaves each. -/
theorem mth_pieces (L : Nat → α) (k n : Nat) : ∀ (m a : Nat), 0 < m → a * 2 ^ k + m ≤ n → (2 ^ k ∣ m ∨ a * 2 ^ k + m = n) →
    mth hc (fun i => mth hc L (i * 2 ^ k) (min (2 ^ k) (n - i * 2 ^ k))) a ((m + 2 ^ k - 1) / 2 ^ k) = mth hc L (a * 2 ^ k) m := by
  intro m
  induction m using Nat.strongRecOn with
  | _ m ih =>
    intro a h0 hle hor
    have hpk := Nat.two_pow_pos k
    rcases Nat.lt_or_ge (2 ^ k) m with h | h
    · obtain ⟨s, hs⟩ := sp_form m
      have h1 : sp m < m := sp_lt (by omega)
      have h2 : m ≤ 2 * sp m := le_sp
      rw [hs] at h1 h2
      have hks : k ≤ s := by
        rcases Nat.lt_or_ge s k with h' | h'
        · have := Nat.pow_le_pow_right (n := 2) (by decide) h'
          rw [Nat.pow_succ] at this
          omega
        · exact h'
      obtain ⟨t, rfl⟩ : ∃ t, s = k + t := ⟨s - k, by omega⟩
      have hpt := Nat.two_pow_pos t
      have ep : 2 ^ (k + t) = 2 ^ t * 2 ^ k := by rw [Nat.pow_add, Nat.mul_comm]
      rw [ep] at h1 h2
      have hq1 : 2 ^ t < (m + 2 ^ k - 1) / 2 ^ k := by
        rw [Nat.lt_div_iff_mul_lt hpk]
        omega
      have hq2 : (m + 2 ^ k - 1) / 2 ^ k ≤ 2 * 2 ^ t := by
        have : (m + 2 ^ k - 1) / 2 ^ k < 2 * 2 ^ t + 1 := by
          rw [Nat.div_lt_iff_lt_mul hpk, Nat.add_mul, Nat.one_mul, Nat.mul_assoc]
          omega
        omega
      have e1 := ih (2 ^ t * 2 ^ k) h1 a (Nat.mul_pos hpt hpk) (by omega) (.inl (Nat.dvd_mul_left _ _))
      have e2 := ih (m - 2 ^ t * 2 ^ k) (by have := Nat.mul_pos hpt hpk; omega) (a + 2 ^ t) (by omega) (by rw [Nat.add_mul]; omega) (by
        rcases hor with hd | he
        · exact .inl (Nat.dvd_sub hd (Nat.dvd_mul_left _ _))
        · right; rw [Nat.add_mul]; omega)
      have d1 : (2 ^ t * 2 ^ k + 2 ^ k - 1) / 2 ^ k = 2 ^ t := by
        rw [show 2 ^ t * 2 ^ k + 2 ^ k - 1 = (2 ^ k - 1) + 2 ^ t * 2 ^ k by omega, Nat.add_mul_div_right _ _ hpk, Nat.div_eq_of_lt (by omega), Nat.zero_add]
      have d2 : (m - 2 ^ t * 2 ^ k + 2 ^ k - 1) / 2 ^ k = (m + 2 ^ k - 1) / 2 ^ k - 2 ^ t := by
        rw [show m - 2 ^ t * 2 ^ k + 2 ^ k - 1 = (m + 2 ^ k - 1) - 2 ^ k * 2 ^ t by rw [Nat.mul_comm (2 ^ k)]; omega, Nat.sub_mul_div]
      rw [d1] at e1
      rw [d2, Nat.add_mul] at e2
      rw [mth_split hc _ a hq1 hq2, e1, e2, ← ep, ← mth_split hc L (a * 2 ^ k) (a := k + t) (by omega) (by omega)]
    · have hq : (m + 2 ^ k - 1) / 2 ^ k = 1 := by
        rw [show m + 2 ^ k - 1 = (m - 1) + 1 * 2 ^ k by omega, Nat.add_mul_div_right _ _ hpk, Nat.div_eq_of_lt (by omega)]
      rw [hq, mth_one hc _ a 1 (Nat.le_refl _)]
      congr 1
      rcases hor with hd | he
      · have := Nat.le_of_dvd h0 hd
        omega
      · omega
end
end Go.Proofs.YtkmdkmlgahfcpaaDoor.Log
