/- Plain (over HcInj): a hash function that writes terms out tells trees apart, and leaf hashes with their audit paths. -/
import Derived.Test.YtkmdkmlgahfcpaaDoorTreeE
import Derived.Test.YtkmdkmlgahfcpaaDoorHcInj
namespace Go.Proofs.YtkmdkmlgahfcpaaDoor.M
open Go Go.RowKit Go.Proofs.YtkmdkmlgahfcpaaDoor.Log Go.Proofs.YtkmdkmlgahfcpaaDoor.Nodes Go.Proofs.YtkmdkmlgahfcpaaDoor.Ranges Go.Proofs.YtkmdkmlgahfcpaaDoorW.PrintMore Go.Proofs.YtkmdkmlgahfcpaaDoorW.PrintWords Go.Proofs.YtkmdkmlgahfcpaaDoorW.PrintLast
set_option linter.unusedVariables false
variable {k0 k2 k5 : Int}
theorem mth_inj (h0 : ¬ k0 = 1) (L L' : Nat → List Int) (c : Nat) (hL : ∀ i, (L i).length ≤ c) (hL' : ∀ i, (L' i).length ≤ c) : ∀ n b b', 0 < n → n * (c + 9) < 18446744073709551616 → mth (hc k0 k2 k5) L b n = mth (hc k0 k2 k5) L' b' n → ∀ i, i < n → L (b + i) = L' (b' + i) := by
  intro n
  induction n using Nat.strongRecOn with
  | _ n ih =>
    intro b b' hn hb h i hi
    by_cases h2 : 2 ≤ n
    · have h3 := sp_lt h2
      have h4 := sp_pos n
      rw [mth_two _ L b n h2, mth_two _ L' b' n h2] at h
      have l1 := mth_len (k0 := k0) (k2 := k2) (k5 := k5) L c hL (sp n) b h4
      have l2 := mth_len (k0 := k0) (k2 := k2) (k5 := k5) L' c hL' (sp n) b' h4
      have l3 : sp n * (c + 9) ≤ n * (c + 9) := Nat.mul_le_mul_right _ (by omega)
      have l4 : (n - sp n) * (c + 9) ≤ n * (c + 9) := Nat.mul_le_mul_right _ (by omega)
      obtain ⟨e1, e2⟩ := hc_inj h0 (by omega) (by omega) h
      by_cases hs : i < sp n
      · exact ih (sp n) h3 b b' h4 (by omega) e1 i hs
      · have := ih (n - sp n) (by omega) (b + sp n) (b' + sp n) (by omega) (by omega) e2 (i - sp n) (by omega)
        rwa [show b + sp n + (i - sp n) = b + i by omega, show b' + sp n + (i - sp n) = b' + i by omega] at this
    · rw [mth_one _ L b n (by omega), mth_one _ L' b' n (by omega)] at h
      obtain rfl : i = 0 := by omega
      exact h
/-- The hashes of an audit path. -/
def pathH (L : Nat → List Int) (i b n : Nat) : List (List Int) := (pathP i b n).map fun p => mth (hc k0 k2 k5) L p.1 (p.2 - p.1)
theorem rootP_len (i : Nat) (x : List Int) : ∀ (n b : Nat) (P : List (List Int)), P.length = (pathP i b n).length → (rootP (hc k0 k2 k5) [] i b n x P).length ≤ x.length + tot P := by
  intro n
  induction n using Nat.strongRecOn with
  | _ n ih =>
    intro b P hP
    by_cases h2 : 2 ≤ n
    · have h3 := sp_lt h2
      have h4 := sp_pos n
      by_cases hi : i < b + sp n
      · rw [pathP_lo h2 hi, List.length_append, List.length_singleton] at hP
        obtain ⟨q, y, rfl, hq⟩ := snoc_of P _ hP
        rw [rootP_lo _ _ x q y h2 hi]
        have h5 := hc_len k0 k2 k5 (rootP (hc k0 k2 k5) [] i b (sp n) x q) y
        have h6 := ih (sp n) h3 b q hq
        rw [tot_append, show tot [y] = y.length + 9 from rfl]
        omega
      · rw [pathP_hi h2 hi, List.length_append, List.length_singleton] at hP
        obtain ⟨q, y, rfl, hq⟩ := snoc_of P _ hP
        rw [rootP_hi _ _ x q y h2 hi]
        have h5 := hc_len k0 k2 k5 y (rootP (hc k0 k2 k5) [] i (b + sp n) (n - sp n) x q)
        have h6 := ih (n - sp n) (by omega) (b + sp n) q hq
        rw [tot_append, show tot [y] = y.length + 9 from rfl]
        omega
    · rw [rootP_one _ _ _ _ _ _ _ (by omega)]
      omega
theorem root_path (L : Nat → List Int) (i : Nat) : ∀ n b, b ≤ i → i < b + n → rootP (hc k0 k2 k5) [] i b n (L i) (pathH (k0 := k0) (k2 := k2) (k5 := k5) L i b n) = mth (hc k0 k2 k5) L b n := by
  intro n
  induction n using Nat.strongRecOn with
  | _ n ih =>
    intro b h0 h1
    by_cases h2 : 2 ≤ n
    · have h3 := sp_lt h2
      have h4 := sp_pos n
      rw [mth_two _ L b n h2]
      by_cases hi : i < b + sp n
      · unfold pathH
        rw [pathP_lo h2 hi, List.map_append, List.map_cons, List.map_nil, rootP_lo _ _ _ _ _ h2 hi]
        have := ih (sp n) h3 b h0 hi
        unfold pathH at this
        rw [this]
        dsimp only
        rw [show b + n - (b + sp n) = n - sp n by omega]
      · unfold pathH
        rw [pathP_hi h2 hi, List.map_append, List.map_cons, List.map_nil, rootP_hi _ _ _ _ _ h2 hi]
        have := ih (n - sp n) (by omega) (b + sp n) (by omega) (by omega)
        unfold pathH at this
        rw [this]
        dsimp only
        rw [Nat.add_sub_cancel_left]
    · rw [rootP_one _ _ _ _ _ _ _ (by omega), mth_one _ L b n (by omega)]
      congr 1
      omega
theorem rootP_inj (h0 : ¬ k0 = 1) (L : Nat → List Int) (c : Nat) (hL : ∀ i, (L i).length ≤ c) (i : Nat) (x : List Int) : ∀ n b (P : List (List Int)), b ≤ i → i < b + n → n * (c + 9) < 18446744073709551616 → x.length + tot P < 18446744073709551616 → P.length = (pathP i b n).length →
    rootP (hc k0 k2 k5) [] i b n x P = mth (hc k0 k2 k5) L b n → x = L i ∧ P = pathH (k0 := k0) (k2 := k2) (k5 := k5) L i b n := by
  intro n
  induction n using Nat.strongRecOn with
  | _ n ih =>
    intro b P hb h1 hN hT hP h
    by_cases h2 : 2 ≤ n
    · have h3 := sp_lt h2
      have h4 := sp_pos n
      rw [mth_two _ L b n h2] at h
      have l1 := mth_len (k0 := k0) (k2 := k2) (k5 := k5) L c hL (sp n) b h4
      have l3 : sp n * (c + 9) ≤ n * (c + 9) := Nat.mul_le_mul_right _ (by omega)
      have l4 : (n - sp n) * (c + 9) ≤ n * (c + 9) := Nat.mul_le_mul_right _ (by omega)
      unfold pathH
      by_cases hi : i < b + sp n
      · rw [pathP_lo h2 hi] at hP ⊢
        rw [List.length_append, List.length_singleton] at hP
        obtain ⟨q, y, rfl, hq⟩ := snoc_of P _ hP
        rw [tot_append, show tot [y] = y.length + 9 from rfl] at hT
        rw [rootP_lo _ _ x q y h2 hi] at h
        have h5 := rootP_len (k0 := k0) (k2 := k2) (k5 := k5) i x (sp n) b q hq
        obtain ⟨e1, e2⟩ := hc_inj h0 (by omega) (by omega) h
        obtain ⟨e3, e4⟩ := ih (sp n) h3 b q hb hi (by omega) (by omega) hq e1
        refine ⟨e3, ?_⟩
        rw [List.map_append, e4, e2]
        unfold pathH
        simp only [List.map_cons, List.map_nil]
        rw [show b + n - (b + sp n) = n - sp n by omega]
      · rw [pathP_hi h2 hi] at hP ⊢
        rw [List.length_append, List.length_singleton] at hP
        obtain ⟨q, y, rfl, hq⟩ := snoc_of P _ hP
        rw [tot_append, show tot [y] = y.length + 9 from rfl] at hT
        rw [rootP_hi _ _ x q y h2 hi] at h
        obtain ⟨e1, e2⟩ := hc_inj h0 (by omega) (by omega) h
        obtain ⟨e3, e4⟩ := ih (n - sp n) (by omega) (b + sp n) q (by omega) (by omega) (by omega) (by omega) hq e2
        refine ⟨e3, ?_⟩
        rw [List.map_append, e4, e1]
        unfold pathH
        simp only [List.map_cons, List.map_nil]
        rw [Nat.add_sub_cancel_left]
    · rw [rootP_one _ _ _ _ _ _ _ (by omega), mth_one _ L b n (by omega)] at h
      rw [pathP_one _ _ _ (by omega)] at hP
      obtain rfl : P = [] := List.length_eq_zero_iff.1 hP
      refine ⟨by rw [h]; congr 1; omega, ?_⟩
      unfold pathH
      rw [pathP_one _ _ _ (by omega)]
      rfl
theorem mth_byt (L : Nat → List Int) (hL : ∀ i, Byt (L i)) : ∀ n b, Byt (mth (hc k0 k2 k5) L b n) := by
  intro n
  induction n using Nat.strongRecOn with
  | _ n ih =>
    intro b
    by_cases h2 : 2 ≤ n
    · have h3 := sp_lt h2
      have h4 := sp_pos n
      rw [mth_two _ L b n h2]
      exact hc_byt _ _ (ih (sp n) h3 b) (ih (n - sp n) (by omega) _)
    · rw [mth_one _ L b n (by omega)]
      exact hL b
end Go.Proofs.YtkmdkmlgahfcpaaDoor.M
