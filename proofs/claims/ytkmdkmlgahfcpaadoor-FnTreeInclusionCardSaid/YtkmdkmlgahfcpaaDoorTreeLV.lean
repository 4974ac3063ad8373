/- Plain: what the levels of the tree hold after each leaf. -/
import Derived.Test.YtkmdkmlgahfcpaaDoorM
import Derived.Test.YtkmdkmlgahfcpaaDoorMth
namespace Go.Proofs.YtkmdkmlgahfcpaaDoor.M
open Go Go.RowKit Go.Proofs.YtkmdkmlgahfcpaaDoor.Log Go.Proofs.YtkmdkmlgahfcpaaDoor.Nodes
set_option linter.unusedVariables false

section
variable (hc : List Int → List Int → List Int) (Lf : Nat → List Int)
def row (j m : Nat) : List (List Int) := (List.range m).map fun i => mth hc Lf (i * 2 ^ j) (2 ^ j)
theorem row_len (j m : Nat) : (row hc Lf j m).length = m := by simp [row]
theorem row_succ (j m : Nat) : row hc Lf j (m + 1) = row hc Lf j m ++ [mth hc Lf (m * 2 ^ j) (2 ^ j)] := by simp [row, List.range_succ]
theorem row_getD (j m i : Nat) (h : i < m) : (row hc Lf j m).getD i [] = mth hc Lf (i * 2 ^ j) (2 ^ j) := by simp [row, List.getD_eq_getElem?_getD, h]
def Full (n : Nat) (H : List (List (List Int))) : Prop := (∀ i, H.getD i [] = row hc Lf i (n / 2 ^ i)) ∧ ∀ i, i < H.length ↔ 0 < n / 2 ^ i
def Mid (n j : Nat) (H : List (List (List Int))) : Prop := (∀ i, H.getD i [] = row hc Lf i (if i < j then (n + 1) / 2 ^ i else n / 2 ^ i)) ∧ ∀ i, i < H.length ↔ 0 < n / 2 ^ i
theorem getD_set_self {α : Type} (l : List α) (i : Nat) (x z : α) (h : i < l.length) : (l.set i x).getD i z = x := by simp [List.getD_eq_getElem?_getD, h]
theorem getD_set_ne {α : Type} (l : List α) (i j : Nat) (x z : α) (h : i ≠ j) : (l.set i x).getD j z = l.getD j z := by simp [List.getD_eq_getElem?_getD, List.getElem?_set_ne h]
theorem n_div {n j q : Nat} (hq : n + 1 = (q + 1) * 2 ^ j) : n / 2 ^ j = q := by
  have hpj := Nat.two_pow_pos j
  rw [show n = (2 ^ j - 1) + q * 2 ^ j by rw [Nat.add_mul] at hq; omega, Nat.add_mul_div_right _ _ hpj, Nat.div_eq_of_lt (by omega), Nat.zero_add]
theorem up_even (n j q : Nat) (x : List Int) (H : List (List (List Int))) (hn : n + 1 < 4294967296) (hq : n + 1 = (q + 1) * 2 ^ j) (hx : x = mth hc Lf (q * 2 ^ j) (2 ^ j)) (hM : Mid hc Lf n j H) (he : q % 2 = 0) :
    ∃ H', Full hc Lf (n + 1) H' ∧ ∀ hcO kf, up hcO n (kf + 1) H j x = some H' := by
  have hpj := Nat.two_pow_pos j
  have hq1 := n_div hq
  have hq2 : (n + 1) / 2 ^ j = q + 1 := by rw [hq, Nat.mul_div_cancel _ hpj]
  have hj : j < 63 := by
    rcases Nat.lt_or_ge j 63 with h | h
    · exact h
    · have := Nat.pow_le_pow_right (n := 2) (by decide) h
      have : 2 ^ j ≤ (q + 1) * 2 ^ j := Nat.le_mul_of_pos_left _ (by omega)
      omega
  have hrow := hM.1 j
  rw [if_neg (Nat.lt_irrefl j), hq1] at hrow
  have hqN : q ≤ n := by rw [← hq1]; exact Nat.div_le_self _ _
  have hhi : ∀ i, j < i → (n + 1) / 2 ^ i = n / 2 ^ i := by
    intro i hi
    obtain ⟨e, rfl⟩ : ∃ e, i = j + (e + 1) := ⟨i - j - 1, by omega⟩
    rw [Nat.pow_add, ← Nat.div_div_eq_div_mul, ← Nat.div_div_eq_div_mul, hq1, hq2, Nat.pow_succ, Nat.mul_comm, ← Nat.div_div_eq_div_mul, ← Nat.div_div_eq_div_mul, show (q + 1) / 2 = q / 2 by omega]
  by_cases hjl : j < H.length
  · have hq0 : 0 < q := by have := (hM.2 j).1 hjl; rwa [hq1] at this
    refine ⟨H.set j (row hc Lf j q ++ [x]), ⟨fun i => ?_, fun i => ?_⟩, fun hcO kf => ?_⟩
    · by_cases e : i = j
      · subst e
        rw [getD_set_self _ _ _ _ hjl, hq2, row_succ, hx]
      · rw [getD_set_ne _ _ _ _ _ (Ne.symm e), hM.1 i]
        by_cases h1 : i < j
        · rw [if_pos h1]
        · rw [if_neg h1, hhi i (by omega)]
    · rw [List.length_set, hM.2 i]
      by_cases h1 : j < i
      · rw [hhi i h1]
      · have a1 : n / 2 ^ j ≤ n / 2 ^ i := Nat.div_le_div_left (Nat.pow_le_pow_right (by decide) (by omega)) (Nat.two_pow_pos i)
        have a2 : n / 2 ^ i ≤ (n + 1) / 2 ^ i := Nat.div_le_div_right (by omega)
        rw [hq1] at a1
        omega
    · rw [up, if_neg (by rw [hq1]; omega), if_pos hjl, hrow, if_pos ⟨hj, by rw [row_len]; omega⟩]
  · have hq0 : q = 0 := by
      have := mt (hM.2 j).2 hjl
      rw [hq1] at this
      omega
    subst hq0
    have hlen : j = H.length := by
      rcases Nat.lt_or_ge H.length j with h | h
      · exfalso
        have := (hM.2 H.length).2 (by
          have e1 : 2 ^ (H.length + 1) ≤ 2 ^ j := Nat.pow_le_pow_right (by decide) h
          rw [Nat.pow_succ] at e1
          exact Nat.div_pos (by have := Nat.two_pow_pos H.length; omega) (Nat.two_pow_pos _))
        omega
      · omega
    refine ⟨H ++ [[x]], ⟨fun i => ?_, fun i => ?_⟩, fun hcO kf => ?_⟩
    · rcases Nat.lt_trichotomy i j with h | h | h
      · rw [List.getD_eq_getElem?_getD, List.getElem?_append_left (by omega), ← List.getD_eq_getElem?_getD, hM.1 i, if_pos h]
      · subst h
        rw [hq2, hlen]
        simp [row, List.getD_eq_getElem?_getD, hx, ← hlen]
      · rw [hhi i h, List.getD_eq_getElem?_getD, List.getElem?_eq_none (by simp; omega)]
        have a1 : n / 2 ^ i ≤ n / 2 ^ j := Nat.div_le_div_left (Nat.pow_le_pow_right (by decide) (by omega)) hpj
        rw [hq1] at a1
        rw [Nat.le_zero.1 a1]
        rfl
    · rw [List.length_append, List.length_singleton]
      rcases Nat.lt_trichotomy i j with h | h | h
      · have := (hM.2 i).1 (by omega)
        have a2 : n / 2 ^ i ≤ (n + 1) / 2 ^ i := Nat.div_le_div_right (by omega)
        omega
      · subst h
        rw [hq2]
        omega
      · rw [hhi i h]
        have a1 : n / 2 ^ i ≤ n / 2 ^ j := Nat.div_le_div_left (Nat.pow_le_pow_right (by decide) (by omega)) hpj
        rw [hq1] at a1
        rw [Nat.le_zero.1 a1]
        omega
    · rw [up, if_neg (by rw [hq1]; omega), if_neg hjl, if_pos ⟨hlen, hj⟩]
variable (HC : Nat → List Int → List Int → Option (List Int)) (W : Nat) (hHC : ∀ a b, a.length ≤ W → b.length ≤ W → ∃ K, ∀ k, K ≤ k → HC k a b = some (hc a b))
include hHC in
theorem up_full (N : Nat) (hN : N < 4294967296) (hW : ∀ b m, 0 < m → b + m ≤ N → (mth hc Lf b m).length ≤ W) : ∀ (d n j q : Nat) (x : List Int) (H : List (List (List Int))), n + 1 ≤ N → n + 1 = (q + 1) * 2 ^ j → q < 2 ^ d → x = mth hc Lf (q * 2 ^ j) (2 ^ j) → Mid hc Lf n j H →
    ∃ H', Full hc Lf (n + 1) H' ∧ ∃ K, ∀ k, K ≤ k → ∀ kf, d < kf → up (HC k) n kf H j x = some H' := by
  intro d
  induction d with
  | zero =>
    intro n j q x H hn hq hd hx hM
    obtain ⟨H', hF, hE⟩ := up_even hc Lf n j q x H (by omega) hq hx hM (by omega)
    refine ⟨H', hF, 0, fun k _ kf hkf => ?_⟩
    obtain ⟨kf, rfl⟩ : ∃ z, kf = z + 1 := ⟨kf - 1, by omega⟩
    exact hE _ _
  | succ d ih =>
    intro n j q x H hn hq hd hx hM
    have hpj := Nat.two_pow_pos j
    have hq1 : n / 2 ^ j = q := by
      rw [show n = (2 ^ j - 1) + q * 2 ^ j by rw [Nat.add_mul] at hq; omega, Nat.add_mul_div_right _ _ hpj, Nat.div_eq_of_lt (by omega), Nat.zero_add]
    have hq2 : (n + 1) / 2 ^ j = q + 1 := by rw [hq, Nat.mul_div_cancel _ hpj]
    have hj : j < 63 := by
      rcases Nat.lt_or_ge j 63 with h | h
      · exact h
      · have := Nat.pow_le_pow_right (n := 2) (by decide) h
        have : 2 ^ j ≤ (q + 1) * 2 ^ j := Nat.le_mul_of_pos_left _ (by omega)
        omega
    have hrow := hM.1 j
    rw [if_neg (Nat.lt_irrefl j), hq1] at hrow
    have hqN : q ≤ n := by rw [← hq1]; exact Nat.div_le_self _ _
    by_cases hodd : q % 2 = 1
    · obtain ⟨p, rfl⟩ : ∃ p, q = 2 * p + 1 := ⟨q / 2, by omega⟩
      have hjl : j < H.length := (hM.2 j).2 (by rw [hq1]; omega)
      have hM' : Mid hc Lf n (j + 1) (H.set j (row hc Lf j (2 * p + 1) ++ [x])) := by
        refine ⟨fun i => ?_, fun i => by rw [List.length_set]; exact hM.2 i⟩
        by_cases e : i = j
        · subst e
          rw [getD_set_self _ _ _ _ hjl, if_pos (by omega), hq2, row_succ hc Lf i (2 * p + 1), hx]
        · rw [getD_set_ne _ _ _ _ _ (Ne.symm e), hM.1 i]
          congr 1
          by_cases h1 : i < j
          · rw [if_pos h1, if_pos (by omega)]
          · rw [if_neg h1, if_neg (by omega)]
      have hy : hc (mth hc Lf (2 * p * 2 ^ j) (2 ^ j)) x = mth hc Lf (p * 2 ^ (j + 1)) (2 ^ (j + 1)) := by
        rw [mth_pow, hx, show p * 2 ^ (j + 1) = 2 * p * 2 ^ j by rw [Nat.pow_succ, Nat.mul_comm 2 p, Nat.mul_assoc, Nat.mul_comm 2], show (2 * p + 1) * 2 ^ j = 2 * p * 2 ^ j + 2 ^ j by rw [Nat.add_mul, Nat.one_mul]]
      obtain ⟨H', hF, K, hK⟩ := ih n (j + 1) p (hc (mth hc Lf (2 * p * 2 ^ j) (2 ^ j)) x) (H.set j (row hc Lf j (2 * p + 1) ++ [x])) hn (by rw [hq, Nat.pow_succ, ← Nat.mul_assoc, Nat.mul_comm _ 2, ← Nat.mul_assoc]; congr 1) (by rw [Nat.pow_succ] at hd; omega) hy hM'
      have hexp : (2 * p + 1) * 2 ^ j = 2 * p * 2 ^ j + 2 ^ j := by rw [Nat.add_mul, Nat.one_mul]
      have hexp2 : (2 * p + 1 + 1) * 2 ^ j = 2 * p * 2 ^ j + 2 ^ j + 2 ^ j := by rw [Nat.add_mul, hexp, Nat.one_mul]
      obtain ⟨K2, hK2⟩ := hHC (mth hc Lf (2 * p * 2 ^ j) (2 ^ j)) x (hW _ _ hpj (by omega)) (by rw [hx]; exact hW _ _ hpj (by omega))
      refine ⟨H', hF, max K K2, fun k hk kf hkf => ?_⟩
      obtain ⟨kf, rfl⟩ : ∃ z, kf = z + 1 := ⟨kf - 1, by omega⟩
      rw [up, if_pos (by rw [hq1]; omega), hrow, if_pos ⟨hjl, hj, by rw [row_len]; omega, by rw [row_len]; omega⟩, row_len, show 2 * p + 1 - 1 = 2 * p by omega, row_getD hc Lf j (2 * p + 1) (2 * p) (by omega), hK2 k (by omega)]
      exact hK k (by omega) kf (by omega)
    · obtain ⟨H', hF, hE⟩ := up_even hc Lf n j q x H (by omega) hq hx hM (by omega)
      refine ⟨H', hF, 0, fun k _ kf hkf => ?_⟩
      obtain ⟨kf, rfl⟩ : ∃ z, kf = z + 1 := ⟨kf - 1, by omega⟩
      exact hE _ _
include hHC in
theorem adds_full (l : List (List Int)) (hLf : Lf = fun i => l.getD i []) (hN : l.length < 4294967296) (hW : ∀ b m, 0 < m → b + m ≤ l.length → (mth hc Lf b m).length ≤ W) : ∀ (rest pre : List (List Int)) (H : List (List (List Int))), l = pre ++ rest → Full hc Lf pre.length H →
    ∃ H', Full hc Lf l.length H' ∧ ∃ K, ∀ k, K ≤ k → ∀ kf, 32 < kf → adds (HC k) kf pre.length H rest = some H' := by
  intro rest
  induction rest with
  | nil =>
    intro pre H hl hF
    rw [List.append_nil] at hl
    subst hl
    exact ⟨H, hF, 0, fun k _ kf _ => by rw [adds]⟩
  | cons x rest ih =>
    intro pre H hl hF
    have hlen : pre.length + 1 ≤ l.length := by rw [hl]; simp
    have hx : x = mth hc Lf (pre.length * 2 ^ 0) (2 ^ 0) := by
      rw [mth_one hc Lf _ _ (by simp), hLf, hl]
      simp [List.getD_eq_getElem?_getD]
    obtain ⟨H1, hF1, K1, hK1⟩ := up_full hc Lf HC W hHC l.length hN hW 32 pre.length 0 pre.length x H hlen (by simp) (by omega) hx ⟨fun i => by rw [if_neg (Nat.not_lt_zero i)]; exact hF.1 i, hF.2⟩
    obtain ⟨H2, hF2, K2, hK2⟩ := ih (pre ++ [x]) H1 (by rw [hl]; simp) (by rw [List.length_append, List.length_singleton]; exact hF1)
    refine ⟨H2, hF2, max K1 K2, fun k hk kf hkf => ?_⟩
    rw [adds, if_pos (by omega), hK1 k (by omega) kf hkf]
    have := hK2 k (by omega) kf hkf
    rw [List.length_append, List.length_singleton] at this
    exact this
theorem full_nil : Full hc Lf 0 [] := ⟨fun i => by simp [row], fun i => by simp⟩
end
end Go.Proofs.YtkmdkmlgahfcpaaDoor.M
