/- Plain numbers: the parts of an audit path are those beside the way up, the rest behind the fork, and the great trees ahead. -/
import Derived.Test.YtkmdkmlgahfcpaaDoorNodeP
import Derived.Test.YtkmdkmlgahfcpaaDoorLogA
namespace Go.Proofs.YtkmdkmlgahfcpaaDoor.Log
open Go Go.Proofs.YtkmdkmlgahfcpaaDoor.Nodes
set_option linter.unusedVariables false

/-- The leaves below a node. -/
def prt (n : Nat × Nat) : Nat × Nat := (n.2 * 2 ^ n.1, (n.2 + 1) * 2 ^ n.1)

theorem sf_add : ∀ (m k l x : Nat), sf l x (m + k) = sf l x m ++ sf (l + m) (x / 2 ^ m) k
  | 0, k, l, x => by simp [sf]
  | m + 1, k, l, x => by
    rw [show m + 1 + k = m + k + 1 by omega, sf, sf_add m k, sf, List.cons_append, Nat.div_div_eq_div_mul, show 2 * 2 ^ m = 2 ^ (m + 1) by rw [Nat.pow_succ]; omega, show l + 1 + m = l + (m + 1) by omega]
theorem sf_snoc (m l x : Nat) : sf l x (m + 1) = sf l x m ++ [(l + m, x / 2 ^ m ^^^ 1)] := by
  rw [sf_add m 1]
  rfl

theorem div_of {i u L : Nat} (h1 : u * 2 ^ L ≤ i) (h2 : i < u * 2 ^ L + 2 ^ L) : i / 2 ^ L = u := by
  apply Nat.div_eq_of_lt_le
  · exact h1
  · rw [Nat.succ_mul]; exact h2

theorem perfect_parts : ∀ (L i u : Nat), u * 2 ^ L ≤ i → i < u * 2 ^ L + 2 ^ L → pathP i (u * 2 ^ L) (2 ^ L) = (sf 0 i L).map prt
  | 0, i, u, _, _ => by rw [pathP_one _ _ _ (by simp)]; rfl
  | L + 1, i, u, h1, h2 => by
    have hp := Nat.two_pow_pos L
    have h3 : 2 ≤ 2 ^ (L + 1) := by rw [Nat.pow_succ]; omega
    have hs := sp_pow L
    have e2 : 2 ^ (L + 1) = 2 * 2 ^ L := by rw [Nat.pow_succ]; omega
    have e3 : u * 2 ^ (L + 1) = 2 * u * 2 ^ L := by rw [e2, Nat.mul_left_comm, Nat.mul_assoc]
    have e4 : (2 * u + 1) * 2 ^ L = 2 * u * 2 ^ L + 2 ^ L := by rw [Nat.add_mul, Nat.one_mul]
    have e5 : (2 * u + 1 + 1) * 2 ^ L = 2 * u * 2 ^ L + 2 ^ L + 2 ^ L := by rw [Nat.add_mul, e4, Nat.one_mul]
    rw [sf_snoc, List.map_append, Nat.zero_add]
    by_cases hi : i < u * 2 ^ (L + 1) + sp (2 ^ (L + 1))
    · rw [pathP_lo h3 hi, hs]
      rw [hs] at hi
      rw [e3] at h1 h2 hi ⊢
      have hd : i / 2 ^ L = 2 * u := div_of h1 hi
      rw [perfect_parts L i (2 * u) h1 hi, hd, even_xor_one _ (by omega)]
      simp only [List.map_cons, List.map_nil, prt]
      rw [e4, e5, e2]
      congr 3
      omega
    · rw [pathP_hi h3 hi, hs]
      rw [hs] at hi
      rw [e3] at h1 h2 hi ⊢
      rw [show 2 ^ (L + 1) - 2 ^ L = 2 ^ L by omega, ← e4]
      have g1 : (2 * u + 1) * 2 ^ L ≤ i := by rw [e4]; omega
      have g2 : i < (2 * u + 1) * 2 ^ L + 2 ^ L := by rw [e4]; omega
      have hd : i / 2 ^ L = 2 * u + 1 := div_of g1 g2
      rw [perfect_parts L i (2 * u + 1) g1 g2, hd, odd_xor_one _ (by omega)]
      rfl

theorem mul_lt_of {a b c : Nat} (h : a * c < b * c) : a < b := Nat.lt_of_mul_lt_mul_right h

/-- What an audit path consists of: c = F * 2 ^ f is where the fork's node begins. -/
theorem path_shape (f F : Nat) (hF : F % 2 = 0) : ∀ (n b m i : Nat), 2 ^ m ∣ b → n ≤ 2 ^ m → b ≤ F * 2 ^ f → F * 2 ^ f ≤ i → i < F * 2 ^ f + 2 ^ f → F * 2 ^ f + 2 ^ f ≤ b + n → b + n < F * 2 ^ f + 2 * 2 ^ f →
    ∃ Nl, G b (F * 2 ^ f) Nl ∧ pathP i b n = (sf 0 i f).map prt ++ ((if F * 2 ^ f + 2 ^ f < b + n then [(F * 2 ^ f + 2 ^ f, b + n)] else []) ++ (Nl.map prt).reverse) := by
  have hpf := Nat.two_pow_pos f
  have ef : 2 ^ (f + 1) = 2 * 2 ^ f := by rw [Nat.pow_succ]; omega
  have hFd : 2 ^ (f + 1) ∣ F * 2 ^ f := by
    obtain ⟨u, hu⟩ : ∃ u, F = 2 * u := ⟨F / 2, by omega⟩
    exact ⟨u, by rw [hu, ef, Nat.mul_assoc, Nat.mul_comm u, Nat.mul_assoc]⟩
  intro n
  induction n using Nat.strongRecOn with
  | _ n ih =>
    intro b m i hb hn h1 h2 h3 h4 h5
    by_cases hc : b = F * 2 ^ f
    · refine ⟨[], by rw [← hc]; exact G.nil _, ?_⟩
      simp only [List.map_nil, List.reverse_nil, List.append_nil]
      by_cases hq : F * 2 ^ f + 2 ^ f < b + n
      · rw [if_pos hq]
        have hs : sp n = 2 ^ f := sp_eq (by omega) (by omega)
        rw [pathP_lo (by omega) (by rw [hs]; omega), hs, hc, perfect_parts f i F h2 h3]
      · rw [if_neg hq, List.append_nil]
        obtain rfl : n = 2 ^ f := by omega
        rw [hc, perfect_parts f i F h2 h3]
    · have hn2 : 2 ≤ n := by omega
      obtain ⟨L, hL⟩ := sp_form n
      have hlt := sp_lt hn2
      have hle := @le_sp n
      rw [hL] at hlt hle
      have hpL := Nat.two_pow_pos L
      have eL : 2 ^ (L + 1) = 2 * 2 ^ L := by rw [Nat.pow_succ]; omega
      have hLm : L < m := by
        apply Nat.lt_of_not_le
        intro h
        have := pow_mono h
        omega
      have hbL : 2 ^ (L + 1) ∣ b := pow_dvd hLm hb
      have key : b + 2 ^ L ≤ F * 2 ^ f := by
        rcases Nat.lt_or_ge f L with hfl | hfl
        · have d1 : 2 ^ (f + 1) ∣ b + 2 ^ L := Nat.dvd_add (pow_dvd (by omega) hbL) (Nat.pow_dvd_pow 2 (by omega))
          apply Nat.le_of_not_lt
          intro hh
          have d2 : 2 ^ (f + 1) ∣ b + 2 ^ L - F * 2 ^ f := Nat.dvd_sub d1 hFd
          have := Nat.le_of_dvd (by omega) d2
          omega
        · have d2 : 2 ^ L ∣ F * 2 ^ f - b := Nat.dvd_sub (pow_dvd (by omega) hFd) (pow_dvd (by omega) hbL)
          have := Nat.le_of_dvd (by omega) d2
          omega
      obtain ⟨Nl, hG, hP⟩ := ih (n - 2 ^ L) (by omega) (b + 2 ^ L) L i (Nat.dvd_add (pow_dvd (by omega) hbL) (Nat.dvd_refl _)) (by omega) key h2 h3 (by omega) (by omega)
      refine ⟨(L, b / 2 ^ L) :: Nl, G.cons b _ L Nl (pow_dvd (by omega) hbL) key (by rintro ⟨_, hx⟩; omega) hG, ?_⟩
      rw [pathP_hi hn2 (by rw [hL]; omega), hL, hP, show b + 2 ^ L + (n - 2 ^ L) = b + n by omega]
      have hpart : prt (L, b / 2 ^ L) = (b, b + 2 ^ L) := by
        have := Nat.div_mul_cancel (pow_dvd (show L ≤ L + 1 by omega) hbL)
        simp only [prt, Nat.add_mul, Nat.one_mul, this]
      simp only [List.map_cons, List.reverse_cons, hpart, List.append_assoc]

/-- The parts beside the way up of node (t, x), and the others. -/
theorem node_path {t x n d : Nat} {Nl : List (Nat × Nat)} (hx : x < n / 2 ^ t) (hX : n / 2 ^ t / 2 ^ d = x / 2 ^ d + 1) (hev : x / 2 ^ d % 2 = 0) (hn : n < 2 ^ 64) (hG : G 0 (x / 2 ^ d * 2 ^ (t + d)) Nl) :
    t ≤ (pathP (x * 2 ^ t) 0 n).length ∧ (pathP (x * 2 ^ t) 0 n).drop t = (sf t x d).map prt ++ ((if (x / 2 ^ d + 1) * 2 ^ (t + d) < n then [((x / 2 ^ d + 1) * 2 ^ (t + d), n)] else []) ++ (Nl.map prt).reverse) := by
  have hpt := Nat.two_pow_pos t
  have hpd := Nat.two_pow_pos d
  have hq : n / 2 ^ (t + d) = x / 2 ^ d + 1 := by rw [Nat.pow_add, ← Nat.div_div_eq_div_mul]; exact hX
  have h0 := Nat.div_add_mod n (2 ^ (t + d))
  have h1 := Nat.mod_lt n (Nat.two_pow_pos (t + d))
  rw [hq, Nat.mul_comm, Nat.add_mul, Nat.one_mul] at h0
  have hx0 := Nat.div_add_mod x (2 ^ d)
  have hx1 := Nat.mod_lt x hpd
  have e1 : x / 2 ^ d * 2 ^ (t + d) = x / 2 ^ d * 2 ^ d * 2 ^ t := by rw [Nat.pow_add, Nat.mul_comm (2 ^ t), Nat.mul_assoc]
  have g1 : x / 2 ^ d * 2 ^ (t + d) ≤ x * 2 ^ t := by
    rw [e1]
    exact Nat.mul_le_mul_right _ (by rw [Nat.mul_comm]; omega)
  have g2 : x * 2 ^ t < x / 2 ^ d * 2 ^ (t + d) + 2 ^ (t + d) := by
    have : x + 1 ≤ x / 2 ^ d * 2 ^ d + 2 ^ d := by rw [Nat.mul_comm (x / 2 ^ d)]; omega
    have h := Nat.mul_le_mul_right (2 ^ t) this
    rw [Nat.add_mul, Nat.add_mul, Nat.one_mul, ← e1, ← Nat.pow_add, Nat.add_comm d t] at h
    omega
  obtain ⟨Nl', hG', hP⟩ := path_shape (t + d) (x / 2 ^ d) hev n 0 64 (x * 2 ^ t) (Nat.dvd_zero _) (by omega) (by omega) g1 g2 (by omega) (by omega)
  obtain rfl := hG'.det hG
  refine ⟨by rw [hP, List.length_append, List.length_map, sf_len]; omega, ?_⟩
  rw [hP, sf_add t d, Nat.mul_div_cancel _ hpt, Nat.zero_add, List.map_append, List.append_assoc, List.drop_append_of_le_length (by rw [List.length_map, sf_len]; omega), List.drop_of_length_le (by rw [List.length_map, sf_len]; omega), List.nil_append, Nat.zero_add, Nat.add_mul, Nat.one_mul]
end Go.Proofs.YtkmdkmlgahfcpaaDoor.Log
