/- Plain numbers, no program: the product of two polynomials and its remainder, written out, is the product by logarithms (all 65536 pairs, by the kernel). -/
import Derived.Test.YtipbhclpeogcmaaDoorField
namespace Go.Proofs.YtipbhclpeogcmaaDoor.Field
def pack (l : List Nat) : Nat := l.foldr (fun x n => x + 256 * n) 0
def logN : Nat := 0xaf5850a8eaf4d674e8ade7e6e9d5ae4fd72c757aeb16f50b51a0a99cb05f59cb5a3eccbbb18660fbaa559d29523ba16cf66f0c7fec4917c476a47bb7d8432d1fa2416d4753393c849e5d2a14abd356f261befcdcb2978790cdcfbc955bd13f372e892023d99244117cb4b8267799a5e318fec531edde4a670d63808cf7c0700757a7f373ace5d44e2b79150a9f9b5eca3dba85fa54283a6b6e7e48c3a3b6421e404638835c13d2f1bddb968fce94d03688229110b32598e2fd30dd66628bbf06a672e44d78099ac9b9f9276a7dc2b51d458212f0da8e9335210f24e12f658a05714c08c8f869c11c81ef8d340ee064044bc7681bee33df03c61a320219010000
def expN : Nat := 0x18e47add86c361b83cfe9fa7db0582c160b8bcbebfbf3f7f5f47a3d90482412098a45ac562b9bc3eff9f279b259a251a653a7dde070381c0e078dc86432198241ae57a5dc6e3795c46231964babdbe3fff1f67bb3d7e5fc7e3f91c663bfd1e673b7d5e472399249aa55a452299a4da8542a158442219e4fa9da6db85c2e1785cc663397c5ec763b93c7edf87c3e1f81ce67bdd068341a0d884422118643afd9e271b65ba3dfe1fe7fb1d66bbbd3e7fdf0783c1e0f89ca65bc5e2f99c261be5fa1de6fb9d269ba5da05028140a058c46239fc1ee77b5d46a35944a259c4e279dc06030180c06038fc9ea75b45a2d984c261387cde8743a1d8040201008040201
def lgN (a : Nat) : Nat := (logN >>> (8 * a)) % 256
def exN (a : Nat) : Nat := (expN >>> (8 * a)) % 256
theorem lgN_eq : ∀ a : Fin 256, lgN a.val = lg a.val := by decide +kernel
theorem exN_eq : ∀ a : Fin 256, exN a.val = ex a.val := by decide +kernel
/-- The exponent of a product: the sum, less 255 where it is at least 255 (both below 256). -/
def red (s : Nat) : Nat := s - 255 * ((s + 1) >>> 8)
def P (a b : Nat) : Nat := (((((((((b >>> 0) % 2 * (a <<< 0)) ^^^ ((b >>> 1) % 2 * (a <<< 1))) ^^^ ((b >>> 2) % 2 * (a <<< 2))) ^^^ ((b >>> 3) % 2 * (a <<< 3))) ^^^ ((b >>> 4) % 2 * (a <<< 4))) ^^^ ((b >>> 5) % 2 * (a <<< 5))) ^^^ ((b >>> 6) % 2 * (a <<< 6))) ^^^ ((b >>> 7) % 2 * (a <<< 7)))
def rem1 (i p : Nat) : Nat := p ^^^ (((p >>> i) % 2) * (285 <<< (i - 8)))
def R (p : Nat) : Nat := rem1 8 (rem1 9 (rem1 10 (rem1 11 (rem1 12 (rem1 13 (rem1 14 p))))))
def xt (a : Nat) : Nat := (2 * a) ^^^ ((a >>> 7) * 285)
def row (a : Nat) : Nat → Bool
  | 0 => true
  | n + 1 => Nat.beq (R (P (a + 1) (n + 1))) (exN (red (lgN (a + 1) + lgN (n + 1)))) && row a n
def rows (a : Nat) : Nat → Bool
  | 0 => true
  | n + 1 => row (a + n) 255 && rows a n
theorem part0 : rows 0 15 = true := by decide +kernel
theorem part15 : rows 15 15 = true := by decide +kernel
theorem part30 : rows 30 15 = true := by decide +kernel
theorem part45 : rows 45 15 = true := by decide +kernel
theorem part60 : rows 60 15 = true := by decide +kernel
theorem part75 : rows 75 15 = true := by decide +kernel
theorem part90 : rows 90 15 = true := by decide +kernel
theorem part105 : rows 105 15 = true := by decide +kernel
theorem part120 : rows 120 15 = true := by decide +kernel
theorem part135 : rows 135 15 = true := by decide +kernel
theorem part150 : rows 150 15 = true := by decide +kernel
theorem part165 : rows 165 15 = true := by decide +kernel
theorem part180 : rows 180 15 = true := by decide +kernel
theorem part195 : rows 195 15 = true := by decide +kernel
theorem part210 : rows 210 15 = true := by decide +kernel
theorem part225 : rows 225 15 = true := by decide +kernel
theorem part240 : rows 240 15 = true := by decide +kernel
theorem row_at (a : Nat) : ∀ n, row a n = true → ∀ b, b < n → R (P (a + 1) (b + 1)) = exN (red (lgN (a + 1) + lgN (b + 1)))
  | 0, _, b, h => by omega
  | n + 1, h, b, hb => by
    unfold row at h
    rw [Bool.and_eq_true] at h
    by_cases e : b = n
    · subst e; exact Nat.eq_of_beq_eq_true h.1
    · exact row_at a n h.2 b (by omega)
theorem rows_at (a : Nat) : ∀ n, rows a n = true → ∀ c, c < n → row (a + c) 255 = true
  | 0, _, c, h => by omega
  | n + 1, h, c, hc => by
    unfold rows at h
    rw [Bool.and_eq_true] at h
    by_cases e : c = n
    · subst e; exact h.1
    · exact rows_at a n h.2 c (by omega)
theorem rows_all (a : Nat) (h : a < 255) : row a 255 = true := by
  by_cases h0 : a < 15
  · have h := rows_at 0 15 part0 (a - 0) (by omega)
    rw [show 0 + (a - 0) = a by omega] at h
    exact h
  by_cases h15 : a < 30
  · have h := rows_at 15 15 part15 (a - 15) (by omega)
    rw [show 15 + (a - 15) = a by omega] at h
    exact h
  by_cases h30 : a < 45
  · have h := rows_at 30 15 part30 (a - 30) (by omega)
    rw [show 30 + (a - 30) = a by omega] at h
    exact h
  by_cases h45 : a < 60
  · have h := rows_at 45 15 part45 (a - 45) (by omega)
    rw [show 45 + (a - 45) = a by omega] at h
    exact h
  by_cases h60 : a < 75
  · have h := rows_at 60 15 part60 (a - 60) (by omega)
    rw [show 60 + (a - 60) = a by omega] at h
    exact h
  by_cases h75 : a < 90
  · have h := rows_at 75 15 part75 (a - 75) (by omega)
    rw [show 75 + (a - 75) = a by omega] at h
    exact h
  by_cases h90 : a < 105
  · have h := rows_at 90 15 part90 (a - 90) (by omega)
    rw [show 90 + (a - 90) = a by omega] at h
    exact h
  by_cases h105 : a < 120
  · have h := rows_at 105 15 part105 (a - 105) (by omega)
    rw [show 105 + (a - 105) = a by omega] at h
    exact h
  by_cases h120 : a < 135
  · have h := rows_at 120 15 part120 (a - 120) (by omega)
    rw [show 120 + (a - 120) = a by omega] at h
    exact h
  by_cases h135 : a < 150
  · have h := rows_at 135 15 part135 (a - 135) (by omega)
    rw [show 135 + (a - 135) = a by omega] at h
    exact h
  by_cases h150 : a < 165
  · have h := rows_at 150 15 part150 (a - 150) (by omega)
    rw [show 150 + (a - 150) = a by omega] at h
    exact h
  by_cases h165 : a < 180
  · have h := rows_at 165 15 part165 (a - 165) (by omega)
    rw [show 165 + (a - 165) = a by omega] at h
    exact h
  by_cases h180 : a < 195
  · have h := rows_at 180 15 part180 (a - 180) (by omega)
    rw [show 180 + (a - 180) = a by omega] at h
    exact h
  by_cases h195 : a < 210
  · have h := rows_at 195 15 part195 (a - 195) (by omega)
    rw [show 195 + (a - 195) = a by omega] at h
    exact h
  by_cases h210 : a < 225
  · have h := rows_at 210 15 part210 (a - 210) (by omega)
    rw [show 210 + (a - 210) = a by omega] at h
    exact h
  by_cases h225 : a < 240
  · have h := rows_at 225 15 part225 (a - 225) (by omega)
    rw [show 225 + (a - 225) = a by omega] at h
    exact h
  by_cases h240 : a < 255
  · have h := rows_at 240 15 part240 (a - 240) (by omega)
    rw [show 240 + (a - 240) = a by omega] at h
    exact h
  omega
theorem shr_zero (i : Nat) : 0 >>> i = 0 := by rw [Nat.shiftRight_eq_div_pow, Nat.zero_div]
theorem P_zero_right (a : Nat) : P a 0 = 0 := by
  unfold P
  simp only [shr_zero, Nat.zero_mod, Nat.zero_mul, Nat.xor_self]
theorem P_zero_left (b : Nat) : P 0 b = 0 := by
  unfold P
  simp only [Nat.zero_shiftLeft, Nat.mul_zero, Nat.xor_self]
theorem R_zero : R 0 = 0 := by decide
theorem red_eq (s : Nat) (h : s < 510) : red s = if 255 ≤ s then s - 255 else s := by
  unfold red
  rw [Nat.shiftRight_eq_div_pow]
  split <;> omega
/-- The product by logarithms is the product of polynomials modulo x^8 + x^4 + x^3 + x^2 + 1. -/
theorem gm_eq (a b : Nat) (ha : a < 256) (hb : b < 256) : R (P a b) = gm a b := by
  unfold gm
  by_cases h0 : a = 0 ∨ b = 0
  · rw [if_pos h0]
    rcases h0 with h0 | h0
    · rw [h0, P_zero_left, R_zero]
    · rw [h0, P_zero_right, R_zero]
  · rw [if_neg h0]
    obtain ⟨c, rfl⟩ : ∃ c, a = c + 1 := ⟨a - 1, by omega⟩
    obtain ⟨d, rfl⟩ : ∃ d, b = d + 1 := ⟨b - 1, by omega⟩
    have h := row_at c 255 (rows_all c (by omega)) d (by omega)
    have k1 := lgN_eq ⟨c + 1, ha⟩
    have k2 := lgN_eq ⟨d + 1, hb⟩
    have k3 := lg_le ⟨c + 1, ha⟩
    have k4 := lg_le ⟨d + 1, hb⟩
    dsimp only at k1 k2 k3 k4
    rw [h, k1, k2, red_eq _ (by omega)]
    have hlt : (if 255 ≤ lg (c + 1) + lg (d + 1) then lg (c + 1) + lg (d + 1) - 255 else lg (c + 1) + lg (d + 1)) < 256 := by split <;> omega
    generalize (if 255 ≤ lg (c + 1) + lg (d + 1) then lg (c + 1) + lg (d + 1) - 255 else lg (c + 1) + lg (d + 1)) = q at *
    exact exN_eq ⟨q, hlt⟩
end Go.Proofs.YtipbhclpeogcmaaDoor.Field
