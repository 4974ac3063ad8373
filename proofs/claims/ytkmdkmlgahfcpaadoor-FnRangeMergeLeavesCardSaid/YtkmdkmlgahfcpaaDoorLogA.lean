/- Plain numbers and lists, no program: the parts of a log (RFC 6962), audit paths, and what they lead to. -/
import Derived.Lib.BitFns
import Derived.Test.YtkmdkmlgahfcpaaDoorNodes
namespace Go.Proofs.YtkmdkmlgahfcpaaDoor.Log
open Go Go.Proofs.YtkmdkmlgahfcpaaDoor.Nodes
set_option linter.unusedVariables false

/-- The greatest power of two that is less than n. -/
def sp (n : Nat) : Nat := 2 ^ Nat.log2 (n - 1)
theorem sp_pos (n : Nat) : 0 < sp n := Nat.two_pow_pos _
theorem sp_lt {n : Nat} (h : 2 ≤ n) : sp n < n := by
  have := Nat.log2_self_le (n := n - 1) (by omega)
  unfold sp
  omega
theorem le_sp {n : Nat} : n ≤ 2 * sp n := by
  have := Nat.lt_log2_self (n := n - 1)
  unfold sp
  rw [Nat.pow_succ] at this
  omega
theorem pow_unique {a b n : Nat} (h1 : 2 ^ a < n) (h2 : n ≤ 2 * 2 ^ a) (h3 : 2 ^ b < n) (h4 : n ≤ 2 * 2 ^ b) : a = b := by
  rcases Nat.lt_trichotomy a b with h | h | h
  · have := Nat.pow_le_pow_right (n := 2) (by decide) h
    rw [Nat.pow_succ] at this
    omega
  · exact h
  · have := Nat.pow_le_pow_right (n := 2) (by decide) h
    rw [Nat.pow_succ] at this
    omega
theorem sp_eq {n a : Nat} (h1 : 2 ^ a < n) (h2 : n ≤ 2 * 2 ^ a) : sp n = 2 ^ a := by
  have hp := Nat.two_pow_pos a
  have := pow_unique (a := Nat.log2 (n - 1)) (b := a) (sp_lt (n := n) (by omega)) le_sp h1 h2
  unfold sp
  rw [this]
theorem sp_form (n : Nat) : ∃ a, sp n = 2 ^ a := ⟨_, rfl⟩
theorem sp_pow (a : Nat) : sp (2 ^ (a + 1)) = 2 ^ a := by
  have := Nat.two_pow_pos a
  exact sp_eq (by rw [Nat.pow_succ]; omega) (by rw [Nat.pow_succ]; omega)

/-- The parts of the audit path of leaf i of the n leaves from b on, from the leaf up. -/
def pathP (i b n : Nat) : List (Nat × Nat) :=
  if h : 2 ≤ n then
    if i < b + sp n then pathP i b (sp n) ++ [(b + sp n, b + n)]
    else pathP i (b + sp n) (n - sp n) ++ [(b, b + sp n)]
  else []
termination_by n
decreasing_by
  · exact sp_lt h
  · have := sp_pos n; omega
theorem pathP_one (i b n : Nat) (h : n ≤ 1) : pathP i b n = [] := by
  rw [pathP, dif_neg (by omega)]
theorem pathP_lo {i b n : Nat} (h : 2 ≤ n) (hi : i < b + sp n) : pathP i b n = pathP i b (sp n) ++ [(b + sp n, b + n)] := by
  rw [pathP, dif_pos h, if_pos hi]
theorem pathP_hi {i b n : Nat} (h : 2 ≤ n) (hi : ¬ i < b + sp n) : pathP i b n = pathP i (b + sp n) (n - sp n) ++ [(b, b + sp n)] := by
  rw [pathP, dif_pos h, if_neg hi]

section
variable {α : Type} (hc : α → α → α) (d : α)
/-- The root that leaf x and a path lead to. -/
def rootP (i b n : Nat) (x : α) (p : List α) : α :=
  if h : 2 ≤ n then
    if i < b + sp n then hc (rootP i b (sp n) x (p.take (p.length - 1))) (p.getD (p.length - 1) d)
    else hc (p.getD (p.length - 1) d) (rootP i (b + sp n) (n - sp n) x (p.take (p.length - 1)))
  else x
termination_by n
decreasing_by
  · exact sp_lt h
  · have := sp_pos n; omega
theorem rootP_one (i b n : Nat) (x : α) (p : List α) (h : n ≤ 1) : rootP hc d i b n x p = x := by
  rw [rootP, dif_neg (by omega)]
theorem rootP_lo {i b n : Nat} (x : α) (p : List α) (q : α) (h : 2 ≤ n) (hi : i < b + sp n) : rootP hc d i b n x (p ++ [q]) = hc (rootP hc d i b (sp n) x p) q := by
  rw [rootP, dif_pos h, if_pos hi]
  have e : (p ++ [q]).length - 1 = p.length := by simp
  rw [e, List.take_left', List.getD_eq_getElem?_getD]
  · simp
  · rfl
theorem rootP_hi {i b n : Nat} (x : α) (p : List α) (q : α) (h : 2 ≤ n) (hi : ¬ i < b + sp n) : rootP hc d i b n x (p ++ [q]) = hc q (rootP hc d i (b + sp n) (n - sp n) x p) := by
  rw [rootP, dif_pos h, if_neg hi]
  have e : (p ++ [q]).length - 1 = p.length := by simp
  rw [e, List.take_left', List.getD_eq_getElem?_getD]
  · simp
  · rfl

/-- Chained up with others: by the bits of i from j on; to the right of all. -/
def chI (i : Nat) : Nat → α → List α → α
  | _, s, [] => s
  | j, s, p :: ps => chI i (j + 1) (if i / 2 ^ j % 2 = 0 then hc s p else hc p s) ps
def chB : α → List α → α
  | s, [] => s
  | s, p :: ps => chB (hc p s) ps
/-- Chained up with those to the left alone. -/
def chR (i : Nat) : Nat → α → List α → α
  | _, s, [] => s
  | j, s, p :: ps => chR i (j + 1) (if i / 2 ^ j % 2 = 1 then hc p s else s) ps
theorem chI_snoc (i : Nat) (q : α) : ∀ (p : List α) (j : Nat) (s : α), chI hc i j s (p ++ [q]) = if i / 2 ^ (j + p.length) % 2 = 0 then hc (chI hc i j s p) q else hc q (chI hc i j s p)
  | [], j, s => by simp [chI]
  | a :: p, j, s => by
    simp only [List.cons_append, chI]
    rw [chI_snoc i q p (j + 1)]
    simp only [List.length_cons]
    rw [show j + 1 + p.length = j + (p.length + 1) by omega]
theorem chR_snoc (i : Nat) (q : α) : ∀ (p : List α) (j : Nat) (s : α), chR hc i j s (p ++ [q]) = if i / 2 ^ (j + p.length) % 2 = 1 then hc q (chR hc i j s p) else chR hc i j s p
  | [], j, s => by simp [chR]
  | a :: p, j, s => by
    simp only [List.cons_append, chR]
    rw [chR_snoc i q p (j + 1)]
    simp only [List.length_cons]
    rw [show j + 1 + p.length = j + (p.length + 1) by omega]
theorem chB_snoc (q : α) : ∀ (p : List α) (s : α), chB hc s (p ++ [q]) = hc q (chB hc s p)
  | [], s => rfl
  | a :: p, s => by
    simp only [List.cons_append, chB]
    exact chB_snoc q p _
/-- Only the bits below the path's length count. -/
theorem chI_low {i i' : Nat} (n : Nat) (h : ∀ j, j < n → i / 2 ^ j % 2 = i' / 2 ^ j % 2) : ∀ (p : List α) (j : Nat) (s : α), j + p.length ≤ n → chI hc i j s p = chI hc i' j s p
  | [], j, s, _ => rfl
  | a :: p, j, s, hl => by
    simp only [List.length_cons] at hl
    simp only [chI]
    rw [h j (by omega)]
    exact chI_low n h p (j + 1) _ (by omega)
/-- Where all bits are set, the path lies to the left. -/
theorem chI_ones {i : Nat} : ∀ (p : List α) (j : Nat) (s : α), (∀ t, t < p.length → i / 2 ^ (j + t) % 2 = 1) → chI hc i j s p = chB hc s p
  | [], j, s, _ => rfl
  | a :: p, j, s, h => by
    simp only [chI, chB]
    have h0 := h 0 (by simp)
    rw [Nat.add_zero] at h0
    rw [h0, if_neg (by decide)]
    exact chI_ones p (j + 1) _ (fun t ht => by
      have := h (t + 1) (by simp; omega)
      rwa [show j + (t + 1) = j + 1 + t by omega] at this)
theorem chI_append (i : Nat) : ∀ (p q : List α) (j : Nat) (s : α), chI hc i j s (p ++ q) = chI hc i (j + p.length) (chI hc i j s p) q
  | [], q, j, s => by simp [chI]
  | a :: p, q, j, s => by
    simp only [List.cons_append, chI, List.length_cons]
    rw [chI_append i p q (j + 1)]
    rw [show j + 1 + p.length = j + (p.length + 1) by omega]
end

/-- The bits of a number below and at a power of two. -/
theorem bit_add {L x j : Nat} (h : j < L) : (2 ^ L + x) / 2 ^ j % 2 = x / 2 ^ j % 2 := by
  have e : 2 ^ L = 2 ^ j * (2 * 2 ^ (L - j - 1)) := by
    rw [← Nat.mul_assoc, ← Nat.pow_succ, ← Nat.pow_add]
    congr 1
    omega
  rw [e, Nat.mul_add_div (Nat.two_pow_pos j)]
  omega
theorem lt_pow_div {L x : Nat} (h : x < 2 ^ L) : x / 2 ^ L = 0 := Nat.div_eq_of_lt h

/-- In a perfect tree the path has a hash for each level, and the bits tell the sides. -/
theorem path_perfect : ∀ (L i b : Nat), b ≤ i → i < b + 2 ^ L → (pathP i b (2 ^ L)).length = L
  | 0, i, b, _, _ => by rw [pathP_one _ _ _ (by simp)]; rfl
  | L + 1, i, b, h1, h2 => by
    have h3 : 2 ≤ 2 ^ (L + 1) := by have := Nat.two_pow_pos L; rw [Nat.pow_succ]; omega
    have hs := sp_pow L
    have hp : 2 ^ (L + 1) = 2 ^ L + 2 ^ L := by rw [Nat.pow_succ]; omega
    by_cases hi : i < b + sp (2 ^ (L + 1))
    · rw [pathP_lo h3 hi, hs, List.length_append, path_perfect L i b h1 (by rw [← hs]; exact hi)]
      rfl
    · rw [pathP_hi h3 hi, hs, List.length_append, show 2 ^ (L + 1) - 2 ^ L = 2 ^ L by omega, path_perfect L i (b + 2 ^ L) (by rw [hs] at hi; omega) (by omega)]
      rfl
theorem snoc_of {α : Type} (p : List α) (n : Nat) (h : p.length = n + 1) : ∃ q x, p = q ++ [x] ∧ q.length = n := by
  rcases List.eq_nil_or_concat p with h0 | ⟨q, x, hq⟩
  · subst h0; simp at h
  · rw [List.concat_eq_append] at hq
    subst hq
    simp at h
    exact ⟨q, x, rfl, h⟩
theorem root_perfect {α : Type} (hc : α → α → α) (d x : α) : ∀ (L i b : Nat) (p : List α), b ≤ i → i < b + 2 ^ L → p.length = L → rootP hc d i b (2 ^ L) x p = chI hc (i - b) 0 x p
  | 0, i, b, p, _, _, hl => by
    rw [rootP_one _ _ _ _ _ _ _ (by simp), List.length_eq_zero_iff.1 hl]
    rfl
  | L + 1, i, b, p, h1, h2, hl => by
    obtain ⟨q, y, rfl, hq⟩ := snoc_of p L hl
    have h3 : 2 ≤ 2 ^ (L + 1) := by have := Nat.two_pow_pos L; rw [Nat.pow_succ]; omega
    have hs := sp_pow L
    have hp : 2 ^ (L + 1) = 2 ^ L + 2 ^ L := by rw [Nat.pow_succ]; omega
    rw [chI_snoc, Nat.zero_add, hq]
    by_cases hi : i < b + sp (2 ^ (L + 1))
    · rw [rootP_lo hc d x q y h3 hi, hs, root_perfect hc d x L i b q h1 (by rw [← hs]; exact hi) hq]
      rw [hs] at hi
      rw [lt_pow_div (show i - b < 2 ^ L by omega), if_pos rfl]
    · rw [rootP_hi hc d x q y h3 hi, hs, show 2 ^ (L + 1) - 2 ^ L = 2 ^ L by omega, root_perfect hc d x L i (b + 2 ^ L) q (by rw [hs] at hi; omega) (by omega) hq]
      rw [hs] at hi
      have e : i - b = 2 ^ L + (i - (b + 2 ^ L)) := by omega
      have e2 : (i - b) / 2 ^ L = 1 := by apply Nat.div_eq_of_lt_le <;> omega
      rw [e2, if_neg (by decide)]
      congr 1
      exact (chI_low hc L (fun j hj => by rw [e]; exact bit_add hj) q 0 x (by omega)).symm

theorem xor_cancel {L a c : Nat} (ha : a < 2 ^ L) (hc : c < 2 ^ L) : (2 ^ L + a) ^^^ (2 ^ L + c) = a ^^^ c := by
  apply Nat.eq_of_testBit_eq
  intro j
  rw [Nat.testBit_xor, Nat.testBit_xor]
  rcases Nat.lt_trichotomy j L with h | h | h
  · rw [Nat.testBit_two_pow_add_gt h, Nat.testBit_two_pow_add_gt h]
  · subst h
    rw [Nat.testBit_two_pow_add_eq, Nat.testBit_two_pow_add_eq, Nat.testBit_lt_two_pow ha, Nat.testBit_lt_two_pow hc]
    rfl
  · have h1 : 2 ^ (L + 1) ≤ 2 ^ j := Nat.pow_le_pow_right (by decide) h
    rw [Nat.pow_succ] at h1
    rw [Nat.testBit_lt_two_pow (show 2 ^ L + a < 2 ^ j by omega), Nat.testBit_lt_two_pow (show 2 ^ L + c < 2 ^ j by omega), Nat.testBit_lt_two_pow (show a < 2 ^ j by omega), Nat.testBit_lt_two_pow (show c < 2 ^ j by omega)]
theorem xor_top {L a c : Nat} (ha : a < 2 ^ L) (hc : c < 2 ^ L) : 2 ^ L ≤ a ^^^ (2 ^ L + c) ∧ a ^^^ (2 ^ L + c) < 2 ^ (L + 1) := by
  refine ⟨?_, Nat.xor_lt_two_pow (by rw [Nat.pow_succ]; omega) (by rw [Nat.pow_succ]; omega)⟩
  apply Nat.ge_two_pow_of_testBit
  rw [Nat.testBit_xor, Nat.testBit_two_pow_add_eq, Nat.testBit_lt_two_pow ha, Nat.testBit_lt_two_pow hc]
  rfl
theorem bitLen_of {m l : Nat} (h1 : 2 ^ l ≤ m) (h2 : m < 2 ^ (l + 1)) (h : m < 2 ^ 64) : Lib.bitLen m = l + 1 := by
  have hp := Nat.two_pow_pos l
  obtain ⟨l', e, h3, h4, _⟩ := bitLen_top m (by omega) h
  rw [e]
  rcases Nat.lt_trichotomy l l' with h5 | h5 | h5
  · have := Nat.pow_le_pow_right (n := 2) (by decide) (show l + 1 ≤ l' by omega); omega
  · rw [h5]
  · have := Nat.pow_le_pow_right (n := 2) (by decide) (show l' + 1 ≤ l by omega); omega
theorem bitLen_zero : Lib.bitLen 0 = 0 := by decide
theorem pop_zero (f : Nat) : Lib.popAux f 0 = 0 := by
  induction f with
  | zero => rfl
  | succ f ih => simp only [Lib.popAux]; simpa using ih
theorem pop_add_pow : ∀ (f t a : Nat), a < 2 ^ t → t < f → Lib.popAux f (2 ^ t + a) = Lib.popAux f a + 1
  | 0, t, a, _, h => by omega
  | f + 1, 0, a, h, _ => by
    have : a = 0 := by simpa using h
    subst this
    simp only [Lib.popAux, Nat.pow_zero]
    simp [pop_zero]
  | f + 1, t + 1, a, h, h2 => by
    simp only [Lib.popAux]
    have e1 : (2 ^ (t + 1) + a) / 2 = 2 ^ t + a / 2 := by rw [Nat.pow_succ]; omega
    have e2 : (2 ^ (t + 1) + a) % 2 = a % 2 := by rw [Nat.pow_succ]; omega
    have h3 : 2 ^ (t + 1) = 2 * 2 ^ t := by rw [Nat.pow_succ]; omega
    rw [e1, e2, pop_add_pow f t (a / 2) (by omega) (by omega)]
    omega

/-- How many hashes of a path lie below the fork, and how many above it. -/
def inner (i n : Nat) : Nat := Lib.bitLen (i ^^^ (n - 1))
def border (i n : Nat) : Nat := Lib.onesCount (i / 2 ^ inner i n)
/-- What an audit path consists of. -/
theorem path_parts {α : Type} (hc : α → α → α) (d x : α) : ∀ (n i b : Nat), i < n → n < 2 ^ 64 →
    (pathP (b + i) b n).length = inner i n + border i n ∧
      ∀ p : List α, p.length = inner i n + border i n → rootP hc d (b + i) b n x p = chB hc (chI hc i 0 x (p.take (inner i n))) (p.drop (inner i n)) := by
  intro n
  induction n using Nat.strongRecOn with
  | _ n ih =>
    intro i b hi hn
    by_cases h1 : n ≤ 1
    · obtain rfl : n = 1 := by omega
      obtain rfl : i = 0 := by omega
      have e1 : inner 0 1 = 0 := by decide
      have e2 : border 0 1 = 0 := by decide
      rw [pathP_one _ _ _ h1, e1, e2]
      refine ⟨rfl, fun p hp => ?_⟩
      obtain rfl : p = [] := List.length_eq_zero_iff.1 hp
      rw [rootP_one _ _ _ _ _ _ _ h1]
      rfl
    · have h2 : 2 ≤ n := by omega
      obtain ⟨L, hL⟩ := sp_form n
      have hlt := sp_lt h2
      have hle := @le_sp n
      rw [hL] at hlt hle
      have hp := Nat.two_pow_pos L
      have hL64 : L < 64 := by
        apply Nat.lt_of_not_le
        intro h
        have := Nat.pow_le_pow_right (n := 2) (by decide) h
        omega
      have hn1 : n - 1 = 2 ^ L + (n - 2 ^ L - 1) := by omega
      by_cases hlo : i < 2 ^ L
      · have hx := xor_top (a := i) (c := n - 2 ^ L - 1) hlo (by omega)
        rw [← hn1] at hx
        have hin : inner i n = L + 1 := bitLen_of hx.1 hx.2 (Nat.lt_of_lt_of_le hx.2 (Nat.pow_le_pow_right (by decide) (by omega)))
        have hbo : border i n = 0 := by
          unfold border
          rw [hin, lt_pow_div (Nat.lt_of_lt_of_le hlo (Nat.pow_le_pow_right (by decide) (by omega)))]
          decide
        have hc1 : b + i < b + sp n := by rw [hL]; omega
        rw [hin, hbo]
        refine ⟨?_, fun p hp => ?_⟩
        · rw [pathP_lo h2 hc1, hL, List.length_append, path_perfect L (b + i) b (by omega) (by omega)]
          rfl
        · obtain ⟨q, y, rfl, hq⟩ := snoc_of p L hp
          rw [rootP_lo hc d x q y h2 hc1, hL, root_perfect hc d x L (b + i) b q (by omega) (by omega) hq, Nat.add_sub_cancel_left, List.take_of_length_le (by omega), List.drop_of_length_le (by omega), chI_snoc, Nat.zero_add, hq,
            lt_pow_div hlo, if_pos rfl]
          rfl
      · obtain ⟨h3, h4⟩ := ih (n - 2 ^ L) (by omega) (i - 2 ^ L) (b + 2 ^ L) (by omega) (by omega)
        have hi2 : i = 2 ^ L + (i - 2 ^ L) := by omega
        have hi3 : i - 2 ^ L < 2 ^ L := by omega
        have hin : inner i n = inner (i - 2 ^ L) (n - 2 ^ L) := by
          unfold inner
          conv => lhs; rw [hi2, hn1]
          rw [xor_cancel hi3 (by omega)]
        have hinL : inner (i - 2 ^ L) (n - 2 ^ L) ≤ L := Lib.bitLen_le _ L (by omega) (Nat.xor_lt_two_pow hi3 (by omega))
        have hbo : border i n = border (i - 2 ^ L) (n - 2 ^ L) + 1 := by
          unfold border
          rw [hin]
          generalize inner (i - 2 ^ L) (n - 2 ^ L) = t at hinL
          have e1 : i / 2 ^ t = 2 ^ (L - t) + (i - 2 ^ L) / 2 ^ t := by
            conv => lhs; rw [hi2]
            have e : 2 ^ L = 2 ^ t * 2 ^ (L - t) := by rw [← Nat.pow_add]; congr 1; omega
            conv => lhs; rw [e]
            rw [Nat.mul_add_div (Nat.two_pow_pos t)]
            rw [← e]
          rw [e1]
          unfold Lib.onesCount
          refine pop_add_pow 64 (L - t) _ ?_ (by omega)
          apply Nat.div_lt_of_lt_mul
          rw [← Nat.pow_add]
          rw [show t + (L - t) = L by omega]
          exact hi3
        have hc1 : ¬ b + i < b + sp n := by rw [hL]; omega
        have e2 : b + 2 ^ L + (i - 2 ^ L) = b + i := by omega
        rw [e2] at h3 h4
        rw [hin, hbo]
        refine ⟨?_, fun p hp => ?_⟩
        · rw [pathP_hi h2 hc1, hL, List.length_append, h3]
          simp; omega
        · obtain ⟨q, y, rfl, hq⟩ := snoc_of p (inner (i - 2 ^ L) (n - 2 ^ L) + border (i - 2 ^ L) (n - 2 ^ L)) (by rw [hp]; omega)
          rw [rootP_hi hc d x q y h2 hc1, hL, h4 q hq, List.take_append_of_le_length (by omega), List.drop_append_of_le_length (by omega), chB_snoc]
          have e3 := chI_low hc (i := i) (i' := i - 2 ^ L) L (fun j hj => by
            have e4 := bit_add (L := L) (x := i - 2 ^ L) hj
            rw [← hi2] at e4
            exact e4) (q.take (inner (i - 2 ^ L) (n - 2 ^ L))) 0 x (by rw [List.length_take]; omega)
          rw [e3]
end Go.Proofs.YtkmdkmlgahfcpaaDoor.Log
