/- Plain numbers and lists, no program: the parts of a proof between two logs (RFC 6962, 2.1.2), and the two roots that it leads to. -/
import Derived.Test.YtkmdkmlgahfcpaaDoorLogA
namespace Go.Proofs.YtkmdkmlgahfcpaaDoor.Log
open Go Go.Proofs.YtkmdkmlgahfcpaaDoor.Nodes
set_option linter.unusedVariables false

/-- The parts of the proof for the first s1 leaves (counted from 0), within the n leaves from b on. -/
def proofP (s1 b n : Nat) (w : Bool) : List (Nat × Nat) :=
  if s1 = b + n then (if w = true then [] else [(b, b + n)])
  else if h : 2 ≤ n then
    if s1 ≤ b + sp n then proofP s1 b (sp n) w ++ [(b + sp n, b + n)]
    else proofP s1 (b + sp n) (n - sp n) false ++ [(b, b + sp n)]
  else []
termination_by n
decreasing_by
  · exact sp_lt h
  · have := sp_pos n; omega
theorem proofP_end {s1 b n : Nat} {w : Bool} (h : s1 = b + n) : proofP s1 b n w = if w = true then [] else [(b, b + n)] := by
  rw [proofP, if_pos h]
theorem proofP_lo {s1 b n : Nat} {w : Bool} (h0 : ¬ s1 = b + n) (h : 2 ≤ n) (hi : s1 ≤ b + sp n) : proofP s1 b n w = proofP s1 b (sp n) w ++ [(b + sp n, b + n)] := by
  rw [proofP, if_neg h0, dif_pos h, if_pos hi]
theorem proofP_hi {s1 b n : Nat} {w : Bool} (h0 : ¬ s1 = b + n) (h : 2 ≤ n) (hi : ¬ s1 ≤ b + sp n) : proofP s1 b n w = proofP s1 (b + sp n) (n - sp n) false ++ [(b, b + sp n)] := by
  rw [proofP, if_neg h0, dif_pos h, if_neg hi]
section
variable {α : Type} (hc : α → α → α) (d : α)
/-- The two roots that a proof leads to. -/
def rootsP (s1 b n : Nat) (w : Bool) (P : List α) (r1 : α) : α × α :=
  if s1 = b + n then (if w = true then (r1, r1) else (P.getD 0 d, P.getD 0 d))
  else if h : 2 ≤ n then
    if s1 ≤ b + sp n then
      ((rootsP s1 b (sp n) w (P.take (P.length - 1)) r1).1, hc (rootsP s1 b (sp n) w (P.take (P.length - 1)) r1).2 (P.getD (P.length - 1) d))
    else (hc (P.getD (P.length - 1) d) (rootsP s1 (b + sp n) (n - sp n) false (P.take (P.length - 1)) r1).1, hc (P.getD (P.length - 1) d) (rootsP s1 (b + sp n) (n - sp n) false (P.take (P.length - 1)) r1).2)
  else (d, d)
termination_by n
decreasing_by
  all_goals first | exact sp_lt h | (have := sp_pos n; omega)
theorem rootsP_end {s1 b n : Nat} {w : Bool} (P : List α) (r1 : α) (h : s1 = b + n) : rootsP hc d s1 b n w P r1 = if w = true then (r1, r1) else (P.getD 0 d, P.getD 0 d) := by
  rw [rootsP, if_pos h]
theorem last_of (P : List α) (q : α) : (P ++ [q]).take ((P ++ [q]).length - 1) = P ∧ (P ++ [q]).getD ((P ++ [q]).length - 1) d = q := by
  have e : (P ++ [q]).length - 1 = P.length := by simp
  rw [e, List.take_left' rfl, List.getD_eq_getElem?_getD]
  simp
theorem rootsP_lo {s1 b n : Nat} {w : Bool} (P : List α) (q r1 : α) (h0 : ¬ s1 = b + n) (h : 2 ≤ n) (hi : s1 ≤ b + sp n) : rootsP hc d s1 b n w (P ++ [q]) r1 = ((rootsP hc d s1 b (sp n) w P r1).1, hc (rootsP hc d s1 b (sp n) w P r1).2 q) := by
  rw [rootsP, if_neg h0, dif_pos h, if_pos hi, (last_of d P q).1, (last_of d P q).2]
theorem rootsP_hi {s1 b n : Nat} {w : Bool} (P : List α) (q r1 : α) (h0 : ¬ s1 = b + n) (h : 2 ≤ n) (hi : ¬ s1 ≤ b + sp n) : rootsP hc d s1 b n w (P ++ [q]) r1 = (hc q (rootsP hc d s1 (b + sp n) (n - sp n) false P r1).1, hc q (rootsP hc d s1 (b + sp n) (n - sp n) false P r1).2) := by
  rw [rootsP, if_neg h0, dif_pos h, if_neg hi, (last_of d P q).1, (last_of d P q).2]
theorem chR_low {i i' : Nat} (n : Nat) (h : ∀ j, j < n → i / 2 ^ j % 2 = i' / 2 ^ j % 2) : ∀ (p : List α) (j : Nat) (s : α), j + p.length ≤ n → chR hc i j s p = chR hc i' j s p
  | [], j, s, _ => rfl
  | a :: p, j, s, hl => by
    simp only [List.length_cons] at hl
    simp only [chR]
    rw [h j (by omega)]
    exact chR_low n h p (j + 1) _ (by omega)
end

/-- The trailing zeros of s are t. -/
def Tz (s t : Nat) : Prop := ∃ q, s = 2 ^ t * (2 * q + 1)
theorem Tz.le {s t : Nat} (h : Tz s t) : 2 ^ t ≤ s := by
  obtain ⟨q, rfl⟩ := h
  exact Nat.le_mul_of_pos_right _ (by omega)
theorem Tz.lt {s t L : Nat} (h : Tz s t) (hs : s < 2 ^ L) : t < L := by
  have := h.le
  exact Nat.lt_of_not_le fun h2 => by have := Nat.pow_le_pow_right (n := 2) (by decide) h2; omega
theorem Tz.leL {s t L : Nat} (h : Tz s t) (hs : s ≤ 2 ^ L) : t ≤ L := by
  have h1 := h.lt (L := L + 1) (by have := Nat.two_pow_pos L; rw [Nat.pow_succ]; omega)
  omega
theorem Tz.top {s t L : Nat} (h : Tz s t) (hs : s = 2 ^ L) : t = L := by
  obtain ⟨q, hq⟩ := h
  rw [hs] at hq
  have h1 : 2 ^ t ∣ 2 ^ L := ⟨_, hq⟩
  have h2 := (Nat.pow_dvd_pow_iff_le_right (by decide : 1 < 2)).1 h1
  obtain ⟨e, rfl⟩ : ∃ e, L = t + e := ⟨L - t, by omega⟩
  rw [Nat.pow_add] at hq
  have h3 := Nat.eq_of_mul_eq_mul_left (Nat.two_pow_pos t) hq
  cases e with
  | zero => rfl
  | succ e => rw [Nat.pow_succ] at h3; omega
/-- Taking off a greater power of two. -/
theorem Tz.sub {s t L : Nat} (h : Tz s t) (h1 : 2 ^ L < s) (h2 : s < 2 ^ (L + 1)) : Tz (s - 2 ^ L) t ∧ t < L := by
  have hlt := h.lt h2
  have hne : t ≠ L := by
    rintro rfl
    obtain ⟨q, rfl⟩ := h
    rw [Nat.pow_succ] at h2
    have h3 := Nat.lt_of_mul_lt_mul_left h2
    have : q = 0 := by omega
    subst this
    omega
  have hL : t < L := by omega
  refine ⟨?_, hL⟩
  obtain ⟨q, rfl⟩ := h
  obtain ⟨e, rfl⟩ : ∃ e, L = t + 1 + e := ⟨L - t - 1, by omega⟩
  have e1 : 2 ^ (t + 1 + e) = 2 ^ t * (2 * 2 ^ e) := by rw [Nat.pow_add, Nat.pow_succ, Nat.mul_assoc]
  rw [e1] at h1 ⊢
  have h3 := Nat.lt_of_mul_lt_mul_left h1
  refine ⟨q - 2 ^ e, ?_⟩
  rw [← Nat.mul_sub]
  congr 1
  omega
theorem Tz.npow {s L : Nat} (h1 : 2 ^ L < s) (h2 : s < 2 ^ (L + 1)) (t : Nat) : s ≠ 2 ^ t := by
  rintro rfl
  have a := (Nat.pow_lt_pow_iff_right (by decide : 1 < 2)).1 h1
  have b := (Nat.pow_lt_pow_iff_right (by decide : 1 < 2)).1 h2
  omega
/-- Bits of i / 2^t. -/
theorem div_bit (i t j : Nat) : i / 2 ^ t / 2 ^ j = i / 2 ^ (t + j) := by rw [Nat.div_div_eq_div_mul, ← Nat.pow_add]

/-- Ahead of the hashes: the seed, unless it is the first root itself. -/
def pre {α : Type} (w : Bool) (s t : Nat) (sd : α) : List α := if w = true ∧ s = 2 ^ t then [] else [sd]
theorem pre_len {α : Type} (w : Bool) (s t : Nat) (sd : α) : (pre w s t sd).length = if w = true ∧ s = 2 ^ t then 0 else 1 := by
  unfold pre
  split <;> rfl

theorem cons_perfect {α : Type} (hc : α → α → α) (d : α) : ∀ (L s t b : Nat) (w : Bool), 0 < s → s ≤ 2 ^ L → Tz s t →
    (proofP (b + s) b (2 ^ L) w).length = (pre w s t d).length + (L - t) ∧ ∀ (sd r1 : α) (R : List α), R.length = L - t → (w = true ∧ s = 2 ^ t → sd = r1) →
      rootsP hc d (b + s) b (2 ^ L) w (pre w s t sd ++ R) r1 = (chR hc ((s - 1) / 2 ^ t) 0 sd R, chI hc ((s - 1) / 2 ^ t) 0 sd R) := by
  intro L
  induction L with
  | zero =>
    intro s t b w h0 h1 ht
    have hs : s = 1 := by simpa using (by omega : s ≤ 1 ∧ 0 < s) |> fun h => (by omega : s = 1)
    subst hs
    obtain rfl : t = 0 := ht.top (L := 0) rfl
    refine ⟨?_, fun sd r1 R hR hsd => ?_⟩
    · rw [proofP_end rfl, pre_len]
      cases w <;> simp
    · rw [rootsP_end _ _ _ _ rfl]
      obtain rfl : R = [] := List.length_eq_zero_iff.1 hR
      cases w with
      | true => rw [hsd ⟨rfl, rfl⟩]; rfl
      | false => simp [pre, chR, chI]
  | succ L ih =>
    intro s t b w h0 h1 ht
    have hp := Nat.two_pow_pos L
    have hpp : 2 ^ (L + 1) = 2 ^ L + 2 ^ L := by rw [Nat.pow_succ]; omega
    have h2 : 2 ≤ 2 ^ (L + 1) := by omega
    have hsp := sp_pow L
    by_cases he : s = 2 ^ (L + 1)
    · obtain rfl := ht.top he
      refine ⟨?_, fun sd r1 R hR hsd => ?_⟩
      · rw [proofP_end (by rw [he]), pre_len]
        cases w <;> simp [he]
      · rw [rootsP_end _ _ _ _ (by rw [he])]
        obtain rfl : R = [] := List.length_eq_zero_iff.1 (by omega)
        cases w with
        | true => rw [hsd ⟨rfl, he⟩]; rfl
        | false => simp [pre, chR, chI]
    · have hne : ¬ b + s = b + 2 ^ (L + 1) := by omega
      by_cases hlo : s ≤ 2 ^ L
      · have htL := ht.leL hlo
        obtain ⟨l1, l2⟩ := ih s t b w h0 hlo ht
        have hc1 : b + s ≤ b + sp (2 ^ (L + 1)) := by rw [hsp]; omega
        refine ⟨?_, fun sd r1 R hR hsd => ?_⟩
        · rw [proofP_lo hne h2 hc1, hsp, List.length_append, l1]
          simp; omega
        · obtain ⟨R', q, rfl, hq⟩ := snoc_of R (L - t) (by omega)
          rw [← List.append_assoc, rootsP_lo hc d _ q r1 hne h2 hc1, hsp, l2 sd r1 R' hq hsd, chR_snoc, chI_snoc, Nat.zero_add, hq, div_bit, show t + (L - t) = L by omega, lt_pow_div (by omega : s - 1 < 2 ^ L)]
          simp
      · have htt := ht.sub (L := L) (by omega) (by omega)
        obtain ⟨l1, l2⟩ := ih (s - 2 ^ L) t (b + 2 ^ L) false (by omega) (by omega) htt.1
        have hc1 : ¬ b + s ≤ b + sp (2 ^ (L + 1)) := by rw [hsp]; omega
        have e1 : b + 2 ^ L + (s - 2 ^ L) = b + s := by omega
        have e2 : 2 ^ (L + 1) - 2 ^ L = 2 ^ L := by omega
        have hn := Tz.npow (s := s) (L := L) (by omega) (by omega) t
        have p1 : ∀ x : α, pre w s t x = [x] := fun x => by unfold pre; rw [if_neg (fun h => hn h.2)]
        have p2 : ∀ x : α, pre false (s - 2 ^ L) t x = [x] := fun x => by simp [pre]
        rw [e1] at l1 l2
        refine ⟨?_, fun sd r1 R hR hsd => ?_⟩
        · rw [proofP_hi hne h2 hc1, hsp, e2, List.length_append, l1, p1, p2]
          simp; omega
        · obtain ⟨R', q, rfl, hq⟩ := snoc_of R (L - t) (by omega)
          have l3 := l2 sd r1 R' hq (fun h => by simp at h)
          rw [p2] at l3
          have hb : (s - 1) / 2 ^ L = 1 := by apply Nat.div_eq_of_lt_le <;> omega
          have hlow : ∀ j, j < L - t → (s - 1) / 2 ^ t / 2 ^ j % 2 = (s - 2 ^ L - 1) / 2 ^ t / 2 ^ j % 2 := fun j hj => by
            rw [div_bit, div_bit]
            have := bit_add (L := L) (x := s - 2 ^ L - 1) (j := t + j) (by omega)
            rwa [show 2 ^ L + (s - 2 ^ L - 1) = s - 1 by omega] at this
          rw [p1, ← List.append_assoc, rootsP_hi hc d _ q r1 hne h2 hc1, hsp, e2, l3, chR_snoc, chI_snoc, Nat.zero_add, hq, div_bit, show t + (L - t) = L by omega, hb, if_pos rfl, if_neg (by decide),
            chR_low hc (L - t) hlow R' 0 sd (by omega), chI_low hc (L - t) hlow R' 0 sd (by omega)]
/-- What a proof between two logs consists of. -/
theorem cons_parts {α : Type} (hc : α → α → α) (d : α) : ∀ (n s t b : Nat) (w : Bool), 0 < s → s < n → n < 2 ^ 64 → Tz s t →
    t < inner (s - 1) n ∧ (proofP (b + s) b n w).length = (pre w s t d).length + (inner (s - 1) n - t) + border (s - 1) n ∧ ∀ (sd r1 : α) (R : List α), R.length = inner (s - 1) n - t + border (s - 1) n → (w = true ∧ s = 2 ^ t → sd = r1) →
      rootsP hc d (b + s) b n w (pre w s t sd ++ R) r1 = (chB hc (chR hc ((s - 1) / 2 ^ t) 0 sd (R.take (inner (s - 1) n - t))) (R.drop (inner (s - 1) n - t)), chB hc (chI hc ((s - 1) / 2 ^ t) 0 sd (R.take (inner (s - 1) n - t))) (R.drop (inner (s - 1) n - t))) := by
  intro n
  induction n using Nat.strongRecOn with
  | _ n ih =>
    intro s t b w h0 hsn hn ht
    have h2 : 2 ≤ n := by omega
    obtain ⟨L, hL⟩ := sp_form n
    have hlt := sp_lt h2
    have hle := @le_sp n
    rw [hL] at hlt hle
    have hp := Nat.two_pow_pos L
    have hL64 : L < 64 := by
      apply Nat.lt_of_not_le
      intro h
      have := Nat.pow_le_pow_right (n := 2) (by decide) h
      omega
    have hne : ¬ b + s = b + n := by omega
    by_cases hlo : s ≤ 2 ^ L
    · have htL := ht.leL hlo
      have hx := xor_top (a := s - 1) (c := n - 2 ^ L - 1) (L := L) (by omega) (by omega)
      rw [show 2 ^ L + (n - 2 ^ L - 1) = n - 1 by omega] at hx
      have hin : inner (s - 1) n = L + 1 := bitLen_of hx.1 hx.2 (Nat.lt_of_lt_of_le hx.2 (Nat.pow_le_pow_right (by decide) (by omega)))
      have hbo : border (s - 1) n = 0 := by
        unfold border
        rw [hin, lt_pow_div (Nat.lt_of_lt_of_le (by omega : s - 1 < 2 ^ L) (Nat.pow_le_pow_right (by decide) (by omega)))]
        decide
      have hc1 : b + s ≤ b + sp n := by rw [hL]; omega
      obtain ⟨l1, l2⟩ := cons_perfect hc d L s t b w h0 hlo ht
      rw [hin, hbo]
      refine ⟨by omega, ?_, fun sd r1 R hR hsd => ?_⟩
      · rw [proofP_lo hne h2 hc1, hL, List.length_append, l1]
        simp; omega
      · obtain ⟨R', q, rfl, hq⟩ := snoc_of R (L - t) (by omega)
        rw [List.take_of_length_le (by omega), List.drop_of_length_le (by omega), ← List.append_assoc, rootsP_lo hc d _ q r1 hne h2 hc1, hL, l2 sd r1 R' hq hsd, chR_snoc, chI_snoc, Nat.zero_add, hq, div_bit, show t + (L - t) = L by omega, lt_pow_div (by omega : s - 1 < 2 ^ L)]
        simp [chB]
    · have hup : s < 2 ^ (L + 1) := by rw [Nat.pow_succ]; omega
      have htt := ht.sub (by omega) hup
      obtain ⟨l0, l1, l2⟩ := ih (n - 2 ^ L) (by omega) (s - 2 ^ L) t (b + 2 ^ L) false (by omega) (by omega) (by omega) htt.1
      have hi2 : s - 1 = 2 ^ L + (s - 2 ^ L - 1) := by omega
      have hi3 : s - 2 ^ L - 1 < 2 ^ L := by omega
      have hn1 : n - 1 = 2 ^ L + (n - 2 ^ L - 1) := by omega
      have hin : inner (s - 1) n = inner (s - 2 ^ L - 1) (n - 2 ^ L) := by
        unfold inner
        conv => lhs; rw [hi2, hn1]
        rw [xor_cancel hi3 (by omega)]
      have hinL : inner (s - 2 ^ L - 1) (n - 2 ^ L) ≤ L := Lib.bitLen_le _ L (by omega) (Nat.xor_lt_two_pow hi3 (by omega))
      have hbo : border (s - 1) n = border (s - 2 ^ L - 1) (n - 2 ^ L) + 1 := by
        unfold border
        rw [hin]
        generalize inner (s - 2 ^ L - 1) (n - 2 ^ L) = z at hinL
        have e1 : (s - 1) / 2 ^ z = 2 ^ (L - z) + (s - 2 ^ L - 1) / 2 ^ z := by
          conv => lhs; rw [hi2]
          have e : 2 ^ L = 2 ^ z * 2 ^ (L - z) := by rw [← Nat.pow_add]; congr 1; omega
          conv => lhs; rw [e]
          rw [Nat.mul_add_div (Nat.two_pow_pos z)]
          rw [← e]
        rw [e1]
        unfold Lib.onesCount
        refine pop_add_pow 64 (L - z) _ ?_ (by omega)
        apply Nat.div_lt_of_lt_mul
        rw [← Nat.pow_add, show z + (L - z) = L by omega]
        exact hi3
      have hc1 : ¬ b + s ≤ b + sp n := by rw [hL]; omega
      have e1 : b + 2 ^ L + (s - 2 ^ L) = b + s := by omega
      have hnp := Tz.npow (s := s) (L := L) (by omega) hup t
      have p1 : ∀ x : α, pre w s t x = [x] := fun x => by unfold pre; rw [if_neg (fun h => hnp h.2)]
      have p2 : ∀ x : α, pre false (s - 2 ^ L) t x = [x] := fun x => by simp [pre]
      rw [e1] at l1 l2
      rw [hin, hbo]
      generalize hA : inner (s - 2 ^ L - 1) (n - 2 ^ L) = A at *
      generalize border (s - 2 ^ L - 1) (n - 2 ^ L) = B at *
      refine ⟨l0, ?_, fun sd r1 R hR hsd => ?_⟩
      · rw [proofP_hi hne h2 hc1, hL, List.length_append, l1, p1, p2]
        simp; omega
      · obtain ⟨R', q, rfl, hq⟩ := snoc_of R (A - t + B) (by omega)
        have l3 := l2 sd r1 R' hq (fun h => by simp at h)
        rw [p2] at l3
        have hlow : ∀ j, j < L - t → (s - 1) / 2 ^ t / 2 ^ j % 2 = (s - 2 ^ L - 1) / 2 ^ t / 2 ^ j % 2 := fun j hj => by
          rw [div_bit, div_bit]
          have := bit_add (L := L) (x := s - 2 ^ L - 1) (j := t + j) (by omega)
          rwa [← hi2] at this
        rw [p1, ← List.append_assoc, rootsP_hi hc d _ q r1 hne h2 hc1, hL, l3, List.take_append_of_le_length (by omega), List.drop_append_of_le_length (by omega), chB_snoc, chB_snoc,
          chR_low hc (L - t) hlow _ 0 sd (by rw [List.length_take]; omega), chI_low hc (L - t) hlow _ 0 sd (by rw [List.length_take]; omega)]
end Go.Proofs.YtkmdkmlgahfcpaaDoor.Log
