/- Plain: a hash function that writes terms out is injective; texts of bytes; lists of texts compared. -/
import Derived.Test.YtkmdkmlgahfcpaaDoorLogH
import Derived.Lib.Bytes
namespace Go.Proofs.YtkmdkmlgahfcpaaDoor.Log
open Go Go.RowKit Go.Proofs.YtkmdkmlgahfcpaaDoor.M Go.Proofs.YtkmdkmlgahfcpaaDoor.Nodes Go.Proofs.YtkmdkmlgahfcpaaDoorW.PrintMore Go.Proofs.YtkmdkmlgahfcpaaDoorW.PrintWords Go.Proofs.YtkmdkmlgahfcpaaDoorW.PrintLast
set_option linter.unusedVariables false
set_option linter.unusedSimpArgs false
theorem wordB_inj (a b : Nat) (ha : a < 18446744073709551616) (hb : b < 18446744073709551616) : ∀ m, wordB (a : Int) m = wordB (b : Int) m → a % 2 ^ (8 * m) = b % 2 ^ (8 * m)
  | 0, _ => by simp [Nat.mod_one]
  | m + 1, h => by
    simp only [wordB, List.cons.injEq] at h
    have ih := wordB_inj a b ha hb m h.2
    have h1 := h.1
    rw [shr_nat a _ ha, shr_nat b _ hb] at h1
    have h2 : a / 2 ^ (8 * m) % 256 = b / 2 ^ (8 * m) % 256 := by omega
    rw [show 2 ^ (8 * (m + 1)) = 2 ^ (8 * m) * 256 by rw [Nat.mul_add, Nat.pow_add], Nat.mod_mul, Nat.mod_mul, ih, h2]
theorem wordB_len_inj (a b : Nat) (ha : a < 18446744073709551616) (hb : b < 18446744073709551616) (h : wordB (a : Int) 8 = wordB (b : Int) 8) : a = b := by
  have := wordB_inj a b ha hb 8 h
  rw [Nat.mod_eq_of_lt (by simpa using ha), Nat.mod_eq_of_lt (by simpa using hb)] at this
  exact this
theorem hc_inj {k0 k2 k5 : Int} (h0 : ¬ k0 = 1) {l r l' r' : List Int} (hl : l.length < 18446744073709551616) (hl' : l'.length < 18446744073709551616) (h : hc k0 k2 k5 l r = hc k0 k2 k5 l' r') : l = l' ∧ r = r' := by
  unfold hc at h
  rw [if_neg h0, if_neg h0, List.append_assoc, List.append_assoc, List.append_assoc, List.append_assoc] at h
  have h1 := (List.append_inj h rfl).2
  have h2 := List.append_inj h1 (by rw [wordB_len, wordB_len])
  have h3 := wordB_len_inj _ _ hl hl' h2.1
  exact List.append_inj h2.2 h3
/-- All bytes. -/
def Byt (l : List Int) : Prop := ∀ y ∈ l, 0 ≤ y ∧ y < 256
theorem wordB_byt (x : Int) : ∀ m, Byt (wordB x m)
  | 0 => fun y hy => by simp [wordB] at hy
  | m + 1 => fun y hy => by
    simp only [wordB, List.mem_cons] at hy
    rcases hy with rfl | hy
    · omega
    · exact wordB_byt x m y hy
theorem hc_byt {k0 k2 k5 : Int} (l r : List Int) (hl : Byt l) (hr : Byt r) : Byt (hc k0 k2 k5 l r) := by
  unfold hc
  split
  · exact wordB_byt _ _
  · intro y hy
    simp only [List.mem_append, List.mem_singleton] at hy
    rcases hy with ((rfl | hy) | hy) | hy
    · omega
    · exact wordB_byt _ _ y hy
    · exact hl y hy
    · exact hr y hy
theorem str_inj : ∀ {a b : List Int}, Byt a → Byt b → (strOfNums a).toList = (strOfNums b).toList → a = b := by
  intro a b ha hb h
  rw [Lib.strOfNums_toList, Lib.strOfNums_toList] at h
  unfold Lib.bytesOf at h
  induction a generalizing b with
  | nil =>
    cases b with
    | nil => rfl
    | cons y b => simp at h
  | cons x a ih =>
    cases b with
    | nil => simp at h
    | cons y b =>
      simp only [List.map_cons, List.cons.injEq] at h
      have h1 := ha x (List.mem_cons_self ..)
      have h2 := hb y (List.mem_cons_self ..)
      have h3 := congrArg UInt8.toNat h.1
      simp only [UInt8.toNat_ofNat'] at h3
      have e : x = y := by omega
      rw [e, ih (fun z hz => ha z (List.mem_cons_of_mem _ hz)) (fun z hz => hb z (List.mem_cons_of_mem _ hz)) h.2]
theorem same_loop (L M : List (List Int)) (hlen : L.length = M.length) (hL : ∀ r ∈ L, Byt r) (hM : ∀ r ∈ M, Byt r) (hb : L.length ≤ 2147483647) : ∀ d i, i + d = L.length → 
    ∃ r : Bool, Ev (fun k => spec_Same.l0 k L M (L.length : Int) (i : Int)) r ∧ (r = true ↔ L.drop i = M.drop i)
  | 0, i, h => by
    refine ⟨true, Ev.step (fun k => spec_Same.l0.eq_2 _ _ _ _ _) ?_, ?_⟩
    · simp only [if_neg (show ¬ (i : Int) < (L.length : Int) by omega)]
      exact Ev.now _
    · rw [List.drop_of_length_le (by omega), List.drop_of_length_le (by omega)]
      simp
  | d + 1, i, h => by
    have hi : i < L.length := by omega
    have hi2 : i < M.length := by omega
    have e1 : rd_L1 L (i : Int) = L[i] := by unfold rd_L1; simp [hi]
    have e2 : rd_L1 M (i : Int) = M[i] := by unfold rd_L1; simp [hi2]
    have d1 : L.drop i = L[i] :: L.drop (i + 1) := List.drop_eq_getElem_cons hi
    have d2 : M.drop i = M[i] :: M.drop (i + 1) := List.drop_eq_getElem_cons hi2
    by_cases hc : (strOfNums L[i]).toList = (strOfNums M[i]).toList
    · obtain ⟨r, hr, hi3⟩ := same_loop L M hlen hL hM hb d (i + 1) (by omega)
      refine ⟨r, Ev.step (fun k => spec_Same.l0.eq_2 _ _ _ _ _) ?_, ?_⟩
      · simp only [if_pos (show (i : Int) < (L.length : Int) by omega), if_pos (show (0 : Int) ≤ (i : Int) by omega), if_pos (show (i : Int) < (M.length : Int) by omega), e1, e2, if_pos hc, wrap_nat i (by omega)]
        exact hr
      · have := str_inj (hL _ (List.getElem_mem hi)) (hM _ (List.getElem_mem hi2)) hc
        rw [hi3, d1, d2, this]
        exact ⟨fun h => by rw [h], fun h => (List.cons.inj h).2⟩
    · refine ⟨false, Ev.step (fun k => spec_Same.l0.eq_2 _ _ _ _ _) ?_, ?_⟩
      · simp only [if_pos (show (i : Int) < (L.length : Int) by omega), if_pos (show (0 : Int) ≤ (i : Int) by omega), if_pos (show (i : Int) < (M.length : Int) by omega), e1, e2, if_neg hc]
        exact Ev.now _
      · rw [d1, d2]
        constructor
        · intro h; cases h
        · intro h
          injection h with h _
          rw [h] at hc
          exact absurd rfl hc
theorem same_ev (L M : List (List Int)) (hL : ∀ r ∈ L, Byt r) (hM : ∀ r ∈ M, Byt r) (hb : L.length ≤ 2147483647) : ∃ r : Bool, Ev (fun k => spec_Same.f k L M) r ∧ (r = true ↔ L = M) := by
  unfold spec_Same.f
  by_cases h : (L.length : Int) = (M.length : Int)
  · obtain ⟨r, hr, hi⟩ := same_loop L M (by omega) hL hM hb L.length 0 (by omega)
    refine ⟨r, ?_, by simpa using hi⟩
    simp only [if_pos h]
    exact hr
  · refine ⟨false, by simp only [if_neg h]; exact Ev.now _, ?_⟩
    constructor
    · intro h; cases h
    · intro e
      rw [e] at h
      exact absurd rfl h
theorem bool_eq {a b : Bool} (h : a = true ↔ b = true) : (a == b) = true := by
  cases a <;> cases b <;> simp_all
end Go.Proofs.YtkmdkmlgahfcpaaDoor.Log
