/- FnMatrixMultiplies: the tests of its arguments, and the law for all of them. -/
import Derived.Test.YtipbhclpeogcmaaDoorMulV
namespace Go.Proofs.YtipbhclpeogcmaaDoor.MatM
open Go Go.RowKit Go.Proofs.YtipbhclpeogcmaaDoor.M Go.Proofs.YtipbhclpeogcmaaDoor.Field Go.Proofs.YtipbhclpeogcmaaDoorW.PrintMore Go.Proofs.YtipbhclpeogcmaaDoorW.PrintWords Go.Proofs.YtipbhclpeogcmaaDoorW.PrintLast
set_option linter.unusedVariables false
set_option linter.unusedSimpArgs false

/-- A matrix: a row, a column, all rows as long. -/
def chk (l : List (List Int)) : Bool := decide (0 < l.length) && decide (0 < (l.getD 0 []).length) && l.all fun r => decide (r.length = (l.getD 0 []).length)
theorem getD_len (pre : List (List Int)) (y : List Int) (rest : List (List Int)) : (pre ++ y :: rest).getD pre.length [] = y := by
  rw [List.getD_eq_getElem?_getD, List.getElem?_append_right (Nat.le_refl _), Nat.sub_self]
  rfl
theorem check_loop (L : List (List Int)) (m : Nat) (hL : L.length ≤ 9223372036854775806) : ∀ (rest pre : List (List Int)), L = pre ++ rest →
    ∃ e : Option Int, e.isNone = (rest.all fun r => decide (r.length = m)) ∧ Ev (fun q => reedsolomon_matrix_Check.l0 q (m : Int) L (L.length : Int) (pre.length : Int)) e
  | [], pre, h => by
    refine ⟨none, rfl, Ev.step (fun q => reedsolomon_matrix_Check.l0.eq_2 _ _ _ _ _) ?_⟩
    rw [List.append_nil] at h
    subst h
    have c1 : ¬ (L.length : Int) < (L.length : Int) := by omega
    simp only [if_neg c1]
    exact Ev.now _
  | y :: rest, pre, h => by
    have hlen : L.length = pre.length + (rest.length + 1) := by rw [h, List.length_append, List.length_cons]
    have c1 : (pre.length : Int) < (L.length : Int) := by omega
    have c2 : 0 ≤ (pre.length : Int) := by omega
    have hy : L.getD pre.length [] = y := by rw [h]; exact getD_len pre y rest
    by_cases hm : y.length = m
    · obtain ⟨e, he, hev⟩ := check_loop L m hL rest (pre ++ [y]) (by rw [h, List.append_assoc]; rfl)
      refine ⟨e, by rw [he, List.all_cons, decide_eq_true hm, Bool.true_and], Ev.step (fun q => reedsolomon_matrix_Check.l0.eq_2 _ _ _ _ _) ?_⟩
      have c3 : (y.length : Int) = (m : Int) := by omega
      unfold rd_L1
      simp only [toNat_cast, if_pos c1, if_pos c2, hy, if_pos c3, wrap_nat pre.length (by omega)]
      rw [List.length_append, List.length_singleton] at hev
      exact hev
    · refine ⟨some 6, by rw [List.all_cons, decide_eq_false hm]; rfl, Ev.step (fun q => reedsolomon_matrix_Check.l0.eq_2 _ _ _ _ _) ?_⟩
      have c3 : ¬ (y.length : Int) = (m : Int) := by omega
      unfold rd_L1
      simp only [toNat_cast, if_pos c1, if_pos c2, hy, if_neg c3]
      exact Ev.now _
theorem isMatrix_ev (L : List (List Int)) (hL : L.length ≤ 9223372036854775806) : Ev (fun q => impl_isMatrix.f q L) (chk L) := by
  unfold impl_isMatrix.f reedsolomon_DoorCheck.f reedsolomon_matrix_Check.f chk
  have e0 : rd_L1 L 0 = L.getD 0 [] := rfl
  by_cases h0 : L.length = 0
  · have c1 : (L.length : Int) = 0 := by omega
    have c2 : ¬ 0 < L.length := by omega
    simp only [if_pos c1, decide_eq_false c2, Bool.false_and, Option.bind_some, Option.isNone_some]
    exact Ev.now _
  · have c1 : ¬ (L.length : Int) = 0 := by omega
    have c2 : 0 < (L.length : Int) := by omega
    have c3 : 0 < L.length := by omega
    simp only [if_neg c1, if_pos c2, decide_eq_true c3, Bool.true_and, e0]
    by_cases h1 : (L.getD 0 []).length = 0
    · have d1 : (((L.getD 0 []).length : Nat) : Int) = 0 := by omega
      have d2 : ¬ 0 < (L.getD 0 []).length := by omega
      simp only [if_pos d1, decide_eq_false d2, Bool.false_and, Option.bind_some, Option.isNone_some]
      exact Ev.now _
    · have d1 : ¬ (((L.getD 0 []).length : Nat) : Int) = 0 := by omega
      have d2 : 0 < (L.getD 0 []).length := by omega
      obtain ⟨e, he, hev⟩ := check_loop L (L.getD 0 []).length hL L [] rfl
      simp only [if_neg d1, decide_eq_true d2, Bool.true_and]
      rw [← he]
      refine Ev.bind (Ev.bind hev (Ev.now _)) ?_
      cases e with
      | none => exact Ev.now _
      | some c => exact Ev.now _
theorem columns_eq (L : List (List Int)) : spec_Columns.f L = some (((L.getD 0 []).length : Nat) : Int) := by
  unfold spec_Columns.f
  have e0 : rd_L1 L 0 = L.getD 0 [] := rfl
  by_cases h0 : L.length = 0
  · have c1 : (L.length : Int) = 0 := by omega
    rw [if_pos c1]
    rw [List.length_eq_zero_iff] at h0
    subst h0
    rfl
  · have c1 : ¬ (L.length : Int) = 0 := by omega
    have c2 : 0 < (L.length : Int) := by omega
    rw [if_neg c1, if_pos c2, e0]
theorem rect_loop (L : List (List Int)) (hL : L.length ≤ 9223372036854775806) : ∀ (rest pre : List (List Int)), L = pre ++ rest →
    Ev (fun q => spec_Rectangular.l0 q L L (L.length : Int) (pre.length : Int)) ((rest.all fun r => decide (r.length = (L.getD 0 []).length)) && decide (0 < (L.getD 0 []).length))
  | [], pre, h => by
    refine Ev.step (fun q => spec_Rectangular.l0.eq_2 _ _ _ _ _) ?_
    rw [List.append_nil] at h
    subst h
    have c1 : ¬ (L.length : Int) < (L.length : Int) := by omega
    simp only [if_neg c1, columns_eq, Option.bind_some, List.all_nil, Bool.true_and]
    have e : decide ((((L.getD 0 []).length : Nat) : Int) > 0) = decide (0 < (L.getD 0 []).length) := by congr 1; rw [eq_iff_iff]; omega
    rw [e]
    exact Ev.now _
  | y :: rest, pre, h => by
    refine Ev.step (fun q => spec_Rectangular.l0.eq_2 _ _ _ _ _) ?_
    have hlen : L.length = pre.length + (rest.length + 1) := by rw [h, List.length_append, List.length_cons]
    have c1 : (pre.length : Int) < (L.length : Int) := by omega
    have c2 : 0 ≤ (pre.length : Int) := by omega
    have hy : L.getD pre.length [] = y := by rw [h]; exact getD_len pre y rest
    unfold rd_L1
    simp only [toNat_cast, if_pos c1, if_pos c2, hy, columns_eq, Option.bind_some, wrap_nat pre.length (by omega)]
    by_cases hm : y.length = (L.getD 0 []).length
    · have c3 : (y.length : Int) = (((L.getD 0 []).length : Nat) : Int) := by omega
      simp only [if_pos c3]
      rw [List.all_cons, decide_eq_true hm, Bool.true_and]
      have := rect_loop L hL rest (pre ++ [y]) (by rw [h, List.append_assoc]; rfl)
      rw [List.length_append, List.length_singleton] at this
      exact this
    · have c3 : ¬ (y.length : Int) = (((L.getD 0 []).length : Nat) : Int) := by omega
      simp only [if_neg c3]
      rw [List.all_cons, decide_eq_false hm, Bool.false_and, Bool.false_and]
      exact Ev.now _
theorem rect_ev (L : List (List Int)) (hL : L.length ≤ 9223372036854775806) : Ev (fun q => spec_Rectangular.f q L) (chk L) := by
  have h := rect_loop L hL L [] rfl
  have e : chk L = ((L.all fun r => decide (r.length = (L.getD 0 []).length)) && decide (0 < (L.getD 0 []).length)) := by
    unfold chk
    cases L with
    | nil => rfl
    | cons y L => simp [Bool.and_comm]
  rw [e]
  exact h
theorem fits_ev (L : List (List Int)) : ∃ r, Ev (fun q => laws_zzFits2.f q L) r := by
  unfold laws_zzFits2.f
  by_cases h : (L.length : Int) > 2147483647
  · exact ⟨false, by simp only [if_pos h]; exact Ev.now _⟩
  · simp only [if_neg h]
    have loop : ∀ (rest pre : List (List Int)), L = pre ++ rest → ∃ r, Ev (fun q => laws_zzFits2.l0 q L (L.length : Int) (pre.length : Int)) r := by
      intro rest
      induction rest with
      | nil =>
        intro pre h2
        rw [List.append_nil] at h2
        subst h2
        have c1 : ¬ (L.length : Int) < (L.length : Int) := by omega
        exact ⟨true, Ev.step (fun q => laws_zzFits2.l0.eq_2 _ _ _ _) (by simp only [if_neg c1]; exact Ev.now _)⟩
      | cons y rest ih =>
        intro pre h2
        have hlen : L.length = pre.length + (rest.length + 1) := by rw [h2, List.length_append, List.length_cons]
        have c1 : (pre.length : Int) < (L.length : Int) := by omega
        have c2 : 0 ≤ (pre.length : Int) := by omega
        have hy : L.getD pre.length [] = y := by rw [h2]; exact getD_len pre y rest
        by_cases c3 : (y.length : Int) > 2147483647
        · refine ⟨false, Ev.step (fun q => laws_zzFits2.l0.eq_2 _ _ _ _) ?_⟩
          unfold rd_L1
          simp only [toNat_cast, if_pos c1, if_pos c2, hy, if_pos c3]
          exact Ev.now _
        · obtain ⟨r, hr⟩ := ih (pre ++ [y]) (by rw [h2, List.append_assoc]; rfl)
          refine ⟨r, Ev.step (fun q => laws_zzFits2.l0.eq_2 _ _ _ _) ?_⟩
          unfold rd_L1
          simp only [toNat_cast, if_pos c1, if_pos c2, hy, if_neg c3, wrap_nat pre.length (by omega)]
          rw [List.length_append, List.length_singleton] at hr
          exact hr
    exact loop L [] rfl
end Go.Proofs.YtipbhclpeogcmaaDoor.MatM
