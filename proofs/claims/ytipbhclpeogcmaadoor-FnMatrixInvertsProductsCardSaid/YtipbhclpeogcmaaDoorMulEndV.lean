/- FnMatrixMultiplies: the law for all arguments. -/
import Derived.Test.YtipbhclpeogcmaaDoorMulLawV
namespace Go.Proofs.YtipbhclpeogcmaaDoor.MatM
open Go Go.RowKit Go.Proofs.YtipbhclpeogcmaaDoor.M Go.Proofs.YtipbhclpeogcmaaDoor.Field Go.Proofs.YtipbhclpeogcmaaDoorW.PrintMore Go.Proofs.YtipbhclpeogcmaaDoorW.PrintWords Go.Proofs.YtipbhclpeogcmaaDoorW.PrintLast
set_option linter.unusedVariables false
set_option linter.unusedSimpArgs false

theorem sq_matF (a b : List (List Int)) (N m : Nat) : ∀ n i x, Sq N m x → i + n ≤ N → Sq N m (matF a b m n i x)
  | 0, _, _, h, _ => h
  | n + 1, i, x, h, hi => sq_matF a b N m n (i + 1) _ (h.set i _ (by rw [rowF_length]; exact h.2 i (by omega))) (by omega)
def Mod (l : List (List Int)) : Prop := l.length ≤ 40 ∧ ∀ r ∈ l, r.length ≤ 40
theorem mod_l1 (X : List (List (List Int))) (n i : Nat) (hi : i < 100) (Y : List (List Int)) (hY : Y.length ≤ 40) : ∀ (rest pre : List (List Int)), Y = pre ++ rest →
    ((∀ y ∈ rest, y.length ≤ 40) ∧ ∀ r, Ev (fun q => laws_moderate.l0 q X (n : Int) ((i + 1 : Nat) : Int)) r → Ev (fun q => laws_moderate.l1 q X (n : Int) (i : Int) Y (Y.length : Int) (pre.length : Int)) r) ∨
      Ev (fun q => laws_moderate.l1 q X (n : Int) (i : Int) Y (Y.length : Int) (pre.length : Int)) false
  | [], pre, h => by
    rw [List.append_nil] at h
    subst h
    refine .inl ⟨(fun _ hy => by cases hy), fun r hr => Ev.step (fun q => laws_moderate.l1.eq_2 _ _ _ _ _ _ _) ?_⟩
    have c1 : ¬ (Y.length : Int) < (Y.length : Int) := by omega
    simp only [if_neg c1, wrap_nat i (by omega)]
    exact hr
  | y :: rest, pre, h => by
    have hlen : Y.length = pre.length + (rest.length + 1) := by rw [h, List.length_append, List.length_cons]
    have c1 : (pre.length : Int) < (Y.length : Int) := by omega
    have c2 : 0 ≤ (pre.length : Int) := by omega
    have hy : Y.getD pre.length [] = y := by rw [h]; exact getD_len pre y rest
    by_cases c3 : (y.length : Int) > 40
    · refine .inr (Ev.step (fun q => laws_moderate.l1.eq_2 _ _ _ _ _ _ _) ?_)
      unfold rd_L1
      simp only [toNat_cast, if_pos c1, if_pos c2, hy, if_pos c3]
      exact Ev.now _
    · have st : ∀ r, Ev (fun q => laws_moderate.l1 q X (n : Int) (i : Int) Y (Y.length : Int) ((pre ++ [y]).length : Int)) r → Ev (fun q => laws_moderate.l1 q X (n : Int) (i : Int) Y (Y.length : Int) (pre.length : Int)) r := by
        intro r hr
        refine Ev.step (fun q => laws_moderate.l1.eq_2 _ _ _ _ _ _ _) ?_
        unfold rd_L1
        simp only [toNat_cast, if_pos c1, if_pos c2, hy, if_neg c3, wrap_nat pre.length (by omega)]
        rw [List.length_append, List.length_singleton] at hr
        exact hr
      rcases mod_l1 X n i hi Y hY rest (pre ++ [y]) (by rw [h, List.append_assoc]; rfl) with ⟨h1, h2⟩ | h1
      · refine .inl ⟨fun z hz => ?_, fun r hr => st r (h2 r hr)⟩
        rcases List.mem_cons.1 hz with e | e
        · subst e; omega
        · exact h1 z e
      · exact .inr (st _ h1)
theorem mod_l0 (X : List (List (List Int))) (n i : Nat) (hi : i < 100) (Y : List (List Int)) (hX : X.getD i [] = Y) (hin : i < n) (hn : n = X.length) :
    (Mod Y ∧ ∀ r, Ev (fun q => laws_moderate.l0 q X (n : Int) ((i + 1 : Nat) : Int)) r → Ev (fun q => laws_moderate.l0 q X (n : Int) (i : Int)) r) ∨ Ev (fun q => laws_moderate.l0 q X (n : Int) (i : Int)) false := by
  have c1 : (i : Int) < (n : Int) := by omega
  have c2 : 0 ≤ (i : Int) := by omega
  have c3 : (i : Int) < (X.length : Int) := by omega
  have e0 : rd_L2 X (i : Int) = Y := by unfold rd_L2; rw [toNat_cast]; exact hX
  by_cases c4 : (Y.length : Int) > 40
  · refine .inr (Ev.step (fun q => laws_moderate.l0.eq_2 _ _ _ _) ?_)
    simp only [if_pos c1, if_pos c2, if_pos c3, e0, if_pos c4]
    exact Ev.now _
  · have st : ∀ r, Ev (fun q => laws_moderate.l1 q X (n : Int) (i : Int) Y (Y.length : Int) ((0 : Nat) : Int)) r → Ev (fun q => laws_moderate.l0 q X (n : Int) (i : Int)) r := by
      intro r hr
      refine Ev.step (fun q => laws_moderate.l0.eq_2 _ _ _ _) ?_
      simp only [if_pos c1, if_pos c2, if_pos c3, e0, if_neg c4]
      exact hr
    rcases mod_l1 X n i hi Y (by omega) Y [] rfl with ⟨h1, h2⟩ | h1
    · exact .inl ⟨⟨by omega, h1⟩, fun r hr => st r (h2 r hr)⟩
    · exact .inr (st _ h1)
theorem moderate_ev (a b : List (List Int)) : (Mod a ∧ Mod b ∧ Ev (fun q => laws_moderate.f q [a, b]) true) ∨ Ev (fun q => laws_moderate.f q [a, b]) false := by
  have he : Ev (fun q => laws_moderate.l0 q [a, b] ((2 : Nat) : Int) ((2 : Nat) : Int)) true := by
    refine Ev.step (fun q => laws_moderate.l0.eq_2 _ _ _ _) ?_
    have c1 : ¬ ((2 : Nat) : Int) < ((2 : Nat) : Int) := by omega
    simp only [if_neg c1]
    exact Ev.now _
  rcases mod_l0 [a, b] 2 0 (by decide) a rfl (by decide) rfl with ⟨h1, h2⟩ | h1
  · rcases mod_l0 [a, b] 2 1 (by decide) b rfl (by decide) rfl with ⟨h3, h4⟩ | h3
    · exact .inl ⟨h1, h3, h2 _ (h4 _ he)⟩
    · exact .inr (h2 _ h3)
  · exact .inr h1
theorem Mod.small {l : List (List Int)} (h : Mod l) : Small l := ⟨by have := h.1; omega, fun r hr => by have := h.2 r hr; omega⟩
theorem chk_spec {l : List (List Int)} (h : chk l = true) : 0 < l.length ∧ 0 < (l.getD 0 []).length ∧ Sq l.length (l.getD 0 []).length l := by
  unfold chk at h
  rw [Bool.and_eq_true, Bool.and_eq_true, decide_eq_true_eq, decide_eq_true_eq, List.all_eq_true] at h
  obtain ⟨⟨h1, h2⟩, h3⟩ := h
  refine ⟨h1, h2, rfl, fun i hi => ?_⟩
  have hm : l.getD i [] ∈ l := by
    rw [List.getD_eq_getElem?_getD, List.getElem?_eq_getElem hi, Option.getD_some]
    exact List.getElem_mem hi
  have := h3 _ hm
  rwa [decide_eq_true_eq] at this
theorem jbad (a b : List (List Int)) : Ev (fun q => impl_Multiply.j0 q a b true) (([] : List (List Int)), false) := by
  refine Ev.step (fun q => impl_Multiply.j0.eq_2 _ _ _ _) ?_
  simp only [if_true]
  exact Ev.now _
theorem mult_bad_a (a b : List (List Int)) (ha : Mod a) (h : chk a = false) : Ev (fun q => impl_Multiply.f q a b) (([] : List (List Int)), false) := by
  unfold impl_Multiply.f
  have := ha.1
  refine Ev.bind (isMatrix_ev a (by omega)) ?_
  have hf : ¬ (false = true) := by decide
  simp only [h, if_neg hf]
  exact jbad a b
theorem mult_bad_b (a b : List (List Int)) (ha : Mod a) (hb : Mod b) (h1 : chk a = true) (h : chk b = false) : Ev (fun q => impl_Multiply.f q a b) (([] : List (List Int)), false) := by
  unfold impl_Multiply.f
  have := ha.1
  have := hb.1
  refine Ev.bind (isMatrix_ev a (by omega)) ?_
  simp only [h1, if_true]
  refine Ev.bind (isMatrix_ev b (by omega)) ?_
  simp only [h, Bool.not_false]
  exact jbad a b
theorem mult_cols (a b : List (List Int)) (ha : Mod a) (hb : Mod b) (h1 : chk a = true) (h2 : chk b = true) (h : (a.getD 0 []).length ≠ b.length) : Ev (fun q => impl_Multiply.f q a b) (([] : List (List Int)), false) := by
  unfold impl_Multiply.f
  have := ha.1
  have := hb.1
  have sa := chk_spec h1
  refine Ev.bind (isMatrix_ev a (by omega)) ?_
  simp only [h1, if_true]
  refine Ev.bind (isMatrix_ev b (by omega)) ?_
  simp only [h2, Bool.not_true]
  refine Ev.step (fun q => impl_Multiply.j0.eq_2 _ _ _ _) ?_
  have hf : ¬ (false = true) := by decide
  simp only [if_neg hf]
  refine Ev.bind (rows_ev a ha.small) (Ev.bind (rows_ev b hb.small) ?_)
  have e0 : rd_L1 a 0 = a.getD 0 [] := rfl
  have c1 : 0 < (a.length : Int) := by omega
  have c2 : ¬ (((a.getD 0 []).length : Nat) : Int) = (b.length : Int) := by omega
  refine Ev.bind (a := (([] : List (List Int)), some (0 : Int))) ?_ ?_
  · unfold reedsolomon_DoorTimes.f reedsolomon_matrix_Multiply.f errors_New.f
    simp only [if_pos c1, e0, if_neg c2, Option.bind_some]
    exact Ev.now _
  · refine Ev.bind (rows_ev [] ⟨by decide, fun r hr => by cases hr⟩) ?_
    simp only [Option.isNone_some, if_neg hf]
    exact Ev.now _
theorem mult_good {a b : List (List Int)} {N K m : Nat} (F : Fit a b N K m) (ha : Mod a) (hb : Mod b) (h1 : chk a = true) (h2 : chk b = true) :
    Ev (fun q => impl_Multiply.f q a b) (matF a b m N 0 (List.replicate N (List.replicate m 0)), true) := by
  unfold impl_Multiply.f
  have := ha.1
  have := hb.1
  refine Ev.bind (isMatrix_ev a (by omega)) ?_
  simp only [h1, if_true]
  refine Ev.bind (isMatrix_ev b (by omega)) ?_
  simp only [h2, Bool.not_true]
  refine Ev.step (fun q => impl_Multiply.j0.eq_2 _ _ _ _) ?_
  have hf : ¬ (false = true) := by decide
  simp only [if_neg hf]
  refine Ev.bind (rows_ev a ha.small) (Ev.bind (rows_ev b hb.small) ?_)
  unfold reedsolomon_DoorTimes.f
  refine Ev.bind (Ev.bind (mul_ev' F) (Ev.now _)) ?_
  refine Ev.bind (rows_ev _ (small_sq (sq_matF a b N m N 0 _ (sq_zero N m) (by omega)) F.leN F.lem)) ?_
  simp only [Option.isNone_none, if_true]
  exact Ev.now _
end Go.Proofs.YtipbhclpeogcmaaDoor.MatM
