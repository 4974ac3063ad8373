/- FnRangeEqual: the printed law is true. -/
import Derived.Test.YtkmdkmlgahfcpaaSizeE
import Derived.OpenShut
namespace Go.Proofs.Ytkmdkmlgahfcpaa.M
open Go Go.RowKit Go.Proofs.Ytkmdkmlgahfcpaa.Nodes Go.Proofs.Ytkmdkmlgahfcpaa.Ranges Go.Proofs.YtkmdkmlgahfcpaaW.PrintWords Go.Proofs.YtkmdkmlgahfcpaaW.PrintLast Go.Proofs.YtkmdkmlgahfcpaaW.PrintMore
set_option linter.unusedVariables false
set_option linter.unusedSimpArgs false
theorem wrap_nat (n : Nat) (h : n < 9223372036854775807) : wrap64 ((n : Int) + 1) = ((n + 1 : Nat) : Int) := by unfold wrap64; omega
theorem toNat_cast (n : Nat) : ((n : Nat) : Int).toNat = n := Int.toNat_natCast n
theorem getD_len {α : Type} (z : α) (pre : List α) (y : α) (rest : List α) : (pre ++ y :: rest).getD pre.length z = y := by
  rw [List.getD_eq_getElem?_getD, List.getElem?_append_right (Nat.le_refl _), Nat.sub_self]
  rfl
theorem u64_nat (a : Nat) (h : a < 18446744073709551616) : IntKind.u64.wrap (a : Int) = (a : Int) := IntWalk.u64_in _ ⟨by omega, by omega⟩
def Fit (L : List (List Int)) : Prop := L.length ≤ 2147483647 ∧ ∀ r ∈ L, r.length ≤ 2147483647
theorem fits_loop (L : List (List Int)) (hL : L.length ≤ 2147483647) : ∀ (rest pre : List (List Int)), L = pre ++ rest →
    ∃ r : Bool, Ev (fun q => laws_zzFits2.l0 q L (L.length : Int) (pre.length : Int)) r ∧ (r = true → ∀ x ∈ rest, x.length ≤ 2147483647)
  | [], pre, h => by
    rw [List.append_nil] at h
    subst h
    exact ⟨true, Ev.step (fun q => laws_zzFits2.l0.eq_2 _ _ _ _) (by simp only [if_neg (show ¬ (L.length : Int) < (L.length : Int) by omega)]; exact Ev.now _), fun _ x hx => by cases hx⟩
  | y :: rest, pre, h => by
    have hlen : L.length = pre.length + (rest.length + 1) := by rw [h, List.length_append, List.length_cons]
    have c1 : (pre.length : Int) < (L.length : Int) := by omega
    have c2 : 0 ≤ (pre.length : Int) := by omega
    have hy : L.getD pre.length [] = y := by rw [h]; exact getD_len [] pre y rest
    by_cases c3 : (y.length : Int) > 2147483647
    · refine ⟨false, Ev.step (fun q => laws_zzFits2.l0.eq_2 _ _ _ _) ?_, fun h => by cases h⟩
      unfold rd_L1
      simp only [toNat_cast, if_pos c1, if_pos c2, hy, if_pos c3]
      exact Ev.now _
    · obtain ⟨r, hr, h3⟩ := fits_loop L hL rest (pre ++ [y]) (by rw [h, List.append_assoc]; rfl)
      refine ⟨r, Ev.step (fun q => laws_zzFits2.l0.eq_2 _ _ _ _) ?_, fun hrt x hx => ?_⟩
      · unfold rd_L1
        simp only [toNat_cast, if_pos c1, if_pos c2, hy, if_neg c3, wrap_nat pre.length (by omega)]
        rw [List.length_append, List.length_singleton] at hr
        exact hr
      · rcases List.mem_cons.1 hx with rfl | hx
        · omega
        · exact h3 hrt x hx
theorem fits_ev (L : List (List Int)) : ∃ r : Bool, Ev (fun q => laws_zzFits2.f q L) r ∧ (r = true → Fit L) := by
  unfold laws_zzFits2.f
  by_cases h : (L.length : Int) > 2147483647
  · exact ⟨false, by simp only [if_pos h]; exact Ev.now _, fun h => by cases h⟩
  · simp only [if_neg h]
    obtain ⟨r, h1, h2⟩ := fits_loop L (by omega) L [] rfl
    exact ⟨r, h1, fun hr => ⟨by omega, h2 hr⟩⟩
theorem texts_loop (L : List (List Int)) (hL : L.length ≤ 2147483647) : ∀ (rest pre : List (List Int)), L = pre ++ rest → (∀ r ∈ rest, r.length ≤ 70368744177664) →
    Ev (fun k => impl_texts.l0 k pre L (L.length : Int) (pre.length : Int)) L
  | [], pre, h, hr => by
    refine Ev.step (fun k => impl_texts.l0.eq_2 _ _ _ _ _) ?_
    rw [List.append_nil] at h
    subst h
    simp only [if_neg (show ¬ (L.length : Int) < (L.length : Int) by omega)]
    exact Ev.now _
  | y :: rest, pre, h, hr => by
    refine Ev.step (fun k => impl_texts.l0.eq_2 _ _ _ _ _) ?_
    have hlen : L.length = pre.length + (rest.length + 1) := by rw [h, List.length_append, List.length_cons]
    have hy : L.getD pre.length [] = y := by rw [h]; exact getD_len [] pre y rest
    have hyl := hr y (List.mem_cons_self ..)
    have c3 : ([] : List Int).length + y.length < 140737488355328 := by rw [List.length_nil]; omega
    unfold rd_L1
    simp only [Option.bind_some, toNat_cast, if_pos (show (pre.length : Int) < (L.length : Int) by omega), if_pos (show 0 ≤ (pre.length : Int) by omega), hy, if_pos c3, if_pos (show pre.length < 5864062014805 by omega), wrap_nat pre.length (by omega), List.nil_append]
    have := texts_loop L hL rest (pre ++ [y]) (by rw [h, List.append_assoc]; rfl) (fun r h => hr r (List.mem_cons_of_mem _ h))
    rw [List.length_append, List.length_singleton] at this
    exact this
theorem texts_ev (L : List (List Int)) (hL : L.length ≤ 2147483647) (h : ∀ r ∈ L, r.length ≤ 70368744177664) : Ev (fun k => impl_texts.f k L) L := texts_loop L hL L [] rfl h
theorem eq_loop (xs ys : List (List Int)) (hlen : xs.length = ys.length) (hb : xs.length ≤ 2147483647) : ∀ (d i : Nat), i + d = xs.length →
    ∃ r, Ev (fun k => rg_eqL k xs ys (i : Int)) r ∧ Ev (fun k => spec_Same.l0 k xs ys (xs.length : Int) (i : Int)) r ∧ (xs = ys → r = true)
  | 0, i, h => by
    refine ⟨true, Ev.step (fun k => rg_eqL.eq_2 _ _ _ _) ?_, Ev.step (fun k => spec_Same.l0.eq_2 _ _ _ _ _) ?_, fun _ => rfl⟩
    · simp only [if_neg (show ¬ (i : Int) < (xs.length : Int) by omega)]
      exact Ev.now _
    · simp only [if_neg (show ¬ (i : Int) < (xs.length : Int) by omega)]
      exact Ev.now _
  | d + 1, i, h => by
    obtain ⟨r, h1, h2, h3⟩ := eq_loop xs ys hlen hb d (i + 1) (by omega)
    have e1 := M.wrap_nat i (by omega)
    by_cases c : (strOfNums (rd_L1 xs (i : Int))).toList = (strOfNums (rd_L1 ys (i : Int))).toList
    · refine ⟨r, Ev.step (fun k => rg_eqL.eq_2 _ _ _ _) ?_, Ev.step (fun k => spec_Same.l0.eq_2 _ _ _ _ _) ?_, h3⟩
      · unfold bytes_Equal.f
        simp only [beq_iff_eq.mpr c, Option.bind_some, if_true, if_pos (show (i : Int) < (xs.length : Int) by omega), if_pos (show (0 : Int) ≤ (i : Int) by omega), if_pos (show (i : Int) < (ys.length : Int) by omega), e1]
        exact h1
      · simp only [if_pos c, if_pos (show (i : Int) < (xs.length : Int) by omega), if_pos (show (0 : Int) ≤ (i : Int) by omega), if_pos (show (i : Int) < (ys.length : Int) by omega), e1]
        exact h2
    · refine ⟨false, Ev.step (fun k => rg_eqL.eq_2 _ _ _ _) ?_, Ev.step (fun k => spec_Same.l0.eq_2 _ _ _ _ _) ?_, fun e => absurd (by rw [e]) c⟩
      · unfold bytes_Equal.f
        simp only [beq_eq_false_iff_ne.mpr c, Option.bind_some, Bool.false_eq_true, if_false, if_pos (show (i : Int) < (xs.length : Int) by omega), if_pos (show (0 : Int) ≤ (i : Int) by omega), if_pos (show (i : Int) < (ys.length : Int) by omega)]
        exact Ev.now _
      · simp only [if_neg c, if_pos (show (i : Int) < (xs.length : Int) by omega), if_pos (show (0 : Int) ≤ (i : Int) by omega), if_pos (show (i : Int) < (ys.length : Int) by omega)]
        exact Ev.now _
theorem eq_both (b1 e1 b2 e2 : Int) (xs ys : List (List Int)) (hb : xs.length ≤ 2147483647) : ∃ r, Ev (fun k => rg_eq k b1 e1 xs b2 e2 ys) r ∧ Ev (fun k => spec_SameRange.f k b1 e1 xs b2 e2 ys) r ∧ (b1 = b2 → e1 = e2 → xs = ys → r = true) := by
  unfold rg_eq spec_SameRange.f spec_Same.f
  by_cases h1 : b1 = b2
  case neg => exact ⟨false, by simp only [if_neg h1]; exact Ev.now _, by simp only [if_neg h1]; exact Ev.now _, fun h => absurd h h1⟩
  by_cases h2 : e1 = e2
  case neg => exact ⟨false, by simp only [if_pos h1, if_neg h2]; exact Ev.now _, by simp only [if_pos h1, if_neg h2]; exact Ev.now _, fun _ h => absurd h h2⟩
  by_cases h3 : (xs.length : Int) = (ys.length : Int)
  case neg => exact ⟨false, by simp only [if_pos h1, if_pos h2, if_neg h3]; exact Ev.now _, by simp only [if_pos h1, if_pos h2, if_neg h3, Option.bind_some]; exact Ev.now _, fun _ _ h => absurd (by rw [h]) h3⟩
  obtain ⟨r, g1, g2, g3⟩ := eq_loop xs ys (by omega) hb xs.length 0 (by omega)
  refine ⟨r, ?_, ?_, fun _ _ h => g3 h⟩
  · simp only [if_pos h1, if_pos h2, if_pos h3]
    exact g1
  · simp only [if_pos h1, if_pos h2, if_pos h3]
    exact Ev.bind g2 (Ev.now _)
theorem fits7_ev (b e : Int) (l : List (List Int)) : ∃ r : Bool, Ev (fun k => laws_zzFits7.f k b e l) r ∧ (r = true → Fit l) := by
  obtain ⟨r, h1, h2⟩ := fits_ev l
  refine ⟨r, ?_, h2⟩
  unfold laws_zzFits7.f
  refine Ev.bind h1 ?_
  cases r with
  | true => exact Ev.now _
  | false => exact Ev.now _
theorem proper_ev (b e : Nat) (he : e < 18446744073709551616) (l : List (List Int)) : ∃ r : Bool, Ev (fun k => spec_ProperRange.f k (b : Int) (e : Int) l) r ∧ (r = true → newOk (b : Int) (e : Int) l = some true) := by
  by_cases h : b ≤ e
  · obtain ⟨L, hG, hL, hs⟩ := size_G b e h he
    refine ⟨(l.length : Int) == ((L.map im).length : Int), ?_, fun hr => ?_⟩
    · unfold spec_ProperRange.f
      simp only [if_pos (show (b : Int) ≤ (e : Int) by omega)]
      exact Ev.bind (specNodes_ev hG he (by omega)) (Ev.now _)
    · have := beq_iff_eq.mp hr
      rw [List.length_map] at this
      unfold newOk
      rw [if_neg (by omega), hs, Option.bind_some, this]
      simp
  · refine ⟨false, ?_, fun h => by simp at h⟩
    unfold spec_ProperRange.f
    simp only [if_neg (show ¬ (b : Int) ≤ (e : Int) by omega)]
    exact Ev.now _
theorem equalRanges_ev (b1 e1 b2 e2 : Int) (l m : List (List Int)) (hl : Fit l) (hm : Fit m) (h1 : newOk b1 e1 l = some true) (h2 : newOk b2 e2 m = some true) {r : Bool} (h : Ev (fun k => rg_eq k b1 e1 l b2 e2 m) r) : Ev (fun k => impl_EqualRanges.f k b1 e1 l b2 e2 m) r := by
  unfold impl_EqualRanges.f
  refine Ev.bind (texts_ev l hl.1 (fun r hr => by have := hl.2 r hr; omega)) ?_
  simp only [h1, Option.bind_some, if_true]
  refine Ev.bind (texts_ev m hm.1 (fun r hr => by have := hm.2 r hr; omega)) ?_
  simp only [h2, Option.bind_some, if_true]
  exact h
theorem rangeEqual_ev (b1 e1 : Int) (l : List (List Int)) (b2 e2 : Int) (m : List (List Int)) (w1 : (Lit.int .u64 b1).wf = true) (w2 : (Lit.int .u64 e1).wf = true) (w3 : (Lit.int .u64 b2).wf = true) (w4 : (Lit.int .u64 e2).wf = true) : Ev (fun k => laws_FnRangeEqual.f k b1 e1 l b2 e2 m) true := by
  have hu : ∀ {a : Int}, (Lit.int .u64 a).wf = true → ∃ n : Nat, a = (n : Int) ∧ n < 18446744073709551616 := fun h => by
    have := bounds_u64 h
    exact ⟨_, (Int.toNat_of_nonneg (by omega)).symm, by omega⟩
  obtain ⟨b1, rfl, _⟩ := hu w1
  obtain ⟨e1, rfl, he1⟩ := hu w2
  obtain ⟨b2, rfl, _⟩ := hu w3
  obtain ⟨e2, rfl, he2⟩ := hu w4
  have hj0 : Ev (fun k => laws_FnRangeEqual.j0 k true b1 e1 l b2 e2 m) true := by
    refine Ev.step (fun k => laws_FnRangeEqual.j0.eq_2 _ _ _ _ _ _ _ _) ?_
    simp only [if_true]
    exact Ev.now _
  have hj1 : Ev (fun k => laws_FnRangeEqual.j1 k true b1 e1 l b2 e2 m) true := by
    refine Ev.step (fun k => laws_FnRangeEqual.j1.eq_2 _ _ _ _ _ _ _ _) ?_
    simp only [if_true]
    exact Ev.now _
  obtain ⟨r1, g1, f1⟩ := fits7_ev (b1 : Int) (e1 : Int) l
  unfold laws_FnRangeEqual.f
  refine Ev.bind g1 ?_
  cases r1 with
  | false => simp only [Bool.false_eq_true, if_false]; exact hj0
  | true =>
  simp only [if_true]
  obtain ⟨r2, g2, f2⟩ := fits7_ev (b2 : Int) (e2 : Int) m
  refine Ev.bind g2 ?_
  cases r2 with
  | false => exact hj0
  | true =>
  refine Ev.step (fun k => laws_FnRangeEqual.j0.eq_2 _ _ _ _ _ _ _ _) ?_
  simp only [Bool.not_true, Bool.false_eq_true, if_false]
  obtain ⟨r3, g3, f3⟩ := proper_ev b1 e1 he1 l
  refine Ev.bind g3 ?_
  cases r3 with
  | false => simp only [Bool.false_eq_true, if_false]; exact hj1
  | true =>
  simp only [if_true]
  obtain ⟨r4, g4, f4⟩ := proper_ev b2 e2 he2 m
  refine Ev.bind g4 ?_
  cases r4 with
  | false => exact hj1
  | true =>
  refine Ev.step (fun k => laws_FnRangeEqual.j1.eq_2 _ _ _ _ _ _ _ _) ?_
  simp only [Bool.not_true, Bool.false_eq_true, if_false]
  obtain ⟨r, h1, h2, _⟩ := eq_both (b1 : Int) (e1 : Int) (b2 : Int) (e2 : Int) l m (f1 rfl).1
  obtain ⟨q, h3, _, h4⟩ := eq_both (b1 : Int) (e1 : Int) (b1 : Int) (e1 : Int) l l (f1 rfl).1
  have hq := h4 rfl rfl rfl
  subst hq
  refine Ev.bind (equalRanges_ev _ _ _ _ l m (f1 rfl) (f2 rfl) (f3 rfl) (f4 rfl) h1) ?_
  refine Ev.bind h2 ?_
  simp only [beq_self_eq_true, if_true]
  exact Ev.bind (equalRanges_ev _ _ _ _ l l (f1 rfl) (f1 rfl) (f3 rfl) (f3 rfl) h3) (Ev.now _)
end Go.Proofs.Ytkmdkmlgahfcpaa.M
