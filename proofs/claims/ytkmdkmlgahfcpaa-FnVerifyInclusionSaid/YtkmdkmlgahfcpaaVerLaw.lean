/- FnVerifyInclusion: the printed law answers true. -/
import Derived.Test.YtkmdkmlgahfcpaaLogP
namespace Go.Proofs.Ytkmdkmlgahfcpaa.Log
open Go Go.RowKit Go.Proofs.Ytkmdkmlgahfcpaa.M Go.Proofs.Ytkmdkmlgahfcpaa.Nodes Go.Proofs.YtkmdkmlgahfcpaaW.PrintMore Go.Proofs.YtkmdkmlgahfcpaaW.PrintWords Go.Proofs.YtkmdkmlgahfcpaaW.PrintLast
set_option linter.unusedVariables false
set_option linter.unusedSimpArgs false
section
variable (k0 k1 k2 k3 k4 k5 : Int)
theorem rootIn_ev (x : List Int) : ∀ (n i b : Nat) (P : List (List Int)), i < n → b + n < 18446744073709551616 → P.length = (pathP (b + i) b n).length → P.length ≤ 1000 → x.length + tot P ≤ 70368744177664 →
    Ev (fun k => spec_rootIn.f k k0 k1 k2 k3 k4 k5 ((b + i : Nat) : Int) (b : Int) ((b + n : Nat) : Int) x P) (rootP (hc k0 k2 k5) [] (b + i) b n x P) ∧ (rootP (hc k0 k2 k5) [] (b + i) b n x P).length ≤ x.length + tot P := by
  intro n
  induction n using Nat.strongRecOn with
  | _ n ih =>
    intro i b P hi hn hP hP1 hs
    have w1 := sub_u64 (b + n) b (by omega) hn
    rw [Nat.add_sub_cancel_left] at w1
    by_cases h1 : n ≤ 1
    · obtain rfl : n = 1 := by omega
      rw [rootP_one _ _ _ _ _ _ _ h1]
      refine ⟨Ev.step (fun k => spec_rootIn.f.eq_2 _ _ _ _ _ _ _ _ _ _ _ _) ?_, by omega⟩
      simp only [w1, if_pos (show ((1 : Nat) : Int) = 1 from rfl)]
      exact Ev.now _
    · have h2 : 2 ≤ n := by omega
      have hlt := sp_lt h2
      have hpos := sp_pos n
      have w2 := add_u64 b (sp n) (by omega)
      by_cases hlo : b + i < b + sp n
      · rw [pathP_lo h2 hlo, List.length_append, List.length_singleton] at hP
        obtain ⟨q, y, rfl, hq⟩ := snoc_of P _ hP
        rw [tot_append] at hs
        have ht : tot [y] = y.length + 9 := rfl
        obtain ⟨h3, h4⟩ := ih (sp n) hlt i b q (by omega) (by omega) hq (by rw [List.length_append] at hP1; omega) (by omega)
        rw [rootP_lo _ _ x q y h2 hlo]
        have hl := hc_len k0 k2 k5 (rootP (hc k0 k2 k5) [] (b + i) b (sp n) x q) y
        refine ⟨Ev.step (fun k => spec_rootIn.f.eq_2 _ _ _ _ _ _ _ _ _ _ _ _) ?_, by rw [tot_append]; omega⟩
        have hlen : (q ++ [y]).length = q.length + 1 := by simp
        have e1 : wrap64 (((q.length + 1 : Nat) : Int) - 1) = (q.length : Int) := by unfold wrap64; rw [hlen] at hP1; omega
        have e2 : (q ++ [y]).take q.length = q := List.take_left' rfl
        have e3 : rd_L1 (q ++ [y]) (q.length : Int) = y := by unfold rd_L1; rw [toNat_cast]; exact getD_len [] q y []
        simp only [w1, if_neg (show ¬ ((n : Nat) : Int) = 1 by omega)]
        refine Ev.bind (split_ev n h2 (by omega)) ?_
        simp only [hlen]
        simp only [w2, if_pos (show ((b + i : Nat) : Int) < ((b + sp n : Nat) : Int) by omega), e1, toNat_cast, e2, e3, if_pos (show 0 ≤ (q.length : Int) by omega), if_pos (show (q.length : Int) ≤ ((q.length + 1 : Nat) : Int) by omega), if_pos (show (q.length : Int) < ((q.length + 1 : Nat) : Int) by omega)]
        refine Ev.bind h3 ?_
        exact Ev.bind (shash_ev k0 k1 k2 k3 k4 k5 (rootP (hc k0 k2 k5) [] (b + i) b (sp n) x q) y (by omega)) (Ev.now _)
      · rw [pathP_hi h2 hlo, List.length_append, List.length_singleton] at hP
        obtain ⟨q, y, rfl, hq⟩ := snoc_of P _ hP
        rw [tot_append] at hs
        have ht : tot [y] = y.length + 9 := rfl
        have e4 : b + sp n + (i - sp n) = b + i := by omega
        have e5 : b + sp n + (n - sp n) = b + n := by omega
        obtain ⟨h3, h4⟩ := ih (n - sp n) (by omega) (i - sp n) (b + sp n) q (by omega) (by omega) (by rw [e4]; exact hq) (by rw [List.length_append] at hP1; omega) (by omega)
        rw [e4] at h3 h4
        rw [e5] at h3
        rw [rootP_hi _ _ x q y h2 hlo]
        have hl := hc_len k0 k2 k5 y (rootP (hc k0 k2 k5) [] (b + i) (b + sp n) (n - sp n) x q)
        refine ⟨Ev.step (fun k => spec_rootIn.f.eq_2 _ _ _ _ _ _ _ _ _ _ _ _) ?_, by rw [tot_append]; omega⟩
        have hlen : (q ++ [y]).length = q.length + 1 := by simp
        have e1 : wrap64 (((q.length + 1 : Nat) : Int) - 1) = (q.length : Int) := by unfold wrap64; rw [hlen] at hP1; omega
        have e2 : (q ++ [y]).take q.length = q := List.take_left' rfl
        have e3 : rd_L1 (q ++ [y]) (q.length : Int) = y := by unfold rd_L1; rw [toNat_cast]; exact getD_len [] q y []
        simp only [w1, if_neg (show ¬ ((n : Nat) : Int) = 1 by omega)]
        refine Ev.bind (split_ev n h2 (by omega)) ?_
        simp only [hlen]
        simp only [w2, if_neg (show ¬ ((b + i : Nat) : Int) < ((b + sp n : Nat) : Int) by omega), e1, toNat_cast, e2, e3, if_pos (show 0 ≤ (q.length : Int) by omega), if_pos (show (q.length : Int) ≤ ((q.length + 1 : Nat) : Int) by omega), if_pos (show (q.length : Int) < ((q.length + 1 : Nat) : Int) by omega)]
        refine Ev.bind h3 ?_
        exact Ev.bind (shash_ev k0 k1 k2 k3 k4 k5 y (rootP (hc k0 k2 k5) [] (b + i) (b + sp n) (n - sp n) x q) (by omega)) (Ev.now _)
theorem rootFromPath_ev (i n : Nat) (hi : i < n) (hn : n < 18446744073709551616) (x : List Int) (P : List (List Int)) (hP : P.length = inner i n + border i n) (hs : x.length + tot P ≤ 70368744177664) :
    Ev (fun k => spec_RootFromPath.f k k0 k1 k2 k3 k4 k5 (i : Int) (n : Int) x P) (rootP (hc k0 k2 k5) [] i 0 n x P) ∧ (rootP (hc k0 k2 k5) [] i 0 n x P).length ≤ x.length + tot P := by
  have h64 := border_le i n
  have h65 := inner_le i n hi hn
  have h := rootIn_ev k0 k1 k2 k3 k4 k5 x n i 0 P hi (by omega) (by rw [Nat.zero_add, pathP_len i n hi hn]; exact hP) (by omega) hs
  simp only [Nat.zero_add] at h
  unfold spec_RootFromPath.f
  exact ⟨Ev.bind h.1 (Ev.now _), h.2⟩
/-- What refuses an audit path. -/
def Bad (i n : Nat) (leaf : List Int) (P : List (List Int)) : Prop := n ≤ i ∨ (leaf.length : Int) ≠ k1 ∨ P.length ≠ inner i n + border i n
theorem rootFrom_bad (i n : Nat) (hi : i < 18446744073709551616) (hn : n < 18446744073709551616) (leaf : List Int) (P : List (List Int)) (h : Bad k1 i n leaf P) :
    Ev (fun k => proof_RootFromInclusionProof.f k k0 k1 k2 k3 k4 k5 (i : Int) (n : Int) leaf P) ([], some 0) := by
  unfold proof_RootFromInclusionProof.f errors_New.f
  by_cases h1 : (i : Int) ≥ (n : Int)
  · simp only [if_pos h1, Option.bind_some]
    exact Ev.now _
  · have hlt : i < n := by omega
    unfold impl_toy_Size.f
    simp only [if_neg h1, Option.bind_some]
    by_cases h2 : (leaf.length : Int) = k1
    · have h3 : P.length ≠ inner i n + border i n := by
        rcases h with h | h | h
        · omega
        · exact absurd h2 h
        · exact h
      have h64 := border_le i n
      have h65 := inner_le i n hlt hn
      have hd := decomp i n hlt hn
      generalize inner i n = A at *
      generalize border i n = B at *
      have e1 : wrap64 ((A : Int) + (B : Int)) = ((A + B : Nat) : Int) := by unfold wrap64; omega
      simp only [if_pos h2, hd]
      refine Ev.bind (g := fun _ => some ((A : Int), (B : Int))) (Ev.now _) ?_
      dsimp only
      rw [e1]
      simp only [if_neg (show ¬ (P.length : Int) = ((A + B : Nat) : Int) by omega)]
      exact Ev.now _
    · simp only [if_neg h2]
      exact Ev.now _
def same (a b : List Int) : Bool := (strOfNums a).toList == (strOfNums b).toList
theorem verIncl_bad (i n : Nat) (hi : i < 18446744073709551616) (hn : n < 18446744073709551616) (leaf : List Int) (P : List (List Int)) (root : List Int) (hfit : Fit P) (hl : leaf.length ≤ 2147483647) (hr : root.length ≤ 2147483647) (h : Bad k1 i n leaf P) :
    Ev (fun k => impl_VerifyInclusion.f k k0 k1 k2 k3 k4 k5 (i : Int) (n : Int) leaf P root) (2, []) := by
  unfold impl_VerifyInclusion.f
  have e1 : ([] : List Int).length + leaf.length < 140737488355328 := by rw [List.length_nil]; omega
  have e2 : ([] : List Int).length + root.length < 140737488355328 := by rw [List.length_nil]; omega
  simp only [Option.bind_some, if_pos e1, if_pos e2, List.nil_append]
  refine Ev.bind (texts_ev P hfit.1 (fun r hr => by have := hfit.2 r hr; omega)) ?_
  refine Ev.bind (a := (2, [], [], [])) ?_ ?_
  · unfold proof_VerifyInclusion.f
    refine Ev.bind (rootFrom_bad k0 k1 k2 k3 k4 k5 i n hi hn leaf P h) ?_
    have hf : ¬ (false = true) := by decide
    simp only [Option.isNone_some, if_neg hf]
    exact Ev.now _
  · dsimp only
    refine Ev.bind (a := (2, [])) ?_ ?_
    · unfold impl_verdict.f
      exact Ev.now _
    · exact Ev.now _
theorem verIncl_good (i n : Nat) (hi : i < n) (hn : n < 18446744073709551616) (leaf : List Int) (P : List (List Int)) (root : List Int) (hfit : Fit P) (hl : leaf.length ≤ 2147483647) (hr : root.length ≤ 2147483647) (hk : (leaf.length : Int) = k1) (hP : P.length = inner i n + border i n) (hs : leaf.length + tot P ≤ 70368744177664) :
    Ev (fun k => impl_VerifyInclusion.f k k0 k1 k2 k3 k4 k5 (i : Int) (n : Int) leaf P root) (if same (rootP (hc k0 k2 k5) [] i 0 n leaf P) root = true then (0, []) else (1, rootP (hc k0 k2 k5) [] i 0 n leaf P)) := by
  unfold impl_VerifyInclusion.f
  have e1 : ([] : List Int).length + leaf.length < 140737488355328 := by rw [List.length_nil]; omega
  have e2 : ([] : List Int).length + root.length < 140737488355328 := by rw [List.length_nil]; omega
  have hrl := (rootFromPath_ev k0 k1 k2 k3 k4 k5 i n hi hn leaf P hP hs).2
  have hro := rootFrom_ev k0 k1 k2 k3 k4 k5 i n hi hn leaf P hk hP hs
  generalize rootP (hc k0 k2 k5) [] i 0 n leaf P = R at *
  simp only [Option.bind_some, if_pos e1, if_pos e2, List.nil_append]
  refine Ev.bind (texts_ev P hfit.1 (fun r hr => by have := hfit.2 r hr; omega)) ?_
  by_cases hsame : same R root = true
  · rw [if_pos hsame]
    refine Ev.bind (a := (0, [], [], [])) ?_ ?_
    · unfold proof_VerifyInclusion.f
      refine Ev.bind hro ?_
      unfold bytes_Equal.f
      unfold same at hsame
      simp only [Option.isNone_none, if_true, Option.bind_some, hsame]
      exact Ev.now _
    · dsimp only
      refine Ev.bind (a := (0, [])) ?_ ?_
      · unfold impl_verdict.f
        exact Ev.now _
      · exact Ev.now _
  · rw [if_neg hsame]
    have hf : ¬ (false = true) := by decide
    refine Ev.bind (a := (1, [], root, R)) ?_ ?_
    · unfold proof_VerifyInclusion.f
      refine Ev.bind hro ?_
      unfold bytes_Equal.f
      unfold same at hsame
      have hs2 := Bool.eq_false_iff.mpr hsame
      simp only [Option.isNone_none, if_true, Option.bind_some, hs2, if_neg hf]
      exact Ev.now _
    · dsimp only
      refine Ev.bind (a := (1, R)) ?_ ?_
      · unfold impl_verdict.f
        have hne : ¬ ((1 : Int) = 0) := by decide
        simp only [if_neg hne, if_true, if_pos (show R.length < 140737488355328 by omega)]
        exact Ev.now _
      · exact Ev.now _
theorem sver_true (a1 a2 : Int) (leaf : List Int) (P : List (List Int)) (root : List Int) : Ev (fun k => spec_VerifiedInclusion.j0 k a1 a2 leaf P root true k0 k1 k2 k3 k4 k5) (2, []) := by
  refine Ev.step (fun k => spec_VerifiedInclusion.j0.eq_2 _ _ _ _ _ _ _ _ _ _ _ _ _) ?_
  simp only [if_true]
  exact Ev.now _
theorem sver_bad (i n : Nat) (hi : i < 18446744073709551616) (hn : n < 18446744073709551616) (leaf : List Int) (P : List (List Int)) (root : List Int) (h : Bad k1 i n leaf P) :
    Ev (fun k => spec_VerifiedInclusion.f k k0 k1 k2 k3 k4 k5 (i : Int) (n : Int) leaf P root) (2, []) := by
  unfold spec_VerifiedInclusion.f
  by_cases h1 : (i : Int) ≥ (n : Int)
  · simp only [if_pos h1]
    exact sver_true k0 k1 k2 k3 k4 k5 _ _ _ _ _
  · simp only [if_neg h1]
    by_cases h2 : (leaf.length : Int) = k1
    · simp only [if_pos h2]
      have h3 : P.length ≠ inner i n + border i n := by
        rcases h with h | h | h
        · omega
        · exact absurd h2 h
        · exact h
      refine Ev.bind (pathParts_ev i n (by omega) hn) ?_
      rw [List.length_map, pathP_len i n (by omega) hn]
      have e1 : ((P.length : Int) != ((inner i n + border i n : Nat) : Int)) = true := by rw [bne_iff_ne]; omega
      rw [e1]
      exact sver_true k0 k1 k2 k3 k4 k5 _ _ _ _ _
    · simp only [if_neg h2]
      exact sver_true k0 k1 k2 k3 k4 k5 _ _ _ _ _
theorem sver_good (i n : Nat) (hi : i < n) (hn : n < 18446744073709551616) (leaf : List Int) (P : List (List Int)) (root : List Int) (hk : (leaf.length : Int) = k1) (hP : P.length = inner i n + border i n) (hs : leaf.length + tot P ≤ 70368744177664) :
    Ev (fun k => spec_VerifiedInclusion.f k k0 k1 k2 k3 k4 k5 (i : Int) (n : Int) leaf P root) (if same (rootP (hc k0 k2 k5) [] i 0 n leaf P) root = true then (0, []) else (1, rootP (hc k0 k2 k5) [] i 0 n leaf P)) := by
  unfold spec_VerifiedInclusion.f
  simp only [if_neg (show ¬ (i : Int) ≥ (n : Int) by omega), if_pos hk]
  refine Ev.bind (pathParts_ev i n hi hn) ?_
  rw [List.length_map, pathP_len i n hi hn]
  have e1 : ((P.length : Int) != ((inner i n + border i n : Nat) : Int)) = false := by rw [hP]; simp
  have hr := rootFromPath_ev k0 k1 k2 k3 k4 k5 i n hi hn leaf P hP hs
  generalize rootP (hc k0 k2 k5) [] i 0 n leaf P = R at *
  rw [e1]
  refine Ev.step (fun k => spec_VerifiedInclusion.j0.eq_2 _ _ _ _ _ _ _ _ _ _ _ _ _) ?_
  have hf : ¬ (false = true) := by decide
  simp only [if_neg hf]
  refine Ev.bind hr.1 ?_
  unfold spec_SameText.f
  simp only [Option.bind_some]
  change Ev (fun n => if same R root = true then some (0, ([] : List Int)) else some (1, R)) _
  by_cases hsame : same R root = true
  · simp only [if_pos hsame]
    exact Ev.now _
  · simp only [if_neg hsame]
    exact Ev.now _
theorem vl_j1 (a1 a2 : Int) (leaf : List Int) (P : List (List Int)) (root : List Int) : Ev (fun k => laws_FnVerifyInclusion.j1 k a1 a2 leaf P root true k0 k1 k2 k3 k4 k5) true := by
  refine Ev.step (fun k => laws_FnVerifyInclusion.j1.eq_2 _ _ _ _ _ _ _ _ _ _ _ _ _) ?_
  simp only [if_true]
  exact Ev.now _
theorem vl_j0 (a1 a2 : Int) (leaf : List Int) (P : List (List Int)) (root : List Int) : Ev (fun k => laws_FnVerifyInclusion.j0 k a1 a2 leaf P root true k0 k1 k2 k3 k4 k5) true := by
  refine Ev.step (fun k => laws_FnVerifyInclusion.j0.eq_2 _ _ _ _ _ _ _ _ _ _ _ _ _) ?_
  simp only [if_true]
  exact Ev.now _
theorem verify_ev (a1 a2 : Int) (w1 : (Lit.int .u64 a1).wf = true) (w2 : (Lit.int .u64 a2).wf = true) (leaf : List Int) (P : List (List Int)) (root : List Int) : Ev (fun k => laws_FnVerifyInclusion.f k k0 k1 k2 k3 k4 k5 a1 a2 leaf P root) true := by
  obtain ⟨i, rfl, hi⟩ := nat_u64 w1
  obtain ⟨n, rfl, hn⟩ := nat_u64 w2
  have hf : ¬ (false = true) := by decide
  unfold laws_FnVerifyInclusion.f
  by_cases hleaf : (leaf.length : Int) > 2147483647
  · simp only [if_pos hleaf]
    exact vl_j0 k0 k1 k2 k3 k4 k5 _ _ _ _ _
  · simp only [if_neg hleaf]
    obtain ⟨r, h1, h2⟩ := fits_ev P
    refine Ev.bind h1 ?_
    cases r with
    | false => simp only [if_neg hf]; exact vl_j0 k0 k1 k2 k3 k4 k5 _ _ _ _ _
    | true =>
    have hfit := h2 rfl
    simp only [if_true]
    by_cases hroot : (root.length : Int) > 2147483647
    · simp only [decide_eq_true hroot]
      exact vl_j0 k0 k1 k2 k3 k4 k5 _ _ _ _ _
    · simp only [decide_eq_false hroot]
      refine Ev.step (fun k => laws_FnVerifyInclusion.j0.eq_2 _ _ _ _ _ _ _ _ _ _ _ _ _) ?_
      simp only [if_neg hf]
      obtain ⟨r, h3, h4⟩ := small_ev P hfit.1
      refine Ev.bind h3 ?_
      cases r with
      | false => simp only [if_neg hf]; exact vl_j1 k0 k1 k2 k3 k4 k5 _ _ _ _ _
      | true =>
      have hsm := h4 rfl
      simp only [if_true]
      by_cases hl5 : (leaf.length : Int) > 5000
      · simp only [decide_eq_true hl5]
        exact vl_j1 k0 k1 k2 k3 k4 k5 _ _ _ _ _
      · simp only [decide_eq_false hl5]
        refine Ev.step (fun k => laws_FnVerifyInclusion.j1.eq_2 _ _ _ _ _ _ _ _ _ _ _ _ _) ?_
        simp only [if_neg hf]
        have ht := tot_le 5000 P hsm.2
        have ht2 : P.length * (5000 + 9) ≤ 300 * (5000 + 9) := Nat.mul_le_mul_right _ hsm.1
        by_cases hb : Bad k1 i n leaf P
        · refine Ev.bind (verIncl_bad k0 k1 k2 k3 k4 k5 i n hi hn leaf P root hfit (by omega) (by omega) hb) ?_
          dsimp only
          refine Ev.bind (sver_bad k0 k1 k2 k3 k4 k5 i n hi hn leaf P root hb) ?_
          exact Ev.now _
        · have hlt : i < n := Nat.lt_of_not_le fun h => hb (.inl h)
          have hk : (leaf.length : Int) = k1 := Classical.byContradiction fun h => hb (.inr (.inl h))
          have hP : P.length = inner i n + border i n := Classical.byContradiction fun h => hb (.inr (.inr h))
          have hg1 := verIncl_good k0 k1 k2 k3 k4 k5 i n hlt hn leaf P root hfit (by omega) (by omega) hk hP (by omega)
          have hg2 := sver_good k0 k1 k2 k3 k4 k5 i n hlt hn leaf P root hk hP (by omega)
          generalize rootP (hc k0 k2 k5) [] i 0 n leaf P = R at *
          by_cases hsame : same R root = true
          · rw [if_pos hsame] at hg1 hg2
            refine Ev.bind hg1 ?_
            dsimp only
            refine Ev.bind hg2 ?_
            exact Ev.now _
          · rw [if_neg hsame] at hg1 hg2
            refine Ev.bind hg1 ?_
            dsimp only
            refine Ev.bind hg2 ?_
            dsimp only
            unfold spec_SameText.f
            simp only [if_true, Option.bind_some, beq_self_eq_true]
            exact Ev.now _
end
end Go.Proofs.Ytkmdkmlgahfcpaa.Log
