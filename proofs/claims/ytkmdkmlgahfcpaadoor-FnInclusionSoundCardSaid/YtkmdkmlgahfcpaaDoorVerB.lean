/- What VerifyInclusion answers (impl's form), in plain words. -/
import Derived.Test.YtkmdkmlgahfcpaaDoorTellB
import Derived.Test.YtkmdkmlgahfcpaaDoorLogR
namespace Go.Proofs.YtkmdkmlgahfcpaaDoor.M
open Go Go.RowKit Go.Proofs.YtkmdkmlgahfcpaaDoor.Log Go.Proofs.YtkmdkmlgahfcpaaDoor.Nodes Go.Proofs.YtkmdkmlgahfcpaaDoorW.PrintMore Go.Proofs.YtkmdkmlgahfcpaaDoorW.PrintWords Go.Proofs.YtkmdkmlgahfcpaaDoorW.PrintLast
set_option linter.unusedVariables false
set_option linter.unusedSimpArgs false
section
variable (k0 k1 k2 k3 k4 k5 : Int)
/-- What refuses an audit path. -/
def Bad (i n : Nat) (leaf : List Int) (P : List (List Int)) : Prop := n ≤ i ∨ (leaf.length : Int) ≠ k1 ∨ P.length ≠ inner i n + border i n
theorem rootFrom_bad (i n : Nat) (hi : i < 18446744073709551616) (hn : n < 18446744073709551616) (leaf : List Int) (P : List (List Int)) (h : Bad k1 i n leaf P) :
    Ev (fun k => proof_RootFromInclusionProof.f k k0 k1 k2 k3 k4 k5 (i : Int) (n : Int) leaf P) ([], some 0) := by
  unfold proof_RootFromInclusionProof.f errors_New.f
  by_cases h1 : (i : Int) ≥ (n : Int)
  · simp only [if_pos h1, Option.bind_some]
    exact Ev.now _
  · have hlt : i < n := by omega
    unfold impl_toy_Size.f
    simp only [if_neg h1, Option.bind_some]
    by_cases h2 : (leaf.length : Int) = k1
    · have h3 : P.length ≠ inner i n + border i n := by
        rcases h with h | h | h
        · omega
        · exact absurd h2 h
        · exact h
      have h64 := border_le i n
      have h65 := inner_le i n hlt hn
      have hd := decomp i n hlt hn
      generalize inner i n = A at *
      generalize border i n = B at *
      have e1 : wrap64 ((A : Int) + (B : Int)) = ((A + B : Nat) : Int) := by unfold wrap64; omega
      simp only [if_pos h2, hd]
      refine Ev.bind (g := fun _ => some ((A : Int), (B : Int))) (Ev.now _) ?_
      dsimp only
      rw [e1]
      simp only [if_neg (show ¬ (P.length : Int) = ((A + B : Nat) : Int) by omega)]
      exact Ev.now _
    · simp only [if_neg h2]
      exact Ev.now _
def same (a b : List Int) : Bool := (strOfNums a).toList == (strOfNums b).toList
theorem verIncl_bad (i n : Nat) (hi : i < 18446744073709551616) (hn : n < 18446744073709551616) (leaf : List Int) (P : List (List Int)) (root : List Int) (hfit : Fit P) (hl : leaf.length ≤ 2147483647) (hr : root.length ≤ 2147483647) (h : Bad k1 i n leaf P) :
    Ev (fun k => impl_VerifyInclusion.f k k0 k1 k2 k3 k4 k5 (i : Int) (n : Int) leaf P root) (2, []) := by
  unfold impl_VerifyInclusion.f
  have e1 : ([] : List Int).length + leaf.length < 140737488355328 := by rw [List.length_nil]; omega
  have e2 : ([] : List Int).length + root.length < 140737488355328 := by rw [List.length_nil]; omega
  simp only [Option.bind_some, if_pos e1, if_pos e2, List.nil_append]
  refine Ev.bind (texts_ev P hfit.1 (fun r hr => by have := hfit.2 r hr; omega)) ?_
  refine Ev.bind (a := (2, [], [], [])) ?_ ?_
  · unfold proof_VerifyInclusion.f
    refine Ev.bind (rootFrom_bad k0 k1 k2 k3 k4 k5 i n hi hn leaf P h) ?_
    have hf : ¬ (false = true) := by decide
    simp only [Option.isNone_some, if_neg hf]
    exact Ev.now _
  · dsimp only
    refine Ev.bind (a := (2, [])) ?_ ?_
    · unfold impl_verdict.f
      exact Ev.now _
    · exact Ev.now _
theorem verIncl_good (i n : Nat) (hi : i < n) (hn : n < 18446744073709551616) (leaf : List Int) (P : List (List Int)) (root : List Int) (hfit : Fit P) (hl : leaf.length ≤ 2147483647) (hr : root.length ≤ 2147483647) (hk : (leaf.length : Int) = k1) (hP : P.length = inner i n + border i n) (hs : leaf.length + tot P ≤ 70368744177664) :
    Ev (fun k => impl_VerifyInclusion.f k k0 k1 k2 k3 k4 k5 (i : Int) (n : Int) leaf P root) (if same (rootP (hc k0 k2 k5) [] i 0 n leaf P) root = true then (0, []) else (1, rootP (hc k0 k2 k5) [] i 0 n leaf P)) := by
  unfold impl_VerifyInclusion.f
  have e1 : ([] : List Int).length + leaf.length < 140737488355328 := by rw [List.length_nil]; omega
  have e2 : ([] : List Int).length + root.length < 140737488355328 := by rw [List.length_nil]; omega
  have hrl := rootP_len (k0 := k0) (k2 := k2) (k5 := k5) i leaf n 0 P (by rw [pathP_len i n hi hn]; exact hP)
  have hro := rootFrom_ev k0 k1 k2 k3 k4 k5 i n hi hn leaf P hk hP hs
  generalize rootP (hc k0 k2 k5) [] i 0 n leaf P = R at *
  simp only [Option.bind_some, if_pos e1, if_pos e2, List.nil_append]
  refine Ev.bind (texts_ev P hfit.1 (fun r hr => by have := hfit.2 r hr; omega)) ?_
  by_cases hsame : same R root = true
  · rw [if_pos hsame]
    refine Ev.bind (a := (0, [], [], [])) ?_ ?_
    · unfold proof_VerifyInclusion.f
      refine Ev.bind hro ?_
      unfold bytes_Equal.f
      unfold same at hsame
      simp only [Option.isNone_none, if_true, Option.bind_some, hsame]
      exact Ev.now _
    · dsimp only
      refine Ev.bind (a := (0, [])) ?_ ?_
      · unfold impl_verdict.f
        exact Ev.now _
      · exact Ev.now _
  · rw [if_neg hsame]
    have hf : ¬ (false = true) := by decide
    refine Ev.bind (a := (1, [], root, R)) ?_ ?_
    · unfold proof_VerifyInclusion.f
      refine Ev.bind hro ?_
      unfold bytes_Equal.f
      unfold same at hsame
      have hs2 := Bool.eq_false_iff.mpr hsame
      simp only [Option.isNone_none, if_true, Option.bind_some, hs2, if_neg hf]
      exact Ev.now _
    · dsimp only
      refine Ev.bind (a := (1, R)) ?_ ?_
      · unfold impl_verdict.f
        have hne : ¬ ((1 : Int) = 0) := by decide
        simp only [if_neg hne, if_true, if_pos (show R.length < 140737488355328 by omega)]
        exact Ev.now _
      · exact Ev.now _
end
end Go.Proofs.YtkmdkmlgahfcpaaDoor.M
