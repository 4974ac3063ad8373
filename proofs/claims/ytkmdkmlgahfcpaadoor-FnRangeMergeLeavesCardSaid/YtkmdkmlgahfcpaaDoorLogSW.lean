/- The printed functions of small numbers: the greatest power of two below, the sizes of a path's parts. -/
import Derived.Test.YtkmdkmlgahfcpaaDoorLogV
import Derived.OpenShut
namespace Go.Proofs.YtkmdkmlgahfcpaaDoor.Log
open Go Go.RowKit Go.Proofs.YtkmdkmlgahfcpaaDoor.M Go.Proofs.YtkmdkmlgahfcpaaDoor.Nodes Go.Proofs.YtkmdkmlgahfcpaaDoorW.PrintMore Go.Proofs.YtkmdkmlgahfcpaaDoorW.PrintWords Go.Proofs.YtkmdkmlgahfcpaaDoorW.PrintLast
set_option linter.unusedVariables false
set_option linter.unusedSimpArgs false

theorem nat_u64 {a : Int} (h : (Lit.int .u64 a).wf = true) : ∃ n : Nat, a = (n : Int) ∧ n < 18446744073709551616 := by
  have := bounds_u64 h
  exact ⟨a.toNat, by omega, by omega⟩
theorem sub_u64 (a b : Nat) (h : b ≤ a) (ha : a < 18446744073709551616) : IntKind.u64.wrap ((a : Int) - (b : Int)) = ((a - b : Nat) : Int) := by
  rw [show ((a : Int) - (b : Int)) = ((a - b : Nat) : Int) by omega]; exact u64_nat _ (by omega)
theorem add_u64 (a b : Nat) (ha : a + b < 18446744073709551616) : IntKind.u64.wrap ((a : Int) + (b : Int)) = ((a + b : Nat) : Int) := by
  rw [← Int.natCast_add]; exact u64_nat _ ha
theorem split_loop (n : Nat) (hn : n < 18446744073709551616) : ∀ (m j : Nat), 2 ^ j + m = n → 1 ≤ m → Ev (fun k => spec_split.l0 k (n : Int) ((2 ^ j : Nat) : Int)) (sp n : Nat) := by
  intro m
  induction m using Nat.strongRecOn with
  | _ m ih =>
    intro j hj h1
    refine Ev.step (fun k => spec_split.l0.eq_2 _ _ _) ?_
    have hp := Nat.two_pow_pos j
    have e2 : 2 ^ (j + 1) = 2 ^ j + 2 ^ j := by rw [Nat.pow_succ]; omega
    rw [sub_u64 n (2 ^ j) (by omega) hn, show n - 2 ^ j = m by omega]
    by_cases h : 2 ^ j < m
    · have e1 : IntKind.u64.wrap (((2 ^ j : Nat) : Int) * 2) = ((2 ^ (j + 1) : Nat) : Int) := by
        rw [show (((2 ^ j : Nat) : Int) * 2) = ((2 ^ (j + 1) : Nat) : Int) by omega]
        exact u64_nat _ (by omega)
      simp only [if_pos (show ((2 ^ j : Nat) : Int) < (m : Int) by omega), e1]
      exact ih (m - 2 ^ j) (by omega) (j + 1) (by omega) (by omega)
    · simp only [if_neg (show ¬ ((2 ^ j : Nat) : Int) < (m : Int) by omega)]
      rw [sp_eq (n := n) (a := j) (by omega) (by omega)]
      exact Ev.now _
theorem split_ev (n : Nat) (h : 2 ≤ n) (hn : n < 18446744073709551616) : Ev (fun k => spec_split.f k (n : Int)) (sp n : Nat) := by
  unfold spec_split.f
  have := split_loop n hn (n - 1) 0 (by simp; omega) (by omega)
  exact this

end Go.Proofs.YtkmdkmlgahfcpaaDoor.Log
