/- The parts of an audit path. -/
import Derived.Test.YtkmdkmlgahfcpaaDoorLogSV
namespace Go.Proofs.YtkmdkmlgahfcpaaDoor.Log
open Go Go.RowKit Go.Proofs.YtkmdkmlgahfcpaaDoor.M Go.Proofs.YtkmdkmlgahfcpaaDoor.Nodes Go.Proofs.YtkmdkmlgahfcpaaDoorW.PrintMore Go.Proofs.YtkmdkmlgahfcpaaDoorW.PrintWords Go.Proofs.YtkmdkmlgahfcpaaDoorW.PrintLast
set_option linter.unusedVariables false
set_option linter.unusedSimpArgs false

theorem pathIn_ev : ∀ (n i b : Nat), i < n → b + n < 18446744073709551616 → Ev (fun k => spec_pathIn.f k ((b + i : Nat) : Int) (b : Int) ((b + n : Nat) : Int)) ((pathP (b + i) b n).map mkP) := by
  intro n
  induction n using Nat.strongRecOn with
  | _ n ih =>
    intro i b hi hn
    refine Ev.step (fun k => spec_pathIn.f.eq_2 _ _ _ _) ?_
    have w1 := sub_u64 (b + n) b (by omega) hn
    rw [Nat.add_sub_cancel_left] at w1
    by_cases h1 : n ≤ 1
    · obtain rfl : n = 1 := by omega
      simp only [w1, if_pos (show ((1 : Nat) : Int) = 1 from rfl)]
      rw [pathP_one _ _ _ h1]
      exact Ev.now _
    · have h2 : 2 ≤ n := by omega
      have hlt := sp_lt h2
      have hpos := sp_pos n
      simp only [w1, if_neg (show ¬ ((n : Nat) : Int) = 1 by omega)]
      refine Ev.bind (split_ev n h2 (by omega)) ?_
      have w2 := add_u64 b (sp n) (by omega)
      simp only [w2]
      have hL := (path_parts (fun (x : Nat) _ => x) 0 0 n i b hi (by omega)).1
      have h64 := border_le i n
      have h65 := inner_le i n hi (by omega)
      by_cases hlo : b + i < b + sp n
      · rw [pathP_lo h2 hlo] at hL
        rw [List.length_append, List.length_singleton] at hL
        simp only [if_pos (show ((b + i : Nat) : Int) < ((b + sp n : Nat) : Int) by omega)]
        refine Ev.bind (ih (sp n) hlt i b (by omega) (by omega)) ?_
        have e1 : ((pathP (b + i) b (sp n)).map mkP).length + ([(⟨((b + sp n : Nat) : Int), ((b + n : Nat) : Int)⟩ : S57)]).length < 8796093022208 := by rw [List.length_map, List.length_singleton]; omega
        simp only [Option.bind_some, if_pos e1]
        rw [pathP_lo h2 hlo, List.map_append]
        exact Ev.now _
      · rw [pathP_hi h2 hlo] at hL
        rw [List.length_append, List.length_singleton] at hL
        simp only [if_neg (show ¬ ((b + i : Nat) : Int) < ((b + sp n : Nat) : Int) by omega)]
        have := ih (n - sp n) (by omega) (i - sp n) (b + sp n) (by omega) (by omega)
        rw [show b + sp n + (i - sp n) = b + i by omega, show b + sp n + (n - sp n) = b + n by omega] at this
        refine Ev.bind this ?_
        have e1 : ((pathP (b + i) (b + sp n) (n - sp n)).map mkP).length + ([(⟨(b : Int), ((b + sp n : Nat) : Int)⟩ : S57)]).length < 8796093022208 := by rw [List.length_map, List.length_singleton]; omega
        simp only [Option.bind_some, if_pos e1]
        rw [pathP_hi h2 hlo, List.map_append]
        exact Ev.now _
theorem pathParts_ev (i n : Nat) (hi : i < n) (hn : n < 18446744073709551616) : Ev (fun k => spec_PathParts.f k (i : Int) (n : Int)) ((pathP i 0 n).map mkP) := by
  unfold spec_PathParts.f
  have := pathIn_ev n i 0 hi (by omega)
  simp only [Nat.zero_add] at this
  exact Ev.bind this (Ev.now _)
end Go.Proofs.YtkmdkmlgahfcpaaDoor.Log
