/- The root that an audit path leads to. -/
import Derived.Test.YtkmdkmlgahfcpaaDoorLogS
namespace Go.Proofs.YtkmdkmlgahfcpaaDoor.Log
open Go Go.RowKit Go.Proofs.YtkmdkmlgahfcpaaDoor.M Go.Proofs.YtkmdkmlgahfcpaaDoor.Nodes Go.Proofs.YtkmdkmlgahfcpaaDoorW.PrintMore Go.Proofs.YtkmdkmlgahfcpaaDoorW.PrintWords Go.Proofs.YtkmdkmlgahfcpaaDoorW.PrintLast
set_option linter.unusedVariables false
set_option linter.unusedSimpArgs false

section
variable (k0 k1 k2 k3 k4 k5 : Int)
/-- Where there are as many hashes as a path has, the leaf hash is as long as is told: the root. -/
theorem rootFrom_ev (i n : Nat) (hi : i < n) (hn : n < 18446744073709551616) (leaf : List Int) (P : List (List Int)) (hl : (leaf.length : Int) = k1) (hP : P.length = inner i n + border i n) (hs : leaf.length + tot P ≤ 70368744177664) :
    Ev (fun k => proof_RootFromInclusionProof.f k k0 k1 k2 k3 k4 k5 (i : Int) (n : Int) leaf P) (rootP (hc k0 k2 k5) [] i 0 n leaf P, none) := by
  have h64 := border_le i n
  have h65 := inner_le i n hi hn
  have hr := (path_parts (hc k0 k2 k5) [] leaf n i 0 hi (by omega)).2 P hP
  rw [Nat.zero_add] at hr
  have hd := decomp i n hi hn
  generalize inner i n = A at *
  generalize border i n = B at *
  unfold proof_RootFromInclusionProof.f
  have e1 : wrap64 ((A : Int) + (B : Int)) = ((A + B : Nat) : Int) := by unfold wrap64; omega
  unfold impl_toy_Size.f
  have hsz : tot (P.take A) + tot (P.drop A) = tot P := by rw [← tot_append, List.take_append_drop]
  simp only [if_neg (show ¬ (i : Int) ≥ (n : Int) by omega), Option.bind_some]
  simp only [if_pos hl, hd]
  refine Ev.bind (g := fun _ => some ((A : Int), (B : Int))) (Ev.now _) ?_
  dsimp only
  rw [e1]
  simp only [if_pos (show (P.length : Int) = ((A + B : Nat) : Int) by omega), if_pos (show 0 ≤ (A : Int) by omega), if_pos (show (A : Int) ≤ (P.length : Int) by omega), toNat_cast]
  have hci := chI_len k0 k2 k5 i (P.take A) 0 leaf
  refine Ev.bind (inner_ev k0 k1 k2 k3 k4 k5 i (by omega) _ (by rw [List.length_take]; omega) leaf (by omega)) (Ev.bind (border_ev k0 k1 k2 k3 k4 k5 _ (by rw [List.length_drop]; omega) _ (by omega)) ?_)
  rw [hr]
  exact Ev.now _
end
end Go.Proofs.YtkmdkmlgahfcpaaDoor.Log
