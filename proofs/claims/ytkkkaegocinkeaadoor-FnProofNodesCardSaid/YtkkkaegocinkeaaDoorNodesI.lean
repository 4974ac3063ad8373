/- The thin package's calls over nodes: toNode, fromNodes, RangeNodes behind a list. -/
import Derived.Test.YtkkkaegocinkeaaDoorNodesE
namespace Go.Proofs.YtkkkaegocinkeaaDoor.Ranges
open Go Go.RowKit Go.Proofs.YtkkkaegocinkeaaDoor.M Go.Proofs.YtkkkaegocinkeaaDoorW.PrintWords Go.Proofs.YtkkkaegocinkeaaDoorW.PrintLast Go.Proofs.YtkkkaegocinkeaaDoorW.PrintMore Go.Proofs.YtkkkaegocinkeaaDoor.Nodes
set_option linter.unusedVariables false
set_option linter.unusedSimpArgs false

def im (n : Nat × Nat) : S28 := ⟨n.1, n.2⟩
theorem wrap_nat (n : Nat) (h : n < 9223372036854775807) : wrap64 ((n : Int) + 1) = ((n + 1 : Nat) : Int) := by unfold wrap64; omega
theorem rd_mid {α : Type} (z : α) (pre : List α) (y : α) (rest : List α) : (pre ++ y :: rest).getD ((pre.length : Nat) : Int).toNat z = y := by
  rw [Int.toNat_natCast]
  simp [List.getD_eq_getElem?_getD]

theorem from_nodes (rest : List (Nat × Nat)) : ∀ (pre : List S52) (acc : List S28), pre.length + rest.length < 1000000 → acc.length + rest.length < 1000000 →
    Ev (fun k => impl_fromNodes.l0 k acc (pre ++ rest.map cn) ((pre ++ rest.map cn).length : Int) (pre.length : Int)) (acc ++ rest.map im) := by
  induction rest with
  | nil =>
    intro pre acc h1 h2
    refine Ev.step (fun k => impl_fromNodes.l0.eq_2 _ _ _ _ _) ?_
    simp only [List.map_nil, List.append_nil, if_neg (show ¬ ((pre.length : Int) < (pre.length : Int)) by omega)]
    exact Ev.now _
  | cons n rest ih =>
    intro pre acc h1 h2
    simp only [List.length_cons] at h1 h2
    have hE := ih (pre ++ [cn n]) (acc ++ [im n]) (by simp; omega) (by simp; omega)
    refine Ev.step (fun k => impl_fromNodes.l0.eq_2 _ _ _ _ _) ?_
    have hlen : ((pre ++ (n :: rest).map cn).length : Int) = ((pre.length + rest.length + 1 : Nat) : Int) := by simp; omega
    have hrd : rd_T52 (pre ++ (n :: rest).map cn) (pre.length : Int) = cn n := rd_mid _ pre (cn n) (rest.map cn)
    simp only [hlen, hrd, if_pos (show (pre.length : Int) < ((pre.length + rest.length + 1 : Nat) : Int) by omega), if_pos (show (0 : Int) ≤ (pre.length : Int) by omega), impl_fromNode.f, Option.bind_some,
      if_pos (show acc.length < 8796093022208 by omega), wrap_nat pre.length (by omega)]
    have e1 : pre ++ (n :: rest).map cn = pre ++ [cn n] ++ rest.map cn := by simp
    have e2 : ((pre ++ [cn n] ++ rest.map cn).length : Int) = ((pre.length + rest.length + 1 : Nat) : Int) := by simp; omega
    have e3 : ((pre ++ [cn n]).length : Int) = ((pre.length + 1 : Nat) : Int) := by simp
    rw [e2, e3] at hE
    rw [e1]
    simpa [cn, im] using hE
theorem fromNodes_ev (L : List (Nat × Nat)) (h : L.length < 100000) : Ev (fun k => impl_fromNodes.f k (L.map cn)) (L.map im) := by
  have h := from_nodes L [] [] (by simp; omega) (by simp; omega)
  simpa [impl_fromNodes.f] using h

end Go.Proofs.YtkkkaegocinkeaaDoor.Ranges
