/- The thin package's calls over nodes: toNode, fromNodes, RangeNodes behind a list. -/
import Derived.Test.YtkkkaegocinkeaaDoorNodesE
namespace Go.Proofs.YtkkkaegocinkeaaDoor.Ranges
open Go Go.RowKit Go.Proofs.YtkkkaegocinkeaaDoor.M Go.Proofs.YtkkkaegocinkeaaDoorW.PrintWords Go.Proofs.YtkkkaegocinkeaaDoorW.PrintLast Go.Proofs.YtkkkaegocinkeaaDoorW.PrintMore Go.Proofs.YtkkkaegocinkeaaDoor.Nodes
set_option linter.unusedVariables false
set_option linter.unusedSimpArgs false

def im (n : Nat × Nat) : S28 := ⟨n.1, n.2⟩
theorem wrap_nat (n : Nat) (h : n < 9223372036854775807) : wrap64 ((n : Int) + 1) = ((n + 1 : Nat) : Int) := by unfold wrap64; omega
theorem rd_mid {α : Type} (z : α) (pre : List α) (y : α) (rest : List α) : (pre ++ y :: rest).getD ((pre.length : Nat) : Int).toNat z = y := by
  rw [Int.toNat_natCast]
  simp [List.getD_eq_getElem?_getD]

theorem from_nodes (rest : List (Nat × Nat)) : ∀ (pre : List S52) (acc : List S28), pre.length + rest.length < 1000000 → acc.length + rest.length < 1000000 →
    Ev (fun k => impl_fromNodes.l0 k acc (pre ++ rest.map cn) ((pre ++ rest.map cn).length : Int) (pre.length : Int)) (acc ++ rest.map im) := by
  induction rest with
  | nil =>
    intro pre acc h1 h2
    refine Ev.step (fun k => impl_fromNodes.l0.eq_2 _ _ _ _ _) ?_
    simp only [List.map_nil, List.append_nil, if_neg (show ¬ ((pre.length : Int) < (pre.length : Int)) by omega)]
    exact Ev.now _
  | cons n rest ih =>
    intro pre acc h1 h2
    simp only [List.length_cons] at h1 h2
    have hE := ih (pre ++ [cn n]) (acc ++ [im n]) (by simp; omega) (by simp; omega)
    refine Ev.step (fun k => impl_fromNodes.l0.eq_2 _ _ _ _ _) ?_
    have hlen : ((pre ++ (n :: rest).map cn).length : Int) = ((pre.length + rest.length + 1 : Nat) : Int) := by simp; omega
    have hrd : rd_T52 (pre ++ (n :: rest).map cn) (pre.length : Int) = cn n := rd_mid _ pre (cn n) (rest.map cn)
    simp only [hlen, hrd, if_pos (show (pre.length : Int) < ((pre.length + rest.length + 1 : Nat) : Int) by omega), if_pos (show (0 : Int) ≤ (pre.length : Int) by omega), impl_fromNode.f, Option.bind_some,
      if_pos (show acc.length < 8796093022208 by omega), wrap_nat pre.length (by omega)]
    have e1 : pre ++ (n :: rest).map cn = pre ++ [cn n] ++ rest.map cn := by simp
    have e2 : ((pre ++ [cn n] ++ rest.map cn).length : Int) = ((pre.length + rest.length + 1 : Nat) : Int) := by simp; omega
    have e3 : ((pre ++ [cn n]).length : Int) = ((pre.length + 1 : Nat) : Int) := by simp
    rw [e2, e3] at hE
    rw [e1]
    simpa [cn, im] using hE
theorem fromNodes_ev (L : List (Nat × Nat)) (h : L.length < 100000) : Ev (fun k => impl_fromNodes.f k (L.map cn)) (L.map im) := by
  have h := from_nodes L [] [] (by simp; omega) (by simp; omega)
  simpa [impl_fromNodes.f] using h

theorem to_nodes (b e : Int) (r : List S28) (rest : List (Nat × Nat)) : ∀ (pre : List (Nat × Nat)), pre.length + rest.length < 1000000 → Ev (fun k => impl_RangeNodes.l0 k b e ((pre ++ rest).map cn) ((pre ++ rest).map im) ((pre ++ rest).length : Int) ((pre ++ rest).length : Int)) r →
    Ev (fun k => impl_RangeNodes.l0 k b e (pre.map cn) ((pre ++ rest).map im) ((pre ++ rest).length : Int) (pre.length : Int)) r := by
  induction rest with
  | nil => intro pre h hE; simpa using hE
  | cons n rest ih =>
    intro pre h hE
    simp only [List.length_cons] at h
    have e1 : pre ++ n :: rest = (pre ++ [n]) ++ rest := by simp
    refine Ev.step (fun k => impl_RangeNodes.l0.eq_2 _ _ _ _ _ _ _) ?_
    have hlen : ((pre ++ n :: rest).length : Int) = ((pre.length + rest.length + 1 : Nat) : Int) := by simp; omega
    have hlen2 : (((pre ++ n :: rest).map im).length : Int) = ((pre.length + rest.length + 1 : Nat) : Int) := by simp; omega
    have hrd : rd_T28 ((pre ++ n :: rest).map im) (pre.length : Int) = im n := by
      have := rd_mid (⟨0, 0⟩ : S28) (pre.map im) (im n) (rest.map im)
      rw [List.map_append, List.map_cons]
      rw [List.length_map] at this
      exact this
    have := ih (pre ++ [n]) (by simp; omega) (by rw [← e1]; exact hE)
    have e4 : ((pre ++ [n]).length : Int) = ((pre.length + 1 : Nat) : Int) := by simp
    have e5 : (pre ++ [n]).map cn = pre.map cn ++ [cn n] := by simp
    rw [← e1, hlen, e4, e5] at this
    simp only [hlen, hlen2, hrd, if_pos (show (pre.length : Int) < ((pre.length + rest.length + 1 : Nat) : Int) by omega), if_pos (show (0 : Int) ≤ (pre.length : Int) by omega), impl_toNode.f, compact_NewNodeID.f, Option.bind_some,
      List.length_map, if_pos (show pre.length < 8796093022208 by omega), wrap_nat pre.length (by omega)]
    simpa [cn, im] using this

theorem range_nodes (b e : Nat) (hbe : b ≤ e) (he : e < 2 ^ 64) (A : List (Nat × Nat)) (hA : A.length < 10000) : ∃ L, G b e L ∧ L.length ≤ 128 ∧ Ev (fun k => impl_RangeNodes.f k (b : Int) (e : Int) (A.map im)) ((A ++ L).map im) := by
  obtain ⟨L, hG, hL, _, hE⟩ := compact_nodes2 b e hbe he (A.map cn) (by simp; omega)
  refine ⟨L, hG, hL, ?_⟩
  unfold impl_RangeNodes.f
  have h := to_nodes (b : Int) (e : Int) ((A ++ L).map im) A [] (by simp; omega) (by
    simp only [List.nil_append]
    refine Ev.step (fun k => impl_RangeNodes.l0.eq_2 _ _ _ _ _ _ _) ?_
    simp only [if_neg (show ¬ ((A.length : Int) < (A.length : Int)) by omega)]
    refine Ev.bind hE ?_
    rw [← List.map_append]
    exact Ev.bind (a := (A ++ L).map im) (fromNodes_ev (A ++ L) (by simp; omega)) (Ev.now _))
  simpa using h
end Go.Proofs.YtkkkaegocinkeaaDoor.Ranges
