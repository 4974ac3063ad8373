/- FnProofNodes in plain numbers: the printed law answers true. -/
import Derived.Test.YtkkkaegocinkeaaDoorProofE
namespace Go.Proofs.YtkkkaegocinkeaaDoor.Ranges
open Go Go.RowKit Go.Proofs.YtkkkaegocinkeaaDoor.M Go.Proofs.YtkkkaegocinkeaaDoorW.PrintWords Go.Proofs.YtkkkaegocinkeaaDoorW.PrintLast Go.Proofs.YtkkkaegocinkeaaDoorW.PrintMore Go.Proofs.YtkkkaegocinkeaaDoor.Nodes Go.Proofs.YtkkkaegocinkeaaDoor.Log
set_option linter.unusedVariables false
set_option linter.unusedSimpArgs false

theorem same_nodes (rest : List S28) : ∀ (pre : List S28), pre.length + rest.length < 1000000 →
    Ev (fun k => spec_SameNodes.l0 k (pre ++ rest) (pre ++ rest) ((pre ++ rest).length : Int) (pre.length : Int)) true := by
  induction rest with
  | nil =>
    intro pre h1
    refine Ev.step (fun k => spec_SameNodes.l0.eq_2 _ _ _ _ _) ?_
    simp only [List.append_nil, if_neg (show ¬ ((pre.length : Int) < (pre.length : Int)) by omega)]
    exact Ev.now _
  | cons n rest ih =>
    intro pre h1
    simp only [List.length_cons] at h1
    have hE := ih (pre ++ [n]) (by simp; omega)
    refine Ev.step (fun k => spec_SameNodes.l0.eq_2 _ _ _ _ _) ?_
    have hlen : ((pre ++ n :: rest).length : Int) = ((pre.length + rest.length + 1 : Nat) : Int) := by simp; omega
    have hrd : rd_T28 (pre ++ n :: rest) (pre.length : Int) = n := rd_mid _ pre n rest
    simp only [hlen, hrd, if_pos (show (pre.length : Int) < ((pre.length + rest.length + 1 : Nat) : Int) by omega), if_pos (show (0 : Int) ≤ (pre.length : Int) by omega), wrap_nat pre.length (by omega)]
    have e1 : pre ++ n :: rest = pre ++ [n] ++ rest := by simp
    have e2 : ((pre ++ [n] ++ rest).length : Int) = ((pre.length + rest.length + 1 : Nat) : Int) := by simp; omega
    have e3 : ((pre ++ [n]).length : Int) = ((pre.length + 1 : Nat) : Int) := by simp
    rw [e2, e3] at hE
    rw [e1]
    simpa using hE
theorem same_self (l : List S28) (h : l.length < 1000000) : Ev (fun k => spec_SameNodes.f k l l) true := by
  have := same_nodes l [] (by simpa using h)
  unfold spec_SameNodes.f
  simpa using this
theorem same_proof (l : List S28) (a b c d : Int) (h : l.length < 1000000) : Ev (fun k => spec_SameProof.f k l a b c d l a b c d) true := by
  unfold spec_SameProof.f
  refine Ev.bind (same_self l h) ?_
  simp only [if_true, beq_self_eq_true, Bool.and_self]
  exact Ev.now _

theorem wr_one (d m : Nat) (h : d + m < 100000) : wrap64 (((d + m : Nat) : Int) + 1) = ((d + 1 + m : Nat) : Int) := by unfold wrap64; omega
theorem pos_add (d m : Nat) (h : 0 < m) : ((d + m : Nat) : Int) > 0 := by omega
theorem good (x t n : Nat) (ht : t < 64) (hn : n < 2 ^ 64) (hx : x < n / 2 ^ t) : ∃ (l : List S28) (a b c d : Int), l.length < 1000000 ∧ Ev (fun k => impl_ProofNodes.f k (x : Int) (t : Int) (n : Int)) (l, a, b, c, d) ∧ Ev (fun k => spec_NodeProof.f k (t : Int) (x : Int) (n : Int)) (l, a, b, c, d) := by
  obtain ⟨d, Nl, Nr, hb, htd, hX, hev, hGl, hGr, hle, hNl, hNr, hE⟩ := nodes_ev x t n ht hn hx
  have hsf := sf_len d t x
  have hpt := pow_pos t
  have hxn : (x + 1) * 2 ^ t ≤ n := by
    have := Nat.mul_le_mul_right (2 ^ t) (show x + 1 ≤ n / 2 ^ t from hx)
    exact Nat.le_trans this (Nat.div_mul_le_self _ _)
  have hx1 : (x + 1) * 2 ^ t = x * 2 ^ t + 2 ^ t := by rw [Nat.add_mul, Nat.one_mul]
  have hx64 : x + 1 < 2 ^ 64 := by
    have : (x + 1) * 1 ≤ (x + 1) * 2 ^ t := Nat.mul_le_mul_left _ hpt
    omega
  have hpl : (pathIDs x t d Nl Nr).length = d + 1 + Nr.length + Nl.length := by
    unfold pathIDs
    simp only [List.length_cons, List.length_append, List.length_reverse, hsf]
    omega
  refine ⟨(pathIDs x t d Nl Nr).map im, ((t + d : Nat) : Int), ((x / 2 ^ d + 1 : Nat) : Int), (if Nr = [] then 0 else ((d + 1 : Nat) : Int)), (if Nr = [] then 0 else ((d + 1 + Nr.length : Nat) : Int)), by rw [List.length_map, hpl]; omega, ?_, ?_⟩
  · generalize (if Nr = [] then (0 : Int) else ((d + 1 : Nat) : Int)) = B1 at hE ⊢
    generalize (if Nr = [] then (0 : Int) else ((d + 1 + Nr.length : Nat) : Int)) = B2 at hE ⊢
    have c1 : shr .u64 (n : Int) (t : Int) = ((n / 2 ^ t : Nat) : Int) := shr_u64 n t (by omega)
    have c2 : decide ((x : Int) ≥ ((n / 2 ^ t : Nat) : Int)) = false := decide_eq_false (by omega)
    unfold impl_ProofNodes.f
    simp only [if_neg (show ¬ ((t : Int) > 63) by omega), if_pos (show (0 : Int) ≤ (t : Int) by omega), c1, c2]
    refine Ev.step (fun k => impl_ProofNodes.j0.eq_2 _ _ _ _ _) ?_
    simp only [Bool.false_eq_true, if_false]
    unfold proof_DoorNodes.f
    refine Ev.bind (a := ((pathIDs x t d Nl Nr).map cn, B1, B2, ((t + d : Nat) : Int), ((x / 2 ^ d + 1 : Nat) : Int))) (Ev.bind hE (Ev.now _)) ?_
    unfold impl_fromProof.f proof_Nodes_Ephem.f impl_fromNode.f
    simp only [Option.bind_some]
    refine Ev.bind (a := ((pathIDs x t d Nl Nr).map im, ((t + d : Nat) : Int), ((x / 2 ^ d + 1 : Nat) : Int), B1, B2)) ?_ (Ev.now _)
    exact Ev.bind (fromNodes_ev (pathIDs x t d Nl Nr) (by rw [hpl]; omega)) (Ev.now _)
  · have hdN : d + Nr.length < 100000 := by omega
    have hd9 : d < 9223372036854775807 := by omega
    have hx64n : x * 2 ^ t < n := by omega
    have hn64 : n < 18446744073709551616 := by omega
    have hidl : (sf t x d).length + Nr.length + Nl.length < 1099511627776 := by rw [hsf]; omega
    obtain ⟨hlen, hdrop⟩ := node_path hx hX hev hn hGl
    have c1 : spec_Leaves.f (t : Int) (x : Int) = some (((x * 2 ^ t : Nat) : Int), (((x + 1) * 2 ^ t : Nat) : Int)) := by
      unfold spec_Leaves.f
      have e1 : IntKind.u64.wrap ((x : Int) + 1) = ((x + 1 : Nat) : Int) := u64_nat (x + 1) (by omega)
      rw [if_pos (by omega), e1, shl_u64 _ _ (by omega) (by omega), shl_u64 _ _ (by omega) (by omega)]
    unfold spec_NodeProof.f
    simp only [if_pos (show (0 : Int) ≤ (t : Int) by omega), c1, Option.bind_some, Int.toNat_natCast]
    refine Ev.bind (pathParts_ev (x * 2 ^ t) n hx64n hn64) ?_
    simp only [List.length_map, if_pos hlen, ← List.map_drop]
    rw [hdrop]
    refine Ev.bind (proofOf_ev x t n d Nl Nr hn htd hX hGl hGr hNl hNr) ?_
    have hil : ((sf t x d ++ Nr.reverse ++ Nl.reverse).map im).length < 1099511627776 := by
      simp only [List.length_map, List.length_append, List.length_reverse]; exact hidl
    simp only [if_pos hil]
    refine Ev.bind (fork_ev n t x d hn htd hX hev) ?_
    have hh : (⟨(t : Int), (x : Int)⟩ : S28) :: (sf t x d ++ Nr.reverse ++ Nl.reverse).map im = (pathIDs x t d Nl Nr).map im := rfl
    simp only [hh]
    by_cases hN : Nr = []
    · simp only [if_pos hN, if_neg (show ¬ ((0 : Int) > 0) by omega)]
      exact Ev.now _
    · have hpos : 0 < Nr.length := List.length_pos_iff.2 hN
      have w1 : wrap64 ((d : Int) + 1) = ((d + 1 : Nat) : Int) := wrap_nat d hd9
      have w2 := wr_one d Nr.length hdN
      simp only [if_neg hN, if_pos (pos_add d Nr.length hpos), w1, w2]
      exact Ev.now _

theorem nat_u64 {a : Int} (h : (Lit.int .u64 a).wf = true) : ∃ n : Nat, a = (n : Int) ∧ n < 2 ^ 64 := by
  have := bounds_u64 h
  exact ⟨a.toNat, by omega, by omega⟩
theorem size_ev (n : Nat) (hn : n < 2 ^ 64) : ∃ m : Int, impl_RangeSize.f 0 (n : Int) = some m ∧ ∃ L : List (Nat × Nat), (L.length : Int) = m ∧ Ev (fun k => spec_Nodes.f k 0 (n : Int)) (L.map im) := by
  obtain ⟨L, hG, hL, hs, _⟩ := compact_nodes2 0 n (by omega) hn [] (by simp)
  rw [Int.natCast_zero] at hs
  refine ⟨L.length, by unfold impl_RangeSize.f; rw [hs]; rfl, L, rfl, ?_⟩
  have := specNodes_ev hG hn (by omega)
  rwa [Int.natCast_zero] at this
theorem bad (x t n : Nat) (hn : n < 2 ^ 64) (r : Bool) (hr : r = true) : Ev (fun k => laws_FnProofNodes.j0 k (x : Int) (t : Int) (n : Int) r [] 0 0 0 0) true := by
  subst hr
  refine Ev.step (fun k => laws_FnProofNodes.j0.eq_2 _ _ _ _ _ _ _ _ _ _) ?_
  simp only [if_true]
  refine Ev.bind (same_proof [] 0 0 0 0 (by simp)) ?_
  obtain ⟨m, hm, L, hL, hE⟩ := size_ev n hn
  simp only [if_true, hm, Option.bind_some]
  refine Ev.bind hE ?_
  have : (m == (((L.map im).length : Nat) : Int)) = true := by rw [List.length_map, hL]; exact beq_self_eq_true _
  simp only [this]
  exact Ev.now _
theorem proofNodes_wf (a0 a1 a2 : Int) (w0 : (Lit.int .u64 a0).wf = true) (w1 : (Lit.int .u64 a1).wf = true) (w2 : (Lit.int .u64 a2).wf = true) : Ev (fun k => laws_FnProofNodes.f k a0 a1 a2) true := by
  obtain ⟨x, rfl, h0⟩ := nat_u64 w0
  obtain ⟨t, rfl, h1⟩ := nat_u64 w1
  obtain ⟨n, rfl, h2⟩ := nat_u64 w2
  unfold laws_FnProofNodes.f
  by_cases ht : t < 64
  · have c1 : shr .u64 (n : Int) (t : Int) = ((n / 2 ^ t : Nat) : Int) := shr_u64 n t (by omega)
    by_cases hx : x < n / 2 ^ t
    · obtain ⟨l, a, b, c, d, hl, hE, hS⟩ := good x t n ht h2 hx
      refine Ev.bind hE ?_
      have c2 : decide ((x : Int) ≥ ((n / 2 ^ t : Nat) : Int)) = false := decide_eq_false (by omega)
      simp only [if_neg (show ¬ ((t : Int) ≥ 64) by omega), if_pos (show (0 : Int) ≤ (t : Int) by omega), c1, c2]
      refine Ev.step (fun k => laws_FnProofNodes.j0.eq_2 _ _ _ _ _ _ _ _ _ _) ?_
      simp only [Bool.false_eq_true, if_false]
      refine Ev.bind hS ?_
      exact Ev.bind (same_proof l a b c d hl) (Ev.now _)
    · have c2 : decide ((x : Int) ≥ ((n / 2 ^ t : Nat) : Int)) = true := decide_eq_true (by omega)
      refine Ev.bind (a := ([], 0, 0, 0, 0)) ?_ ?_
      · unfold impl_ProofNodes.f
        simp only [if_neg (show ¬ ((t : Int) > 63) by omega), if_pos (show (0 : Int) ≤ (t : Int) by omega), c1, c2]
        refine Ev.step (fun k => impl_ProofNodes.j0.eq_2 _ _ _ _ _) ?_
        simp only [if_true]
        exact Ev.now _
      · simp only [if_neg (show ¬ ((t : Int) ≥ 64) by omega), if_pos (show (0 : Int) ≤ (t : Int) by omega), c1, c2]
        exact bad x t n h2 true rfl
  · refine Ev.bind (a := ([], 0, 0, 0, 0)) ?_ ?_
    · unfold impl_ProofNodes.f
      simp only [if_pos (show (t : Int) > 63 by omega)]
      refine Ev.step (fun k => impl_ProofNodes.j0.eq_2 _ _ _ _ _) ?_
      simp only [if_true]
      exact Ev.now _
    · simp only [if_pos (show (t : Int) ≥ 64 by omega)]
      exact bad x t n h2 true rfl
end Go.Proofs.YtkkkaegocinkeaaDoor.Ranges
