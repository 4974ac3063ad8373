/- The printed functions of audit paths, in plain numbers and lists. -/
import Derived.Test.YtkmdkmlgahfcpaaLogH
import Derived.OpenShut
namespace Go.Proofs.Ytkmdkmlgahfcpaa.Log
open Go Go.RowKit Go.Proofs.Ytkmdkmlgahfcpaa.M Go.Proofs.Ytkmdkmlgahfcpaa.Nodes Go.Proofs.YtkmdkmlgahfcpaaW.PrintMore Go.Proofs.YtkmdkmlgahfcpaaW.PrintWords Go.Proofs.YtkmdkmlgahfcpaaW.PrintLast
set_option linter.unusedVariables false
set_option linter.unusedSimpArgs false

theorem nat_u64 {a : Int} (h : (Lit.int .u64 a).wf = true) : ∃ n : Nat, a = (n : Int) ∧ n < 18446744073709551616 := by
  have := bounds_u64 h
  exact ⟨a.toNat, by omega, by omega⟩
theorem sub_u64 (a b : Nat) (h : b ≤ a) (ha : a < 18446744073709551616) : IntKind.u64.wrap ((a : Int) - (b : Int)) = ((a - b : Nat) : Int) := by
  rw [show ((a : Int) - (b : Int)) = ((a - b : Nat) : Int) by omega]; exact u64_nat _ (by omega)
theorem add_u64 (a b : Nat) (ha : a + b < 18446744073709551616) : IntKind.u64.wrap ((a : Int) + (b : Int)) = ((a + b : Nat) : Int) := by
  rw [← Int.natCast_add]; exact u64_nat _ ha
theorem split_loop (n : Nat) (hn : n < 18446744073709551616) : ∀ (m j : Nat), 2 ^ j + m = n → 1 ≤ m → Ev (fun k => spec_split.l0 k (n : Int) ((2 ^ j : Nat) : Int)) (sp n : Nat) := by
  intro m
  induction m using Nat.strongRecOn with
  | _ m ih =>
    intro j hj h1
    refine Ev.step (fun k => spec_split.l0.eq_2 _ _ _) ?_
    have hp := Nat.two_pow_pos j
    have e2 : 2 ^ (j + 1) = 2 ^ j + 2 ^ j := by rw [Nat.pow_succ]; omega
    rw [sub_u64 n (2 ^ j) (by omega) hn, show n - 2 ^ j = m by omega]
    by_cases h : 2 ^ j < m
    · have e1 : IntKind.u64.wrap (((2 ^ j : Nat) : Int) * 2) = ((2 ^ (j + 1) : Nat) : Int) := by
        rw [show (((2 ^ j : Nat) : Int) * 2) = ((2 ^ (j + 1) : Nat) : Int) by omega]
        exact u64_nat _ (by omega)
      simp only [if_pos (show ((2 ^ j : Nat) : Int) < (m : Int) by omega), e1]
      exact ih (m - 2 ^ j) (by omega) (j + 1) (by omega) (by omega)
    · simp only [if_neg (show ¬ ((2 ^ j : Nat) : Int) < (m : Int) by omega)]
      rw [sp_eq (n := n) (a := j) (by omega) (by omega)]
      exact Ev.now _
theorem split_ev (n : Nat) (h : 2 ≤ n) (hn : n < 18446744073709551616) : Ev (fun k => spec_split.f k (n : Int)) (sp n : Nat) := by
  unfold spec_split.f
  have := split_loop n hn (n - 1) 0 (by simp; omega) (by omega)
  exact this

def mkP (p : Nat × Nat) : S48 := ⟨p.1, p.2⟩
theorem pop_le : ∀ f x, Lib.popAux f x ≤ f := by
  intro f
  induction f with
  | zero => intro x; exact Nat.le_refl _
  | succ f ih => intro x; simp only [Lib.popAux]; have := ih (x / 2); omega
theorem border_le (i n : Nat) : border i n ≤ 64 := pop_le 64 _
theorem inner_le (i n : Nat) (hi : i < n) (hn : n < 18446744073709551616) : inner i n ≤ 64 := by
  unfold inner
  exact Lib.bitLen_le _ 64 (by omega) (Nat.xor_lt_two_pow (by omega) (by omega))
theorem pathIn_ev : ∀ (n i b : Nat), i < n → b + n < 18446744073709551616 → Ev (fun k => spec_pathIn.f k ((b + i : Nat) : Int) (b : Int) ((b + n : Nat) : Int)) ((pathP (b + i) b n).map mkP) := by
  intro n
  induction n using Nat.strongRecOn with
  | _ n ih =>
    intro i b hi hn
    refine Ev.step (fun k => spec_pathIn.f.eq_2 _ _ _ _) ?_
    have w1 := sub_u64 (b + n) b (by omega) hn
    rw [Nat.add_sub_cancel_left] at w1
    by_cases h1 : n ≤ 1
    · obtain rfl : n = 1 := by omega
      simp only [w1, if_pos (show ((1 : Nat) : Int) = 1 from rfl)]
      rw [pathP_one _ _ _ h1]
      exact Ev.now _
    · have h2 : 2 ≤ n := by omega
      have hlt := sp_lt h2
      have hpos := sp_pos n
      simp only [w1, if_neg (show ¬ ((n : Nat) : Int) = 1 by omega)]
      refine Ev.bind (split_ev n h2 (by omega)) ?_
      have w2 := add_u64 b (sp n) (by omega)
      simp only [w2]
      have hL := (path_parts (fun (x : Nat) _ => x) 0 0 n i b hi (by omega)).1
      have h64 := border_le i n
      have h65 := inner_le i n hi (by omega)
      by_cases hlo : b + i < b + sp n
      · rw [pathP_lo h2 hlo] at hL
        rw [List.length_append, List.length_singleton] at hL
        simp only [if_pos (show ((b + i : Nat) : Int) < ((b + sp n : Nat) : Int) by omega)]
        refine Ev.bind (ih (sp n) hlt i b (by omega) (by omega)) ?_
        have e1 : ((pathP (b + i) b (sp n)).map mkP).length + ([(⟨((b + sp n : Nat) : Int), ((b + n : Nat) : Int)⟩ : S48)]).length < 8796093022208 := by rw [List.length_map, List.length_singleton]; omega
        simp only [Option.bind_some, if_pos e1]
        rw [pathP_lo h2 hlo, List.map_append]
        exact Ev.now _
      · rw [pathP_hi h2 hlo] at hL
        rw [List.length_append, List.length_singleton] at hL
        simp only [if_neg (show ¬ ((b + i : Nat) : Int) < ((b + sp n : Nat) : Int) by omega)]
        have := ih (n - sp n) (by omega) (i - sp n) (b + sp n) (by omega) (by omega)
        rw [show b + sp n + (i - sp n) = b + i by omega, show b + sp n + (n - sp n) = b + n by omega] at this
        refine Ev.bind this ?_
        have e1 : ((pathP (b + i) (b + sp n) (n - sp n)).map mkP).length + ([(⟨(b : Int), ((b + sp n : Nat) : Int)⟩ : S48)]).length < 8796093022208 := by rw [List.length_map, List.length_singleton]; omega
        simp only [Option.bind_some, if_pos e1]
        rw [pathP_hi h2 hlo, List.map_append]
        exact Ev.now _
theorem pathParts_ev (i n : Nat) (hi : i < n) (hn : n < 18446744073709551616) : Ev (fun k => spec_PathParts.f k (i : Int) (n : Int)) ((pathP i 0 n).map mkP) := by
  unfold spec_PathParts.f
  have := pathIn_ev n i 0 hi (by omega)
  simp only [Nat.zero_add] at this
  exact Ev.bind this (Ev.now _)
theorem pathP_len (i n : Nat) (hi : i < n) (hn : n < 18446744073709551616) : (pathP i 0 n).length = inner i n + border i n := by
  have := (path_parts (fun (x : Nat) _ => x) 0 0 n i 0 hi (by omega)).1
  rwa [Nat.zero_add] at this

theorem innerSize (i n : Nat) (hi : i < n) (hn : n < 18446744073709551616) : proof_innerProofSize.f (i : Int) (n : Int) = some (inner i n : Int) := by
  unfold proof_innerProofSize.f
  have e1 : IntKind.u64.wrap ((n : Int) - 1) = ((n - 1 : Nat) : Int) := sub_u64 n 1 (by omega) hn
  have e2 : i ^^^ (n - 1) < 18446744073709551616 := Nat.xor_lt_two_pow (n := 64) (by omega) (by omega)
  rw [e1, bits_xor_u64_nat _ _ (by omega) (by omega)]
  unfold bits_Len64.f
  rw [if_pos ⟨by omega, by omega⟩, toNat_cast]
  rfl
theorem ones_nat (z : Nat) (hz : z < 18446744073709551616) : bits_OnesCount64.f (z : Int) = some (Lib.onesCount z : Int) := by
  unfold bits_OnesCount64.f
  rw [if_pos ⟨by omega, by omega⟩, toNat_cast]
theorem decomp (i n : Nat) (hi : i < n) (hn : n < 18446744073709551616) : proof_decompInclProof.f (i : Int) (n : Int) = some ((inner i n : Int), (border i n : Int)) := by
  unfold proof_decompInclProof.f
  have h65 := inner_le i n hi hn
  have e2 : i / 2 ^ inner i n < 18446744073709551616 := Nat.lt_of_le_of_lt (Nat.div_le_self _ _) (by omega)
  have e3 := ones_nat _ e2
  have e4 := shr_nat i (inner i n) (by omega)
  have e5 := innerSize i n hi hn
  have e6 : Lib.onesCount (i / 2 ^ inner i n) = border i n := rfl
  rw [e6] at e3
  generalize inner i n = z at *
  simp only [e5, Option.bind_some, u64_nat z (by omega), if_pos (show 0 ≤ (z : Int) by omega), e4, e3]
section
variable (k0 k1 k2 k3 k4 k5 : Int)
/-- Where there are as many hashes as a path has, the leaf hash is as long as is told: the root. -/
theorem rootFrom_ev (i n : Nat) (hi : i < n) (hn : n < 18446744073709551616) (leaf : List Int) (P : List (List Int)) (hl : (leaf.length : Int) = k1) (hP : P.length = inner i n + border i n) (hs : leaf.length + tot P ≤ 70368744177664) :
    Ev (fun k => proof_RootFromInclusionProof.f k k0 k1 k2 k3 k4 k5 (i : Int) (n : Int) leaf P) (rootP (hc k0 k2 k5) [] i 0 n leaf P, none) := by
  have h64 := border_le i n
  have h65 := inner_le i n hi hn
  have hr := (path_parts (hc k0 k2 k5) [] leaf n i 0 hi (by omega)).2 P hP
  rw [Nat.zero_add] at hr
  have hd := decomp i n hi hn
  generalize inner i n = A at *
  generalize border i n = B at *
  unfold proof_RootFromInclusionProof.f
  have e1 : wrap64 ((A : Int) + (B : Int)) = ((A + B : Nat) : Int) := by unfold wrap64; omega
  unfold impl_toy_Size.f
  have hsz : tot (P.take A) + tot (P.drop A) = tot P := by rw [← tot_append, List.take_append_drop]
  simp only [if_neg (show ¬ (i : Int) ≥ (n : Int) by omega), Option.bind_some]
  simp only [if_pos hl, hd]
  refine Ev.bind (g := fun _ => some ((A : Int), (B : Int))) (Ev.now _) ?_
  dsimp only
  rw [e1]
  simp only [if_pos (show (P.length : Int) = ((A + B : Nat) : Int) by omega), if_pos (show 0 ≤ (A : Int) by omega), if_pos (show (A : Int) ≤ (P.length : Int) by omega), toNat_cast]
  have hci := chI_len k0 k2 k5 i (P.take A) 0 leaf
  refine Ev.bind (inner_ev k0 k1 k2 k3 k4 k5 i (by omega) _ (by rw [List.length_take]; omega) leaf (by omega)) (Ev.bind (border_ev k0 k1 k2 k3 k4 k5 _ (by rw [List.length_drop]; omega) _ (by omega)) ?_)
  rw [hr]
  exact Ev.now _
end
end Go.Proofs.Ytkmdkmlgahfcpaa.Log
