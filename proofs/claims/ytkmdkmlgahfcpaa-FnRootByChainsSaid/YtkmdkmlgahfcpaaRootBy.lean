/- FnRootByChains: the printed law answers true. -/
import Derived.Test.YtkmdkmlgahfcpaaLogP
import Derived.OpenShut
namespace Go.Proofs.Ytkmdkmlgahfcpaa.Log
open Go Go.RowKit Go.Proofs.Ytkmdkmlgahfcpaa.M Go.Proofs.Ytkmdkmlgahfcpaa.Nodes Go.Proofs.YtkmdkmlgahfcpaaW.PrintMore Go.Proofs.YtkmdkmlgahfcpaaW.PrintWords Go.Proofs.YtkmdkmlgahfcpaaW.PrintLast
set_option linter.unusedVariables false
set_option linter.unusedSimpArgs false
theorem nat_u64 {a : Int} (h : (Lit.int .u64 a).wf = true) : ∃ n : Nat, a = (n : Int) ∧ n < 18446744073709551616 := by
  have := bounds_u64 h
  exact ⟨a.toNat, by omega, by omega⟩
section
variable (k0 k1 k2 k3 k4 k5 : Int)
theorem rootOf_ev (i n : Nat) (hi : i < n) (hn : n < 18446744073709551616) (leaf : List Int) (P : List (List Int)) (hl : (leaf.length : Int) = k1) (hP : P.length = inner i n + border i n) (hs : leaf.length + tot P ≤ 70368744177664) (hf : Fit P) :
    Ev (fun k => impl_RootOfInclusion.f k k0 k1 k2 k3 k4 k5 (i : Int) (n : Int) leaf P) (rootP (hc k0 k2 k5) [] i 0 n leaf P, true) := by
  unfold impl_RootOfInclusion.f
  have e1 : ([] : List Int).length + leaf.length < 140737488355328 := by rw [List.length_nil]; omega
  simp only [Option.bind_some, if_pos e1, List.nil_append]
  refine Ev.bind (texts_ev P hf.1 (fun r hr => by have := hf.2 r hr; omega)) (Ev.bind (rootFrom_ev k0 k1 k2 k3 k4 k5 i n hi hn leaf P hl hP hs) ?_)
  simp only [Option.isNone_none, if_true]
  exact Ev.now _
theorem chainInner_ev (i : Nat) (hi : i < 18446744073709551616) (leaf : List Int) (P : List (List Int)) (hf : Fit P) (hs : leaf.length + tot P ≤ 70368744177664) :
    Ev (fun k => impl_ChainInner.f k k0 k1 k2 k3 k4 k5 leaf P (i : Int)) (chI (hc k0 k2 k5) i 0 leaf P) := by
  unfold impl_ChainInner.f proof_DoorInner.f
  have e1 : ([] : List Int).length + leaf.length < 140737488355328 := by rw [List.length_nil]; omega
  simp only [Option.bind_some, if_pos e1, List.nil_append]
  have h1 := hf.1
  exact Ev.bind (texts_ev P hf.1 (fun r hr => by have := hf.2 r hr; omega)) (Ev.bind (Ev.bind (inner_ev k0 k1 k2 k3 k4 k5 i hi P (by omega) leaf hs) (Ev.now _)) (Ev.now _))
theorem chainBorder_ev (leaf : List Int) (P : List (List Int)) (hf : Fit P) (hs : leaf.length + tot P ≤ 70368744177664) :
    Ev (fun k => impl_ChainBorder.f k k0 k1 k2 k3 k4 k5 leaf P) (chB (hc k0 k2 k5) leaf P) := by
  unfold impl_ChainBorder.f proof_DoorBorder.f
  have e1 : ([] : List Int).length + leaf.length < 140737488355328 := by rw [List.length_nil]; omega
  simp only [Option.bind_some, if_pos e1, List.nil_append]
  have h1 := hf.1
  exact Ev.bind (texts_ev P hf.1 (fun r hr => by have := hf.2 r hr; omega)) (Ev.bind (Ev.bind (border_ev k0 k1 k2 k3 k4 k5 P (by omega) leaf hs) (Ev.now _)) (Ev.now _))
theorem Fit.take {L : List (List Int)} (h : Fit L) (n : Nat) : Fit (L.take n) := ⟨by have := h.1; rw [List.length_take]; omega, fun r hr => h.2 r (List.mem_of_mem_take hr)⟩
theorem Fit.drop {L : List (List Int)} (h : Fit L) (n : Nat) : Fit (L.drop n) := ⟨by have := h.1; rw [List.length_drop]; omega, fun r hr => h.2 r (List.mem_of_mem_drop hr)⟩
theorem sizes_ev (i n : Nat) (hi : i < n) (hn : n < 18446744073709551616) : impl_ProofSizes.f (i : Int) (n : Int) = some ((inner i n : Int), (border i n : Int)) := by
  have hd := decomp i n hi hn
  generalize inner i n = A at *
  generalize border i n = B at *
  unfold impl_ProofSizes.f proof_DoorSizes.f
  rw [if_neg (show ¬ (i : Int) ≥ (n : Int) by omega), hd]
  rfl
theorem rb_j1 (i n : Int) (leaf : List Int) (P : List (List Int)) : Ev (fun k => laws_FnRootByChains.j1 k i n leaf P true k0 k1 k2 k3 k4 k5) true := by
  refine Ev.step (fun k => laws_FnRootByChains.j1.eq_2 _ _ _ _ _ _ _ _ _ _ _ _) ?_
  simp only [if_true]
  exact Ev.now _
theorem rb_j0 (i n : Int) (leaf : List Int) (P : List (List Int)) : Ev (fun k => laws_FnRootByChains.j0 k i n leaf P true k0 k1 k2 k3 k4 k5) true := by
  refine Ev.step (fun k => laws_FnRootByChains.j0.eq_2 _ _ _ _ _ _ _ _ _ _ _ _) ?_
  simp only [if_true]
  exact Ev.now _
theorem rootBy_ev (a1 a2 : Int) (w1 : (Lit.int .u64 a1).wf = true) (w2 : (Lit.int .u64 a2).wf = true) (leaf : List Int) (P : List (List Int)) : Ev (fun k => laws_FnRootByChains.f k k0 k1 k2 k3 k4 k5 a1 a2 leaf P) true := by
  obtain ⟨i, rfl, hi⟩ := nat_u64 w1
  obtain ⟨n, rfl, hn⟩ := nat_u64 w2
  have hf : ¬ (false = true) := by decide
  unfold laws_FnRootByChains.f
  by_cases hleaf : (leaf.length : Int) > 2147483647
  · simp only [if_pos hleaf]
    exact rb_j0 k0 k1 k2 k3 k4 k5 _ _ _ _
  · simp only [if_neg hleaf]
    obtain ⟨r, h1, h2⟩ := fits_ev P
    refine Ev.bind h1 ?_
    cases r with
    | false => exact rb_j0 k0 k1 k2 k3 k4 k5 _ _ _ _
    | true =>
    have hfit := h2 rfl
    refine Ev.step (fun k => laws_FnRootByChains.j0.eq_2 _ _ _ _ _ _ _ _ _ _ _ _) ?_
    simp only [Bool.not_true, if_neg hf]
    by_cases hin : (i : Int) ≥ (n : Int)
    · simp only [if_pos hin]
      exact rb_j1 k0 k1 k2 k3 k4 k5 _ _ _ _
    · simp only [if_neg hin]
      have hlt : i < n := by omega
      obtain ⟨r, h3, h4⟩ := small_ev P hfit.1
      refine Ev.bind h3 ?_
      cases r with
      | false => simp only [if_neg hf]; exact rb_j1 k0 k1 k2 k3 k4 k5 _ _ _ _
      | true =>
      have hsm := h4 rfl
      simp only [if_true]
      by_cases hlen : (leaf.length : Int) = k1
      · simp only [if_pos hlen]
        refine Ev.bind (pathParts_ev i n hlt hn) ?_
        rw [List.length_map, pathP_len i n hlt hn]
        by_cases hp : P.length = inner i n + border i n
        · have hd := sizes_ev i n hlt hn
          have hro := rootOf_ev k0 k1 k2 k3 k4 k5 i n hlt hn leaf P hlen hp
          have h64 := border_le i n
          have h65 := inner_le i n hlt hn
          have hr := (path_parts (hc k0 k2 k5) [] leaf n i 0 hlt (by omega)).2 P hp
          rw [Nat.zero_add] at hr
          generalize inner i n = A at *
          generalize border i n = B at *
          have e1 : ((P.length : Int) != ((A + B : Nat) : Int)) = false := by rw [hp]; simp
          have e2 : wrap64 ((A : Int) + (B : Int)) = ((A + B : Nat) : Int) := by unfold wrap64; omega
          have e3 : (((A + B : Nat) : Int) != (P.length : Int)) = false := by rw [hp]; simp
          have ht := tot_le 5000 P hsm.2
          have ht2 : P.length * (5000 + 9) ≤ 300 * (5000 + 9) := Nat.mul_le_mul_right _ hsm.1
          have hsz : tot (P.take A) + tot (P.drop A) = tot P := by rw [← tot_append, List.take_append_drop]
          have hci := chI_len k0 k2 k5 i (P.take A) 0 leaf
          rw [e1]
          refine Ev.step (fun k => laws_FnRootByChains.j1.eq_2 _ _ _ _ _ _ _ _ _ _ _ _) ?_
          simp only [if_neg hf, hd]
          refine Ev.bind (g := fun _ => some ((A : Int), (B : Int))) (Ev.now _) ?_
          dsimp only
          rw [e2, e3]
          simp only [if_neg (show ¬ (A : Int) < 0 by omega)]
          refine Ev.step (fun k => laws_FnRootByChains.j2.eq_2 _ _ _ _ _ _ _ _ _ _ _ _ _) ?_
          simp only [if_neg hf]
          refine Ev.bind (hro (by omega) hfit) ?_
          dsimp only
          simp only [if_true, if_pos (show 0 ≤ (A : Int) by omega), if_pos (show (A : Int) ≤ (P.length : Int) by omega), toNat_cast]
          refine Ev.bind (chainInner_ev k0 k1 k2 k3 k4 k5 i hi leaf _ (hfit.take _) (by omega)) (Ev.bind (chainBorder_ev k0 k1 k2 k3 k4 k5 _ _ (hfit.drop _) (by omega)) ?_)
          unfold spec_SameText.f
          rw [hr]
          simp only [Option.bind_some, beq_self_eq_true]
          exact Ev.now _
        · have e1 : ((P.length : Int) != ((inner i n + border i n : Nat) : Int)) = true := by rw [bne_iff_ne]; omega
          simp only [e1]
          exact rb_j1 k0 k1 k2 k3 k4 k5 _ _ _ _
      · simp only [if_neg hlen]
        exact rb_j1 k0 k1 k2 k3 k4 k5 _ _ _ _
end
end Go.Proofs.Ytkmdkmlgahfcpaa.Log
