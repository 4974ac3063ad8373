/- The printed functions of a proof between two logs, in plain numbers and lists. -/
import Derived.Test.YtkmdkmlgahfcpaaDoorConsA
import Derived.Test.YtkmdkmlgahfcpaaDoorLogS
namespace Go.Proofs.YtkmdkmlgahfcpaaDoor.Log
open Go Go.RowKit Go.Proofs.YtkmdkmlgahfcpaaDoor.M Go.Proofs.YtkmdkmlgahfcpaaDoor.Nodes Go.Proofs.YtkmdkmlgahfcpaaDoorW.PrintMore Go.Proofs.YtkmdkmlgahfcpaaDoorW.PrintWords Go.Proofs.YtkmdkmlgahfcpaaDoorW.PrintLast
set_option linter.unusedVariables false
set_option linter.unusedSimpArgs false
theorem tz_ex (s : Nat) (h0 : 0 < s) (h : s < 18446744073709551616) : Tz s (Lib.ctz 64 s) ∧ Lib.ctz 64 s < 64 := by
  obtain ⟨q, hq, hl⟩ := ctz_low s (by omega) (by omega)
  exact ⟨⟨q, hq⟩, hl⟩
theorem pre_le {α : Type} (w : Bool) (s t : Nat) (sd : α) : (pre w s t sd).length ≤ 1 := by
  rw [pre_len]
  split <;> omega
theorem proofP_len_le (n s b : Nat) (w : Bool) (h0 : 0 < s) (h1 : s ≤ n) (hn : n < 18446744073709551616) : (proofP (b + s) b n w).length ≤ 200 := by
  by_cases he : s = n
  · rw [proofP_end (by omega)]
    cases w <;> simp
  · have ht := tz_ex s h0 (by omega)
    have h := (cons_parts (fun (x : Nat) _ => x) 0 n s _ b w h0 (by omega) (by omega) ht.1).2.1
    have h2 := pre_le w s (Lib.ctz 64 s) (0 : Nat)
    have h3 := border_le (s - 1) n
    have h4 := inner_le (s - 1) n (by omega) hn
    omega
theorem proofIn_ev : ∀ (n s b : Nat) (w : Bool), 0 < s → s ≤ n → b + n < 18446744073709551616 → Ev (fun k => spec_proofIn.f k ((b + s : Nat) : Int) (b : Int) ((b + n : Nat) : Int) w) ((proofP (b + s) b n w).map mkP) := by
  intro n
  induction n using Nat.strongRecOn with
  | _ n ih =>
    intro s b w h0 h1 hn
    refine Ev.step (fun k => spec_proofIn.f.eq_2 _ _ _ _ _) ?_
    have w1 := sub_u64 (b + n) b (by omega) hn
    rw [Nat.add_sub_cancel_left] at w1
    by_cases he : s = n
    · subst he
      rw [proofP_end rfl]
      have hf : ¬ (false = true) := by decide
      cases w with
      | true => simp only [if_true]; exact Ev.now _
      | false => simp only [if_true, if_neg hf]; exact Ev.now _
    · have hne : ¬ ((b + s : Nat) : Int) = ((b + n : Nat) : Int) := by omega
      have h2 : 2 ≤ n := by omega
      have hlt := sp_lt h2
      have hpos := sp_pos n
      have w2 := add_u64 b (sp n) (by omega)
      simp only [if_neg hne, w1]
      refine Ev.bind (split_ev n h2 (by omega)) ?_
      simp only [w2]
      by_cases hlo : s ≤ sp n
      · have hL := proofP_len_le (sp n) s b w h0 hlo (by omega)
        simp only [if_pos (show ((b + s : Nat) : Int) ≤ ((b + sp n : Nat) : Int) by omega)]
        refine Ev.bind (ih (sp n) hlt s b w h0 hlo (by omega)) ?_
        have e1 : ((proofP (b + s) b (sp n) w).map mkP).length + ([(⟨((b + sp n : Nat) : Int), ((b + n : Nat) : Int)⟩ : S57)]).length < 8796093022208 := by rw [List.length_map, List.length_singleton]; omega
        simp only [Option.bind_some, if_pos e1]
        rw [proofP_lo (by omega) h2 (by omega), List.map_append]
        exact Ev.now _
      · have hL := proofP_len_le (n - sp n) (s - sp n) (b + sp n) false (by omega) (by omega) (by omega)
        simp only [if_neg (show ¬ ((b + s : Nat) : Int) ≤ ((b + sp n : Nat) : Int) by omega)]
        have := ih (n - sp n) (by omega) (s - sp n) (b + sp n) false (by omega) (by omega) (by omega)
        rw [show b + sp n + (s - sp n) = b + s by omega] at this hL
        rw [show b + sp n + (n - sp n) = b + n by omega] at this
        refine Ev.bind this ?_
        have e1 : ((proofP (b + s) (b + sp n) (n - sp n) false).map mkP).length + ([(⟨(b : Int), ((b + sp n : Nat) : Int)⟩ : S57)]).length < 8796093022208 := by rw [List.length_map, List.length_singleton]; omega
        simp only [Option.bind_some, if_pos e1]
        rw [proofP_hi (by omega) h2 (by omega), List.map_append]
        exact Ev.now _
theorem proofParts_ev (s n : Nat) (h0 : 0 < s) (h1 : s ≤ n) (hn : n < 18446744073709551616) : Ev (fun k => spec_ProofParts.f k (s : Int) (n : Int)) ((proofP s 0 n true).map mkP) := by
  unfold spec_ProofParts.f
  have := proofIn_ev n s 0 true h0 h1 (by omega)
  simp only [Nat.zero_add] at this
  exact Ev.bind this (Ev.now _)
section
variable (k0 k1 k2 k3 k4 k5 : Int)
theorem rootsIn_ev (r1 : List Int) : ∀ (n s b : Nat) (w : Bool) (P : List (List Int)), 0 < s → s ≤ n → b + n < 18446744073709551616 → P.length = (proofP (b + s) b n w).length → P.length ≤ 1000 → r1.length + tot P ≤ 70368744177664 →
    Ev (fun k => spec_rootsIn.f k k0 k1 k2 k3 k4 k5 ((b + s : Nat) : Int) (b : Int) ((b + n : Nat) : Int) w P r1) (rootsP (hc k0 k2 k5) [] (b + s) b n w P r1) ∧ (rootsP (hc k0 k2 k5) [] (b + s) b n w P r1).1.length ≤ r1.length + tot P ∧ (rootsP (hc k0 k2 k5) [] (b + s) b n w P r1).2.length ≤ r1.length + tot P := by
  intro n
  induction n using Nat.strongRecOn with
  | _ n ih =>
    intro s b w P h0 h1 hn hP hP1 hs
    have w1 := sub_u64 (b + n) b (by omega) hn
    rw [Nat.add_sub_cancel_left] at w1
    by_cases he : s = n
    · subst he
      rw [proofP_end rfl] at hP
      rw [rootsP_end _ _ _ _ rfl]
      cases w with
      | true =>
        refine ⟨Ev.step (fun k => spec_rootsIn.f.eq_2 _ _ _ _ _ _ _ _ _ _ _ _ _) ?_, by simp, by simp⟩
        simp only [if_true]
        exact Ev.now _
      | false =>
        have hf : ¬ (false = true) := by decide
        rw [if_neg hf] at hP
        obtain ⟨q, y, rfl, hq⟩ := snoc_of P 0 hP
        obtain rfl : q = [] := List.length_eq_zero_iff.1 hq
        have ht : tot [y] = y.length + 9 := rfl
        simp only [List.nil_append, if_neg hf] at hs ⊢
        refine ⟨Ev.step (fun k => spec_rootsIn.f.eq_2 _ _ _ _ _ _ _ _ _ _ _ _ _) ?_, by simp [ht]; omega, by simp [ht]; omega⟩
        simp only [if_true, if_neg hf, if_pos (show (0 : Int) < ([y].length : Int) by simp)]
        exact Ev.now _
    · have hne : ¬ ((b + s : Nat) : Int) = ((b + n : Nat) : Int) := by omega
      have hne2 : ¬ b + s = b + n := by omega
      have h2 : 2 ≤ n := by omega
      have hlt := sp_lt h2
      have hpos := sp_pos n
      have w2 := add_u64 b (sp n) (by omega)
      by_cases hlo : s ≤ sp n
      · rw [proofP_lo hne2 h2 (by omega), List.length_append, List.length_singleton] at hP
        obtain ⟨q, y, rfl, hq⟩ := snoc_of P _ hP
        rw [tot_append] at hs
        have ht : tot [y] = y.length + 9 := rfl
        obtain ⟨h3, h4, h5⟩ := ih (sp n) hlt s b w q h0 hlo (by omega) hq (by rw [List.length_append] at hP1; omega) (by omega)
        rw [rootsP_lo _ _ q y r1 hne2 h2 (by omega)]
        generalize rootsP (hc k0 k2 k5) [] (b + s) b (sp n) w q r1 = X at h3 h4 h5
        have hl := hc_len k0 k2 k5 X.2 y
        refine ⟨Ev.step (fun k => spec_rootsIn.f.eq_2 _ _ _ _ _ _ _ _ _ _ _ _ _) ?_, by rw [tot_append]; dsimp only; omega, by rw [tot_append]; dsimp only; omega⟩
        have hlen : (q ++ [y]).length = q.length + 1 := by simp
        have e1 : wrap64 (((q.length + 1 : Nat) : Int) - 1) = (q.length : Int) := by unfold wrap64; rw [hlen] at hP1; omega
        have e2 : (q ++ [y]).take q.length = q := List.take_left' rfl
        have e3 : rd_L1 (q ++ [y]) (q.length : Int) = y := by unfold rd_L1; rw [toNat_cast]; exact getD_len [] q y []
        simp only [if_neg hne, w1]
        refine Ev.bind (split_ev n h2 (by omega)) ?_
        simp only [hlen]
        simp only [w2, if_pos (show ((b + s : Nat) : Int) ≤ ((b + sp n : Nat) : Int) by omega), e1, toNat_cast, e2, e3, if_pos (show 0 ≤ (q.length : Int) by omega), if_pos (show (q.length : Int) ≤ ((q.length + 1 : Nat) : Int) by omega), if_pos (show (q.length : Int) < ((q.length + 1 : Nat) : Int) by omega)]
        refine Ev.bind h3 ?_
        exact Ev.bind (shash_ev k0 k1 k2 k3 k4 k5 X.2 y (by omega)) (Ev.now _)
      · rw [proofP_hi hne2 h2 (by omega), List.length_append, List.length_singleton] at hP
        obtain ⟨q, y, rfl, hq⟩ := snoc_of P _ hP
        rw [tot_append] at hs
        have ht : tot [y] = y.length + 9 := rfl
        have e4 : b + sp n + (s - sp n) = b + s := by omega
        have e5 : b + sp n + (n - sp n) = b + n := by omega
        obtain ⟨h3, h4, h5⟩ := ih (n - sp n) (by omega) (s - sp n) (b + sp n) false q (by omega) (by omega) (by omega) (by rw [e4]; exact hq) (by rw [List.length_append] at hP1; omega) (by omega)
        rw [e4] at h3 h4 h5
        rw [e5] at h3
        rw [rootsP_hi _ _ q y r1 hne2 h2 (by omega)]
        generalize rootsP (hc k0 k2 k5) [] (b + s) (b + sp n) (n - sp n) false q r1 = X at h3 h4 h5
        have hl1 := hc_len k0 k2 k5 y X.1
        have hl2 := hc_len k0 k2 k5 y X.2
        refine ⟨Ev.step (fun k => spec_rootsIn.f.eq_2 _ _ _ _ _ _ _ _ _ _ _ _ _) ?_, by rw [tot_append]; dsimp only; omega, by rw [tot_append]; dsimp only; omega⟩
        have hlen : (q ++ [y]).length = q.length + 1 := by simp
        have e1 : wrap64 (((q.length + 1 : Nat) : Int) - 1) = (q.length : Int) := by unfold wrap64; rw [hlen] at hP1; omega
        have e2 : (q ++ [y]).take q.length = q := List.take_left' rfl
        have e3 : rd_L1 (q ++ [y]) (q.length : Int) = y := by unfold rd_L1; rw [toNat_cast]; exact getD_len [] q y []
        simp only [if_neg hne, w1]
        refine Ev.bind (split_ev n h2 (by omega)) ?_
        simp only [hlen]
        simp only [w2, if_neg (show ¬ ((b + s : Nat) : Int) ≤ ((b + sp n : Nat) : Int) by omega), e1, toNat_cast, e2, e3, if_pos (show 0 ≤ (q.length : Int) by omega), if_pos (show (q.length : Int) ≤ ((q.length + 1 : Nat) : Int) by omega), if_pos (show (q.length : Int) < ((q.length + 1 : Nat) : Int) by omega)]
        refine Ev.bind h3 ?_
        exact Ev.bind (shash_ev k0 k1 k2 k3 k4 k5 y X.1 (by omega)) (Ev.bind (shash_ev k0 k1 k2 k3 k4 k5 y X.2 (by omega)) (Ev.now _))
theorem rootsFrom_ev (s n : Nat) (h0 : 0 < s) (h1 : s ≤ n) (hn : n < 18446744073709551616) (P : List (List Int)) (r1 : List Int) (hP : P.length = (proofP s 0 n true).length) (hs : r1.length + tot P ≤ 70368744177664) :
    Ev (fun k => spec_RootsFromProof.f k k0 k1 k2 k3 k4 k5 (s : Int) (n : Int) P r1) (rootsP (hc k0 k2 k5) [] s 0 n true P r1) ∧ (rootsP (hc k0 k2 k5) [] s 0 n true P r1).1.length ≤ r1.length + tot P ∧ (rootsP (hc k0 k2 k5) [] s 0 n true P r1).2.length ≤ r1.length + tot P := by
  have h2 := proofP_len_le n s 0 true h0 h1 hn
  rw [Nat.zero_add] at h2
  have h := rootsIn_ev k0 k1 k2 k3 k4 k5 r1 n s 0 true P h0 h1 (by omega) (by rw [Nat.zero_add]; exact hP) (by omega) hs
  simp only [Nat.zero_add] at h
  unfold spec_RootsFromProof.f
  exact ⟨Ev.bind h.1 (Ev.now _), h.2⟩
theorem right_loop (i : Nat) (hi : i < 18446744073709551616) (P : List (List Int)) (hP : P.length ≤ 9223372036854775806) : ∀ (rest pre : List (List Int)) (s : List Int), P = pre ++ rest → s.length + tot rest ≤ 70368744177664 →
    Ev (fun k => proof_chainInnerRight.l0 k s (i : Int) P (P.length : Int) (pre.length : Int) k0 k1 k2 k3 k4 k5) (chR (hc k0 k2 k5) i pre.length s rest)
  | [], pre, s, h, _ => by
    refine Ev.step (fun k => proof_chainInnerRight.l0.eq_2 _ _ _ _ _ _ _ _ _ _ _ _) ?_
    rw [List.append_nil] at h
    subst h
    simp only [if_neg (show ¬ (P.length : Int) < (P.length : Int) by omega), chR]
    exact Ev.now _
  | c :: rest, pre, s, h, hs => by
    refine Ev.step (fun k => proof_chainInnerRight.l0.eq_2 _ _ _ _ _ _ _ _ _ _ _ _) ?_
    rw [tot_cons] at hs
    have hlen : P.length = pre.length + (rest.length + 1) := by rw [h, List.length_append, List.length_cons]
    have hy : P.getD pre.length [] = c := by rw [h]; exact getD_len [] pre c rest
    have e1 : IntKind.u64.wrap ((pre.length : Nat) : Int) = (pre.length : Int) := u64_nat _ (by omega)
    have ih := fun s' (hs' : s'.length + tot rest ≤ 70368744177664) => right_loop i hi P hP rest (pre ++ [c]) s' (by rw [h, List.append_assoc]; rfl) hs'
    simp only [List.length_append, List.length_singleton] at ih
    have hb := bit_test i pre.length hi (by omega)
    rw [e1] at hb
    unfold rd_L1
    simp only [toNat_cast, hy, e1, hb, if_pos (show (pre.length : Int) < (P.length : Int) by omega), if_pos (show 0 ≤ (pre.length : Int) by omega), wrap_nat pre.length (by omega), chR]
    by_cases hbit : i / 2 ^ pre.length % 2 = 1
    · have hbit2 : (((i / 2 ^ pre.length % 2 : Nat) : Int) = 1) := by omega
      simp only [if_pos hbit, if_pos hbit2]
      have := hc_len k0 k2 k5 c s
      exact Ev.bind (hash_ev k0 k1 k2 k3 k4 k5 c s (by omega)) (ih _ (by omega))
    · have hbit2 : ¬ (((i / 2 ^ pre.length % 2 : Nat) : Int) = 1) := by omega
      simp only [if_neg hbit, if_neg hbit2]
      exact ih _ (by omega)
theorem right_ev (i : Nat) (hi : i < 18446744073709551616) (P : List (List Int)) (hP : P.length ≤ 9223372036854775806) (s : List Int) (hs : s.length + tot P ≤ 70368744177664) :
    Ev (fun k => proof_chainInnerRight.f k k0 k1 k2 k3 k4 k5 s P (i : Int)) (chR (hc k0 k2 k5) i 0 s P) := right_loop k0 k1 k2 k3 k4 k5 i hi P hP P [] s rfl hs
theorem chR_len (i : Nat) : ∀ (P : List (List Int)) (j : Nat) (s : List Int), (chR (hc k0 k2 k5) i j s P).length ≤ s.length + tot P
  | [], j, s => by simp [chR]
  | a :: P, j, s => by
    simp only [chR]
    rw [tot_cons]
    refine Nat.le_trans (chR_len i P (j + 1) _) ?_
    split
    · have := hc_len k0 k2 k5 a s; omega
    · omega
theorem chB_len : ∀ (P : List (List Int)) (s : List Int), (chB (hc k0 k2 k5) s P).length ≤ s.length + tot P
  | [], s => by simp [chB]
  | a :: P, s => by
    simp only [chB]
    rw [tot_cons]
    refine Nat.le_trans (chB_len P _) ?_
    have := hc_len k0 k2 k5 a s
    omega
end
end Go.Proofs.YtkmdkmlgahfcpaaDoor.Log
