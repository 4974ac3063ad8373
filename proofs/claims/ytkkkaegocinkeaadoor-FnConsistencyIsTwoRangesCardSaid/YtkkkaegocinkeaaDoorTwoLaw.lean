/- FnConsistencyIsTwoRanges in plain numbers: the printed law answers true. -/
import Derived.Test.YtkkkaegocinkeaaDoorNodesF
namespace Go.Proofs.YtkkkaegocinkeaaDoor.Ranges
open Go Go.RowKit Go.Proofs.YtkkkaegocinkeaaDoor.M Go.Proofs.YtkkkaegocinkeaaDoorW.PrintWords Go.Proofs.YtkkkaegocinkeaaDoorW.PrintLast Go.Proofs.YtkkkaegocinkeaaDoorW.PrintMore Go.Proofs.YtkkkaegocinkeaaDoor.Nodes
set_option linter.unusedVariables false
set_option linter.unusedSimpArgs false

theorem has_node (n : S28) (rest : List S28) : ∀ (pre : List S28), pre.length + rest.length < 1000000 → n ∈ rest →
    Ev (fun k => spec_HasNode.l0 k (pre ++ rest) ((pre ++ rest).length : Int) (pre.length : Int) n.f0 n.f1) true := by
  induction rest with
  | nil => intro pre _ h; cases h
  | cons m rest ih =>
    intro pre h hm
    simp only [List.length_cons] at h
    refine Ev.step (fun k => spec_HasNode.l0.eq_2 _ _ _ _ _ _) ?_
    have hlen : ((pre ++ m :: rest).length : Int) = ((pre.length + rest.length + 1 : Nat) : Int) := by simp; omega
    have hrd : rd_T28 (pre ++ m :: rest) (pre.length : Int) = m := rd_mid _ pre m rest
    simp only [hlen, hrd, if_pos (show (pre.length : Int) < ((pre.length + rest.length + 1 : Nat) : Int) by omega), if_pos (show (0 : Int) ≤ (pre.length : Int) by omega), wrap_nat pre.length (by omega)]
    by_cases hq : (m.f0 == n.f0 && m.f1 == n.f1) = true
    · simp only [if_pos hq]
      exact Ev.now _
    · simp only [if_neg hq]
      have hne : n ≠ m := by
        rintro rfl
        exact hq (by simp)
      have := ih (pre ++ [m]) (by simp; omega) ((List.mem_cons.1 hm).resolve_left hne)
      have e1 : pre ++ [m] ++ rest = pre ++ m :: rest := by simp
      rw [e1, hlen, List.length_append] at this
      exact this
theorem hasNode_ev (n : S28) (l : List S28) (hl : l.length < 100000) (hn : n ∈ l) : Ev (fun k => spec_HasNode.f k l n.f0 n.f1) true := by
  have := has_node n l [] (by simpa using (by omega)) hn
  simpa [spec_HasNode.f] using this

variable (W I : List S28) (b e x y : Int)
theorem law_l1 (hW : W.length < 10000) (hI : I.length = W.length) (hs : ∀ n ∈ W, n ∈ I) (rest : List S28) : ∀ (pre : List S28), W = pre ++ rest →
    Ev (fun k => laws_FnConsistencyIsTwoRanges.l1 k true W (W.length : Int) (pre.length : Int) I b e x y) true := by
  induction rest with
  | nil =>
    intro pre h
    refine Ev.step (fun k => laws_FnConsistencyIsTwoRanges.l1.eq_2 _ _ _ _ _ _ _ _ _ _) ?_
    rw [List.append_nil] at h
    subst h
    simp only [if_neg (show ¬ ((W.length : Int) < (W.length : Int)) by omega), if_true, hI, beq_self_eq_true]
    exact Ev.now _
  | cons m rest ih =>
    intro pre h
    have hlen : W.length = pre.length + rest.length + 1 := by rw [h]; simp; omega
    have hrd : rd_T28 W (pre.length : Int) = m := by rw [h]; exact rd_mid _ pre m rest
    refine Ev.step (fun k => laws_FnConsistencyIsTwoRanges.l1.eq_2 _ _ _ _ _ _ _ _ _ _) ?_
    simp only [hrd, if_pos (show (pre.length : Int) < (W.length : Int) by omega), if_pos (show (0 : Int) ≤ (pre.length : Int) by omega), wrap_nat pre.length (by omega)]
    refine Ev.bind (hasNode_ev m I (by omega) (hs m (by rw [h]; simp))) ?_
    have := ih (pre ++ [m]) (by rw [h]; simp)
    rw [List.length_append] at this
    simpa using this
theorem law_l0 (hW : W.length < 10000) (hI : I.length = W.length) (hs : ∀ n ∈ W, n ∈ I) (hr : ∀ n ∈ I, n ∈ W) (rest : List S28) : ∀ (pre : List S28), I = pre ++ rest →
    Ev (fun k => laws_FnConsistencyIsTwoRanges.l0 k true W I (I.length : Int) (pre.length : Int) I b e x y) true := by
  induction rest with
  | nil =>
    intro pre h
    refine Ev.step (fun k => laws_FnConsistencyIsTwoRanges.l0.eq_2 _ _ _ _ _ _ _ _ _ _ _) ?_
    rw [List.append_nil] at h
    subst h
    simp only [if_neg (show ¬ ((I.length : Int) < (I.length : Int)) by omega)]
    exact law_l1 W I b e x y hW hI hs W [] rfl
  | cons m rest ih =>
    intro pre h
    have hlen : I.length = pre.length + rest.length + 1 := by rw [h]; simp; omega
    have hrd : rd_T28 I (pre.length : Int) = m := by rw [h]; exact rd_mid _ pre m rest
    refine Ev.step (fun k => laws_FnConsistencyIsTwoRanges.l0.eq_2 _ _ _ _ _ _ _ _ _ _ _) ?_
    simp only [hrd, if_pos (show (pre.length : Int) < (I.length : Int) by omega), if_pos (show (0 : Int) ≤ (pre.length : Int) by omega), wrap_nat pre.length (by omega)]
    refine Ev.bind (hasNode_ev m W (by omega) (hr m (by rw [h]; simp))) ?_
    have := ih (pre ++ [m]) (by rw [h]; simp)
    rw [List.length_append] at this
    simpa using this

/-- What impl.Consistency hands back. -/
theorem consistency_ev (s n : Nat) (hs0 : 0 < s) (hsn : s < n) (hn : n < 2 ^ 64) : ∃ (IDs L1 L2 : List (Nat × Nat)) (b e x y : Int), G 0 s L1 ∧ G s n L2 ∧ IDs.length ≤ 1000 ∧
    IDs.Perm ((if L1.length = 1 then [] else L1) ++ L2) ∧ Ev (fun k => impl_Consistency.f k (s : Int) (n : Int)) (IDs.map im, b, e, x, y, true) := by
  obtain ⟨q, hq, ht⟩ := ctz_low s (by omega) (by omega)
  have hz := tz64 s (by omega)
  generalize Lib.ctz 64 s = t at *
  have hpt := pow_pos t
  have es : s = 2 ^ t * (2 * q) + 2 ^ t := by rw [hq, Nat.mul_add, Nat.mul_one]
  have e0 : (s - 1) / 2 ^ t = 2 * q := by
    rw [Nat.div_eq_of_lt_le]
    · rw [Nat.mul_comm]; omega
    · rw [Nat.mul_comm, Nat.mul_add, Nat.mul_one]; omega
  have hX : 2 * q < n / 2 ^ t := by
    apply (Nat.le_div_iff_mul_le hpt).2
    rw [Nat.succ_mul, Nat.mul_comm]
    omega
  obtain ⟨d, Nl, Nr, hb, htd, hfq, hev, hGl, hGr, hle, hNl, hNr, hE⟩ := nodes_ev (2 * q) t n ht hn hX
  obtain ⟨L1, hG1, hL1, _⟩ := range_nodes 0 s (by omega) (by omega) [] (by simp)
  obtain ⟨L2, hG2, hL2, _⟩ := range_nodes s n (by omega) hn [] (by simp)
  obtain ⟨hA, hB⟩ := two_ranges (t := t) (q := q) (n := n) (d := d) (by rw [← hq]; exact hsn) hfq hev hGl hGr (by rw [← hq]; exact hG1) (by rw [← hq]; exact hG2)
  have hperm : (sf t (2 * q) d ++ [(t, 2 * q)] ++ Nr).Perm (lfF t (2 * q) d [(t, 2 * q)] ++ L2) := by
    rw [hB]; exact sf_perm Nr d t (2 * q) [(t, 2 * q)]
  have hsl := sf_len d t (2 * q)
  have hall : (pathIDs (2 * q) t d Nl Nr).Perm (L1 ++ L2) := by
    rw [hA, List.append_assoc]
    refine List.Perm.trans ?_ (List.Perm.append_left Nl hperm)
    unfold pathIDs
    have p1 : (Nl ++ (sf t (2 * q) d ++ [(t, 2 * q)] ++ Nr)).Perm ((sf t (2 * q) d ++ [(t, 2 * q)] ++ Nr) ++ Nl) := List.perm_append_comm
    refine List.Perm.trans ?_ p1.symm
    have p2 : (sf t (2 * q) d ++ Nr.reverse ++ Nl.reverse).Perm (sf t (2 * q) d ++ Nr ++ Nl) :=
      List.Perm.append (List.Perm.append (List.Perm.refl _) (List.reverse_perm _)) (List.reverse_perm _)
    refine (List.Perm.cons _ p2).trans ?_
    have e5 : sf t (2 * q) d ++ [(t, 2 * q)] ++ Nr ++ Nl = sf t (2 * q) d ++ (t, 2 * q) :: (Nr ++ Nl) := by simp
    rw [e5]
    refine List.Perm.trans ?_ List.perm_middle.symm
    simp only [List.append_assoc]
    exact List.Perm.refl _
  have hlen1 : (lfF t (2 * q) d [(t, 2 * q)]).length + (rgF t (2 * q) d Nr).length = d + 1 + Nr.length := by
    have := hperm.length_eq
    rw [hB] at this
    simp only [List.length_append, List.length_cons, List.length_nil, hsl] at this
    omega
  have c0 : IntKind.u64.wrap ((s : Int) - 1) = ((s - 1 : Nat) : Int) := by rw [show ((s : Int) - 1) = ((s - 1 : Nat) : Int) by omega]; exact u64_nat _ (by omega)
  have c1 : IntKind.u64.wrap ((t : Int)) = (t : Int) := u64_nat t (by omega)
  have c2 : shr .u64 ((s - 1 : Nat) : Int) (t : Int) = ((2 * q : Nat) : Int) := by rw [shr_u64 _ _ (by omega), e0]
  generalize hb1 : (if Nr = [] then (0 : Int) else ((d + 1 : Nat) : Int)) = B1 at hE
  generalize hb2 : (if Nr = [] then (0 : Int) else ((d + 1 + Nr.length : Nat) : Int)) = B2 at hE
  have hplen : (pathIDs (2 * q) t d Nl Nr).length ≤ 1000 := by
    unfold pathIDs
    simp only [List.length_cons, List.length_append, List.length_reverse, hsl]
    omega
  by_cases hq0 : q = 0
  · subst hq0
    have hd0 : 0 / 2 ^ d * 2 ^ (t + d) = 0 := by rw [Nat.zero_div, Nat.zero_mul]
    have hNl0 : Nl = [] := by
      apply hGl.empty.2
      rw [Nat.mul_zero, hd0]
    have hlf : ∀ (m l : Nat) (M : List (Nat × Nat)), lfF l 0 m M = M := by
      intro m
      induction m with
      | zero => intro l M; rfl
      | succ m ih => intro l M; rw [lfF, if_neg (by omega)]; exact ih _ _
    have h1 : L1 = [(t, 0)] := by rw [hA, hNl0, hlf]; rfl
    have hskip : ∃ B3 B4, proof_Nodes_skipFirst.f ((pathIDs (2 * 0) t d Nl Nr).map cn) B1 B2 ((t + d : Nat) : Int) ((2 * 0 / 2 ^ d + 1 : Nat) : Int) = some ((sf t 0 d ++ Nr.reverse ++ Nl.reverse).map cn, B3, B4, ((t + d : Nat) : Int), ((2 * 0 / 2 ^ d + 1 : Nat) : Int)) := by
      unfold proof_Nodes_skipFirst.f pathIDs
      rw [if_pos (by simp; omega)]
      simp only [Option.bind_some, List.map_cons, List.drop_succ_cons, List.drop_zero]
      by_cases hc : B1 < B2
      · rw [if_pos hc]; exact ⟨_, _, rfl⟩
      · rw [if_neg hc]; exact ⟨_, _, rfl⟩
    obtain ⟨B3, B4, hskip⟩ := hskip
    refine ⟨sf t 0 d ++ Nr.reverse ++ Nl.reverse, L1, L2, ((t + d : Nat) : Int), ((2 * 0 / 2 ^ d + 1 : Nat) : Int), B3, B4, hG1, hG2, ?_, ?_, ?_⟩
    · unfold pathIDs at hplen; simp only [List.length_cons] at hplen; simp only [List.length_append, List.length_reverse] at hplen ⊢
      simp only [Nat.mul_zero] at hplen; omega
    · have hp2 := hall
      unfold pathIDs at hp2
      rw [h1] at hp2
      rw [h1, if_pos (show [(t, 0)].length = 1 from rfl), List.nil_append]
      exact (List.perm_cons _).1 hp2
    · unfold impl_Consistency.f proof_Consistency.f
      have hc : ((s : Int) == 0) = false := by rw [beq_eq_false_iff_ne]; omega
      simp only [if_neg (show ¬ ((s : Int) > (n : Int)) by omega), if_neg (show ¬ ((s : Int) = (n : Int)) by omega), hc]
      refine Ev.bind (a := ((sf t 0 d ++ Nr.reverse ++ Nl.reverse).map cn, B3, B4, ((t + d : Nat) : Int), ((2 * 0 / 2 ^ d + 1 : Nat) : Int), none)) ?_ ?_
      · refine Ev.step (fun k => proof_Consistency.j0.eq_2 _ _ _ _) ?_
        simp only [Bool.false_eq_true, if_false, hz, Option.bind_some, c0, c1, c2, if_pos (show (0 : Int) ≤ (t : Int) by omega)]
        refine Ev.bind hE ?_
        dsimp only
        rw [if_pos (by omega), hskip]
        exact Ev.now _
      · simp only [Option.isNone_none, if_true]
        unfold impl_fromProof.f proof_Nodes_Ephem.f impl_fromNode.f
        simp only [Option.bind_some]
        refine Ev.bind (a := ((sf t 0 d ++ Nr.reverse ++ Nl.reverse).map im, ((t + d : Nat) : Int), ((2 * 0 / 2 ^ d + 1 : Nat) : Int), B3, B4)) ?_ (Ev.now _)
        refine Ev.bind (fromNodes_ev (sf t 0 d ++ Nr.reverse ++ Nl.reverse) ?_) (Ev.now _)
        unfold pathIDs at hplen; simp only [List.length_cons] at hplen; simp only [List.length_append, List.length_reverse] at hplen ⊢
        simp only [Nat.mul_zero] at hplen; omega
  · refine ⟨pathIDs (2 * q) t d Nl Nr, L1, L2, ((t + d : Nat) : Int), ((2 * q / 2 ^ d + 1 : Nat) : Int), B1, B2, hG1, hG2, hplen, ?_, ?_⟩
    · rw [if_neg ?_]
      · exact hall
      · intro h1
        cases hG1 with
        | nil => cases h1
        | cons _ _ l L hd hle2 hmax tl =>
          have hL : L = [] := by simpa using h1
          subst hL
          have he := tl.empty.1 rfl
          rw [Nat.zero_add] at he
          have h2 : 2 ^ l = 2 ^ t * (2 * q + 1) := by rw [← hq]; exact he
          have htl : t < l := by
            apply Nat.lt_of_not_le
            intro hh
            have := pow_mono hh
            rw [h2] at this
            have : 2 ^ t * 2 ≤ 2 ^ t * (2 * q + 1) := Nat.mul_le_mul_left _ (by omega)
            omega
          obtain ⟨a, ha⟩ := Nat.pow_dvd_pow 2 (show t + 1 ≤ l from htl)
          rw [h2, Nat.pow_succ, Nat.mul_assoc] at ha
          have := Nat.eq_of_mul_eq_mul_left hpt ha
          omega
    · unfold impl_Consistency.f proof_Consistency.f
      have hc : ((s : Int) == 0) = false := by rw [beq_eq_false_iff_ne]; omega
      simp only [if_neg (show ¬ ((s : Int) > (n : Int)) by omega), if_neg (show ¬ ((s : Int) = (n : Int)) by omega), hc]
      refine Ev.bind (a := ((pathIDs (2 * q) t d Nl Nr).map cn, B1, B2, ((t + d : Nat) : Int), ((2 * q / 2 ^ d + 1 : Nat) : Int), none)) ?_ ?_
      · refine Ev.step (fun k => proof_Consistency.j0.eq_2 _ _ _ _) ?_
        simp only [Bool.false_eq_true, if_false, hz, Option.bind_some, c0, c1, c2, if_pos (show (0 : Int) ≤ (t : Int) by omega)]
        refine Ev.bind hE ?_
        dsimp only
        rw [if_neg (by omega)]
        exact Ev.now _
      · simp only [Option.isNone_none, if_true]
        unfold impl_fromProof.f proof_Nodes_Ephem.f impl_fromNode.f
        simp only [Option.bind_some]
        refine Ev.bind (a := ((pathIDs (2 * q) t d Nl Nr).map im, ((t + d : Nat) : Int), ((2 * q / 2 ^ d + 1 : Nat) : Int), B1, B2)) ?_ (Ev.now _)
        exact Ev.bind (fromNodes_ev (pathIDs (2 * q) t d Nl Nr) (by omega)) (Ev.now _)

theorem nat_u64 {a : Int} (h : (Lit.int .u64 a).wf = true) : ∃ n : Nat, a = (n : Int) ∧ n < 2 ^ 64 := by
  have := bounds_u64 h
  exact ⟨a.toNat, by omega, by omega⟩
theorem two_ev (a0 a1 : Int) (h0 : 0 ≤ a0) (h0' : a0 < 18446744073709551616) (h1 : 0 ≤ a1) (h1' : a1 < 18446744073709551616) : Ev (fun k => laws_FnConsistencyIsTwoRanges.f k a0 a1) true := by
  obtain ⟨s, rfl⟩ := Int.eq_ofNat_of_zero_le h0
  obtain ⟨n, rfl⟩ := Int.eq_ofNat_of_zero_le h1
  unfold laws_FnConsistencyIsTwoRanges.f
  by_cases hs : s = 0
  · simp only [if_pos (show (s : Int) = 0 by omega)]
    refine Ev.step (fun k => laws_FnConsistencyIsTwoRanges.j0.eq_2 _ _ _ _) ?_
    simp only [if_true]
    exact Ev.now _
  simp only [if_neg (show ¬ ((s : Int) = 0) by omega)]
  by_cases hsn : s < n
  · have hd : decide ((s : Int) ≥ (n : Int)) = false := by rw [decide_eq_false_iff_not]; omega
    simp only [hd]
    refine Ev.step (fun k => laws_FnConsistencyIsTwoRanges.j0.eq_2 _ _ _ _) ?_
    simp only [Bool.false_eq_true, if_false]
    obtain ⟨IDs, L1, L2, b, e, x, y, hG1, hG2, hl, hp, hE⟩ := consistency_ev s n (by omega) hsn (by omega)
    refine Ev.bind hE ?_
    obtain ⟨L1', hG1', hL1, hE1⟩ := range_nodes 0 s (by omega) (by omega) [] (by simp)
    obtain rfl := hG1'.det hG1
    rw [List.nil_append, List.map_nil, Int.natCast_zero] at hE1
    refine Ev.bind hE1 ?_
    have hfin : ∀ A : List (Nat × Nat), A.length < 10000 → IDs.Perm (A ++ L2) → Ev (fun k => laws_FnConsistencyIsTwoRanges.j1 k (s : Int) (n : Int) true (A.map im) (IDs.map im) b e x y) true := by
      intro A hA hp
      refine Ev.step (fun k => laws_FnConsistencyIsTwoRanges.j1.eq_2 _ _ _ _ _ _ _ _ _ _) ?_
      obtain ⟨L2', hG2', hL2, hE2⟩ := range_nodes s n (by omega) (by omega) A hA
      obtain rfl := hG2'.det hG2
      refine Ev.bind hE2 ?_
      have hpm : (IDs.map im).Perm ((A ++ L2').map im) := hp.map im
      exact law_l0 ((A ++ L2').map im) (IDs.map im) b e x y (by rw [← hpm.length_eq, List.length_map]; omega) hpm.length_eq (fun m hm => hpm.mem_iff.2 hm) (fun m hm => hpm.mem_iff.1 hm) (IDs.map im) [] rfl
    by_cases h1 : L1'.length = 1
    · rw [if_pos h1] at hp
      simp only [if_pos (show (((L1'.map im).length : Nat) : Int) = 1 by rw [List.length_map]; omega)]
      exact hfin [] (by simp) hp
    · rw [if_neg h1] at hp
      simp only [if_neg (show ¬ ((((L1'.map im).length : Nat) : Int) = 1) by rw [List.length_map]; omega)]
      exact hfin L1' (by omega) hp
  · have hd : decide ((s : Int) ≥ (n : Int)) = true := by rw [decide_eq_true_iff]; omega
    simp only [hd]
    refine Ev.step (fun k => laws_FnConsistencyIsTwoRanges.j0.eq_2 _ _ _ _) ?_
    simp only [if_true]
    exact Ev.now _
theorem two_wf (a0 a1 : Int) (w0 : (Lit.int .u64 a0).wf = true) (w1 : (Lit.int .u64 a1).wf = true) : Ev (fun k => laws_FnConsistencyIsTwoRanges.f k a0 a1) true := by
  obtain ⟨n0, rfl, h0⟩ := nat_u64 w0
  obtain ⟨n1, rfl, h1⟩ := nat_u64 w1
  exact two_ev _ _ (by omega) (by omega) (by omega) (by omega)
end Go.Proofs.YtkkkaegocinkeaaDoor.Ranges
