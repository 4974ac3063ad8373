/- FnTreesTell: the printed law is true. -/
import Derived.Test.YtkmdkmlgahfcpaaDoorTell
import Derived.Lib.Bytes
namespace Go.Proofs.YtkmdkmlgahfcpaaDoor.M
open Go Go.RowKit Go.Proofs.YtkmdkmlgahfcpaaDoor.Log Go.Proofs.YtkmdkmlgahfcpaaDoor.Nodes Go.Proofs.YtkmdkmlgahfcpaaDoor.Ranges Go.Proofs.YtkmdkmlgahfcpaaDoorW.PrintMore Go.Proofs.YtkmdkmlgahfcpaaDoorW.PrintWords Go.Proofs.YtkmdkmlgahfcpaaDoorW.PrintLast
set_option linter.unusedVariables false
set_option linter.unusedSimpArgs false
theorem str_inj : ∀ {a b : List Int}, Byt a → Byt b → (strOfNums a).toList = (strOfNums b).toList → a = b := by
  intro a b ha hb h
  rw [Lib.strOfNums_toList, Lib.strOfNums_toList] at h
  unfold Lib.bytesOf at h
  induction a generalizing b with
  | nil =>
    cases b with
    | nil => rfl
    | cons y b => simp at h
  | cons x a ih =>
    cases b with
    | nil => simp at h
    | cons y b =>
      simp only [List.map_cons, List.cons.injEq] at h
      have h1 := ha x (List.mem_cons_self ..)
      have h2 := hb y (List.mem_cons_self ..)
      have h3 := congrArg UInt8.toNat h.1
      simp only [UInt8.toNat_ofNat'] at h3
      have e : x = y := by omega
      rw [e, ih (fun z hz => ha z (List.mem_cons_of_mem _ hz)) (fun z hz => hb z (List.mem_cons_of_mem _ hz)) h.2]
theorem same_loop (L M : List (List Int)) (hlen : L.length = M.length) (hL : ∀ r ∈ L, Byt r) (hM : ∀ r ∈ M, Byt r) (hb : L.length ≤ 2147483647) : ∀ d i, i + d = L.length → 
    ∃ r : Bool, Ev (fun k => spec_Same.l0 k L M (L.length : Int) (i : Int)) r ∧ (r = true ↔ L.drop i = M.drop i)
  | 0, i, h => by
    refine ⟨true, Ev.step (fun k => spec_Same.l0.eq_2 _ _ _ _ _) ?_, ?_⟩
    · simp only [if_neg (show ¬ (i : Int) < (L.length : Int) by omega)]
      exact Ev.now _
    · rw [List.drop_of_length_le (by omega), List.drop_of_length_le (by omega)]
      simp
  | d + 1, i, h => by
    have hi : i < L.length := by omega
    have hi2 : i < M.length := by omega
    have e1 : rd_L1 L (i : Int) = L[i] := by unfold rd_L1; simp [hi]
    have e2 : rd_L1 M (i : Int) = M[i] := by unfold rd_L1; simp [hi2]
    have d1 : L.drop i = L[i] :: L.drop (i + 1) := List.drop_eq_getElem_cons hi
    have d2 : M.drop i = M[i] :: M.drop (i + 1) := List.drop_eq_getElem_cons hi2
    by_cases hc : (strOfNums L[i]).toList = (strOfNums M[i]).toList
    · obtain ⟨r, hr, hi3⟩ := same_loop L M hlen hL hM hb d (i + 1) (by omega)
      refine ⟨r, Ev.step (fun k => spec_Same.l0.eq_2 _ _ _ _ _) ?_, ?_⟩
      · simp only [if_pos (show (i : Int) < (L.length : Int) by omega), if_pos (show (0 : Int) ≤ (i : Int) by omega), if_pos (show (i : Int) < (M.length : Int) by omega), e1, e2, if_pos hc, wrap_nat i (by omega)]
        exact hr
      · have := str_inj (hL _ (List.getElem_mem hi)) (hM _ (List.getElem_mem hi2)) hc
        rw [hi3, d1, d2, this]
        exact ⟨fun h => by rw [h], fun h => (List.cons.inj h).2⟩
    · refine ⟨false, Ev.step (fun k => spec_Same.l0.eq_2 _ _ _ _ _) ?_, ?_⟩
      · simp only [if_pos (show (i : Int) < (L.length : Int) by omega), if_pos (show (0 : Int) ≤ (i : Int) by omega), if_pos (show (i : Int) < (M.length : Int) by omega), e1, e2, if_neg hc]
        exact Ev.now _
      · rw [d1, d2]
        constructor
        · intro h; cases h
        · intro h
          injection h with h _
          rw [h] at hc
          exact absurd rfl hc
theorem same_ev (L M : List (List Int)) (hL : ∀ r ∈ L, Byt r) (hM : ∀ r ∈ M, Byt r) (hb : L.length ≤ 2147483647) : ∃ r : Bool, Ev (fun k => spec_Same.f k L M) r ∧ (r = true ↔ L = M) := by
  unfold spec_Same.f
  by_cases h : (L.length : Int) = (M.length : Int)
  · obtain ⟨r, hr, hi⟩ := same_loop L M (by omega) hL hM hb L.length 0 (by omega)
    refine ⟨r, ?_, by simpa using hi⟩
    simp only [if_pos h]
    exact hr
  · refine ⟨false, by simp only [if_neg h]; exact Ev.now _, ?_⟩
    constructor
    · intro h; cases h
    · intro e
      rw [e] at h
      exact absurd rfl h
theorem bool_eq {a b : Bool} (h : a = true ↔ b = true) : (a == b) = true := by
  cases a <;> cases b <;> simp_all
variable {k0 k1 k2 k3 k4 k5 : Int}
theorem Lf_byt (l : List (List Int)) (h : ∀ r ∈ l, Byt r) (i : Nat) : Byt (Lf l i) := by
  unfold Lf
  rw [List.getD_eq_getElem?_getD]
  cases e : l[i]? with
  | none => intro y hy; simp at hy
  | some r => exact h r (List.mem_of_getElem? e)
theorem Lf_ext {l m : List (List Int)} (hlen : l.length = m.length) (h : ∀ i, i < l.length → Lf l i = Lf m i) : l = m := by
  apply List.ext_getElem hlen
  intro i h1 h2
  have := h i h1
  unfold Lf at this
  simpa [List.getD_eq_getElem?_getD, h1, h2] using this
theorem tt_j0 (l m : List (List Int)) : Ev (fun k => laws_FnTreesTell.j0 k l m true k0 k1 k2 k3 k4 k5) true := by
  refine Ev.step (fun k => laws_FnTreesTell.j0.eq_2 _ _ _ _ _ _ _ _ _ _) ?_
  simp only [if_true]
  exact Ev.now _
theorem tt_j1 (l m : List (List Int)) : Ev (fun k => laws_FnTreesTell.j1 k l m true k0 k1 k2 k3 k4 k5) true := by
  refine Ev.step (fun k => laws_FnTreesTell.j1.eq_2 _ _ _ _ _ _ _ _ _ _) ?_
  simp only [if_true]
  exact Ev.now _
theorem treesTell_ev (l m : List (List Int)) (hbl : ∀ r ∈ l, ∀ y ∈ r, 0 ≤ y ∧ y < 256) (hbm : ∀ r ∈ m, ∀ y ∈ r, 0 ≤ y ∧ y < 256) : Ev (fun k => laws_FnTreesTell.f k k0 k1 k2 k3 k4 k5 l m) true := by
  have hf : ¬ (false = true) := by decide
  unfold laws_FnTreesTell.f
  obtain ⟨r1, h1, f1⟩ := fits_ev l
  refine Ev.bind h1 ?_
  cases r1 with
  | false => simp only [if_neg hf]; exact tt_j0 l m
  | true =>
  obtain ⟨r2, h2, f2⟩ := fits_ev m
  simp only [if_true]
  refine Ev.bind h2 ?_
  cases r2 with
  | false => exact tt_j0 l m
  | true =>
  refine Ev.step (fun k => laws_FnTreesTell.j0.eq_2 _ _ _ _ _ _ _ _ _ _) ?_
  unfold spec_Terms.f
  simp only [Bool.not_true, if_neg hf, Option.bind_some]
  by_cases h0 : k0 = 1
  · simp only [show (k0 != 1) = false by rw [h0]; rfl, if_neg hf]
    exact tt_j1 l m
  · simp only [show (k0 != 1) = true by rw [bne_iff_ne]; exact h0, if_true]
    obtain ⟨s1, h3, g1⟩ := small_ev l (f1 rfl).1
    refine Ev.bind h3 ?_
    cases s1 with
    | false => simp only [if_neg hf]; exact tt_j1 l m
    | true =>
    obtain ⟨s2, h4, g2⟩ := small_ev m (f2 rfl).1
    simp only [if_true]
    refine Ev.bind h4 ?_
    cases s2 with
    | false => simp only [if_neg hf]; exact tt_j1 l m
    | true =>
    simp only [if_true]
    have hs1 := g1 rfl
    have hs2 := g2 rfl
    by_cases hlen : (l.length : Int) = (m.length : Int)
    · simp only [if_pos hlen]
      by_cases hz : l.length = 0
      · rw [show ((l.length : Int) == 0) = true by rw [beq_iff_eq]; omega]
        exact tt_j1 l m
      · rw [show ((l.length : Int) == 0) = false by rw [beq_eq_false_iff_ne]; omega]
        refine Ev.step (fun k => laws_FnTreesTell.j1.eq_2 _ _ _ _ _ _ _ _ _ _) ?_
        simp only [if_neg hf]
        have hl1 := hs1.1
        have hl2 := hs2.1
        have hR1 := treeRoot_ev (k0 := k0) (k1 := k1) (k2 := k2) (k3 := k3) (k4 := k4) (k5 := k5) l 5000 hs1.2 (by omega) (by omega) (by omega) (by omega)
        have hR2 := treeRoot_ev (k0 := k0) (k1 := k1) (k2 := k2) (k3 := k3) (k4 := k4) (k5 := k5) m 5000 hs2.2 (by omega) (by omega) (by omega) (by omega)
        have hB1 := mth_byt (k0 := k0) (k2 := k2) (k5 := k5) (Lf l) (Lf_byt l hbl) l.length 0
        have hB2 := mth_byt (k0 := k0) (k2 := k2) (k5 := k5) (Lf m) (Lf_byt m hbm) m.length 0
        have hinj := mth_inj (k2 := k2) (k5 := k5) h0 (Lf l) (Lf m) 5000 (Lf_len l 5000 hs1.2) (Lf_len m 5000 hs2.2) l.length 0 0 (by omega) (by omega)
        have hmm : m.length = l.length := by omega
        rw [hmm] at hB2 hR2
        have hiff : (strOfNums (mth (hc k0 k2 k5) (Lf l) 0 l.length)).toList = (strOfNums (mth (hc k0 k2 k5) (Lf m) 0 l.length)).toList ↔ l = m := by
          constructor
          · intro h
            refine Lf_ext hmm.symm (fun i hi => ?_)
            have := hinj (str_inj hB1 hB2 h) i hi
            simpa using this
          · intro h; rw [h]
        clear hinj
        rw [hmm]
        generalize mth (hc k0 k2 k5) (Lf l) 0 l.length = A at hR1 hB1 hiff
        generalize mth (hc k0 k2 k5) (Lf m) 0 l.length = B at hR2 hB2 hiff
        refine Ev.bind hR1 (Ev.bind hR2 ?_)
        dsimp only
        simp only [if_true]
        unfold spec_SameText.f
        simp only [Option.bind_some]
        obtain ⟨r, hr, hri⟩ := same_ev l m hbl hbm (by omega)
        refine Ev.bind hr ?_
        have e : ((strOfNums A).toList == (strOfNums B).toList) == r := bool_eq (by rw [beq_iff_eq, hiff, hri])
        refine Ev.congr (f := fun _ => some true) (fun _ => by rw [e]) (Ev.now true)
    · simp only [if_neg hlen]
      exact tt_j1 l m
end Go.Proofs.YtkmdkmlgahfcpaaDoor.M
