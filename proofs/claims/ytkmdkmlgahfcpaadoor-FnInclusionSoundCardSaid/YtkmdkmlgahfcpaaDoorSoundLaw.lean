/- FnInclusionSound: the printed law is true. -/
import Derived.Test.YtkmdkmlgahfcpaaDoorSpecR
import Derived.Test.YtkmdkmlgahfcpaaDoorVerB
namespace Go.Proofs.YtkmdkmlgahfcpaaDoor.M
open Go Go.RowKit Go.Proofs.YtkmdkmlgahfcpaaDoor.Log Go.Proofs.YtkmdkmlgahfcpaaDoor.Nodes Go.Proofs.YtkmdkmlgahfcpaaDoor.Ranges Go.Proofs.YtkmdkmlgahfcpaaDoorW.PrintMore Go.Proofs.YtkmdkmlgahfcpaaDoorW.PrintWords Go.Proofs.YtkmdkmlgahfcpaaDoorW.PrintLast
set_option linter.unusedVariables false
set_option linter.unusedSimpArgs false
variable {k0 k1 k2 k3 k4 k5 : Int}
theorem rootP_byt (i : Nat) (x : List Int) (hx : Byt x) : ∀ (n b : Nat) (P : List (List Int)), (∀ r ∈ P, Byt r) → P.length = (pathP i b n).length → Byt (rootP (hc k0 k2 k5) [] i b n x P) := by
  intro n
  induction n using Nat.strongRecOn with
  | _ n ih =>
    intro b P hb hP
    by_cases h2 : 2 ≤ n
    · have h3 := sp_lt h2
      have h4 := sp_pos n
      by_cases hi : i < b + sp n
      · rw [pathP_lo h2 hi, List.length_append, List.length_singleton] at hP
        obtain ⟨q, y, rfl, hq⟩ := snoc_of P _ hP
        rw [rootP_lo _ _ x q y h2 hi]
        exact hc_byt _ _ (ih (sp n) h3 b q (fun r hr => hb r (List.mem_append_left _ hr)) hq) (hb y (by simp))
      · rw [pathP_hi h2 hi, List.length_append, List.length_singleton] at hP
        obtain ⟨q, y, rfl, hq⟩ := snoc_of P _ hP
        rw [rootP_hi _ _ x q y h2 hi]
        exact hc_byt _ _ (hb y (by simp)) (ih (n - sp n) (by omega) (b + sp n) q (fun r hr => hb r (List.mem_append_left _ hr)) hq)
    · rw [rootP_one _ _ _ _ _ _ _ (by omega)]
      exact hx
theorem lf_byt (l : List (List Int)) (h : ∀ r ∈ l, Byt r) (i : Nat) : Byt (Lf l i) := by
  unfold Lf
  rw [List.getD_eq_getElem?_getD]
  cases e : l[i]? with
  | none => intro y hy; simp at hy
  | some r => exact h r (List.mem_of_getElem? e)
theorem is_j0 (l : List (List Int)) (a2 : Int) (leaf : List Int) (P : List (List Int)) : Ev (fun k => laws_FnInclusionSound.j0 k l a2 leaf P true k0 k1 k2 k3 k4 k5) true := by
  refine Ev.step (fun k => laws_FnInclusionSound.j0.eq_2 _ _ _ _ _ _ _ _ _ _ _ _) ?_
  simp only [if_true]
  exact Ev.now _
theorem is_j1 (l : List (List Int)) (a2 : Int) (leaf : List Int) (P : List (List Int)) (z : Int) : Ev (fun k => laws_FnInclusionSound.j1 k l a2 leaf P z true k0 k1 k2 k3 k4 k5) true := by
  refine Ev.step (fun k => laws_FnInclusionSound.j1.eq_2 _ _ _ _ _ _ _ _ _ _ _ _ _) ?_
  simp only [if_true]
  exact Ev.now _
set_option maxRecDepth 100000 in
theorem inclSound_ev (l : List (List Int)) (a2 : Int) (w2 : (Lit.int .u64 a2).wf = true) (leaf : List Int) (P : List (List Int)) (hbl : ∀ r ∈ l, ∀ y ∈ r, 0 ≤ y ∧ y < 256) (hbx : ∀ y ∈ leaf, 0 ≤ y ∧ y < 256) (hbP : ∀ r ∈ P, ∀ y ∈ r, 0 ≤ y ∧ y < 256) :
    Ev (fun k => laws_FnInclusionSound.f k k0 k1 k2 k3 k4 k5 l a2 leaf P) true := by
  obtain ⟨i, rfl, hi64⟩ := nat_u64 w2
  have hf : ¬ (false = true) := by decide
  unfold laws_FnInclusionSound.f
  obtain ⟨b1, h1, f1⟩ := fits_ev l
  refine Ev.bind h1 ?_
  cases b1 with
  | false => simp only [if_neg hf]; exact is_j0 _ _ _ _
  | true =>
  simp only [if_true]
  by_cases g1 : (leaf.length : Int) > 2147483647
  · simp only [if_pos g1]; exact is_j0 _ _ _ _
  simp only [if_neg g1]
  obtain ⟨b2, h2, f2⟩ := fits_ev P
  refine Ev.bind h2 ?_
  cases b2 with
  | false => exact is_j0 _ _ _ _
  | true =>
  have hln := (f1 rfl).1
  refine Ev.step (fun k => laws_FnInclusionSound.j0.eq_2 _ _ _ _ _ _ _ _ _ _ _ _) ?_
  unfold spec_Terms.f
  simp only [Bool.not_true, if_neg hf, Option.bind_some, Log.u64_nat l.length (by omega)]
  by_cases h0 : k0 = 1
  · simp only [show (k0 != 1) = false by rw [h0]; rfl, if_neg hf]
    exact is_j1 _ _ _ _ _
  simp only [show (k0 != 1) = true by rw [bne_iff_ne]; exact h0, if_true]
  obtain ⟨b3, h3, f3⟩ := small_ev l (f1 rfl).1
  refine Ev.bind h3 ?_
  cases b3 with
  | false => simp only [if_neg hf]; exact is_j1 _ _ _ _ _
  | true =>
  simp only [if_true]
  obtain ⟨b4, h4, f4⟩ := small_ev P (f2 rfl).1
  refine Ev.bind h4 ?_
  cases b4 with
  | false => simp only [if_neg hf]; exact is_j1 _ _ _ _ _
  | true =>
  simp only [if_true]
  by_cases g2 : (leaf.length : Int) > 5000
  · simp only [if_pos g2]; exact is_j1 _ _ _ _ _
  simp only [if_neg g2]
  by_cases g3 : (i : Int) ≥ (l.length : Int)
  · simp only [if_pos g3]; exact is_j1 _ _ _ _ _
  have hi : i < l.length := by omega
  have er : rd_L1 l (i : Int) = Lf l i := by unfold rd_L1 Lf; rw [toNat_cast]
  simp only [if_neg g3, if_pos (show (0 : Int) ≤ (i : Int) by omega), if_pos (show (i : Int) < (l.length : Int) by omega), er]
  by_cases g4 : ((Lf l i).length : Int) = k1
  · rw [show (((Lf l i).length : Int) != k1) = false by rw [g4]; simp]
    refine Ev.step (fun k => laws_FnInclusionSound.j1.eq_2 _ _ _ _ _ _ _ _ _ _ _ _ _) ?_
    simp only [if_neg hf]
    have hs1 := f3 rfl
    have hs2 := f4 rfl
    have t1 := tot_le 5000 P hs2.2
    have t2 : P.length * (5000 + 9) ≤ 300 * (5000 + 9) := Nat.mul_le_mul_right _ hs2.1
    have t3 : l.length * (5000 + 9) ≤ 300 * (5000 + 9) := Nat.mul_le_mul_right _ hs1.1
    have hR := treeRoot_ev (k0 := k0) (k1 := k1) (k2 := k2) (k3 := k3) (k4 := k4) (k5 := k5) l 5000 hs1.2 (by omega) (by omega) (by omega) (by omega)
    rw [Log.u64_nat l.length (by omega)] at hR
    have hPe := path_ev (k0 := k0) (k1 := k1) (k2 := k2) (k3 := k3) (k4 := k4) (k5 := k5) 5000 l i hi hs1.2 (by omega)
    have hLb := lf_byt l hbl
    have hRb := mth_byt (k0 := k0) (k2 := k2) (k5 := k5) (Lf l) hLb l.length 0
    have hRl := mth_len (k0 := k0) (k2 := k2) (k5 := k5) (Lf l) 5000 (Lf_len l 5000 hs1.2) l.length 0 (by omega)
    have hpl := pathP_len i l.length hi (by omega)
    have hroot := root_path (k0 := k0) (k2 := k2) (k5 := k5) (Lf l) i l.length 0 (by omega) (by omega)
    have hinj := rootP_inj (k2 := k2) (k5 := k5) h0 (Lf l) 5000 (Lf_len l 5000 hs1.2) i leaf l.length 0 P (by omega) (by omega) (by omega) (by omega)
    unfold pathH at hroot hinj
    have hHb : ∀ r ∈ (pathP i 0 l.length).map (fun p => mth (hc k0 k2 k5) (Lf l) p.1 (p.2 - p.1)), Byt r := fun r hr => by
      obtain ⟨p, _, rfl⟩ := List.mem_map.1 hr
      exact mth_byt _ hLb _ _
    have hHl : ((pathP i 0 l.length).map (fun p => mth (hc k0 k2 k5) (Lf l) p.1 (p.2 - p.1))).length = (pathP i 0 l.length).length := List.length_map ..
    generalize (pathP i 0 l.length).map (fun p => mth (hc k0 k2 k5) (Lf l) p.1 (p.2 - p.1)) = H at *
    have hQb := rootP_byt (k0 := k0) (k2 := k2) (k5 := k5) i leaf hbx l.length 0 P hbP
    generalize mth (hc k0 k2 k5) (Lf l) 0 l.length = R at *
    refine Ev.bind hR ?_
    dsimp only
    -- what the verdict is
    have hV : ∃ v : Int × List Int, Ev (fun k => impl_VerifyInclusion.f k k0 k1 k2 k3 k4 k5 (i : Int) (l.length : Int) leaf P R) v ∧ (v.1 = 0 ↔ (leaf = Lf l i ∧ P = H)) := by
      by_cases c1 : (leaf.length : Int) = k1
      · by_cases c2 : P.length = inner i l.length + border i l.length
        · refine ⟨_, verIncl_good k0 k1 k2 k3 k4 k5 i l.length hi (by omega) leaf P R hs2.fit (by omega) (by omega) c1 c2 (by omega), ?_⟩
          have hQ := hQb (by rw [c2, hpl])
          by_cases c3 : same (rootP (hc k0 k2 k5) [] i 0 l.length leaf P) R = true
          · rw [if_pos c3]
            have e := str_inj hQ hRb (by unfold same at c3; exact eq_of_beq c3)
            exact ⟨fun _ => hinj (by rw [c2, hpl]) e, fun _ => rfl⟩
          · rw [if_neg c3]
            refine ⟨(fun h => by cases h), fun h => absurd ?_ c3⟩
            rw [h.1, h.2, hroot]
            unfold same
            exact beq_self_eq_true _
        · refine ⟨_, verIncl_bad k0 k1 k2 k3 k4 k5 i l.length (by omega) (by omega) leaf P R hs2.fit (by omega) (by omega) (.inr (.inr c2)), ⟨(fun h => by cases h), fun h => absurd ?_ c2⟩⟩
          rw [h.2, hHl, hpl]
      · refine ⟨_, verIncl_bad k0 k1 k2 k3 k4 k5 i l.length (by omega) (by omega) leaf P R hs2.fit (by omega) (by omega) (.inr (.inl c1)), ⟨(fun h => by cases h), fun h => absurd ?_ c1⟩⟩
        rw [h.1]
        exact g4
    obtain ⟨v, hv1, hv2⟩ := hV
    refine Ev.bind hv1 ?_
    simp only [if_true, if_pos (show (0 : Int) ≤ (i : Int) by omega), if_pos (show (i : Int) < (l.length : Int) by omega), er]
    unfold spec_SameText.f
    simp only [Option.bind_some]
    by_cases q1 : ((strOfNums leaf).toList == (strOfNums (Lf l i)).toList) = true
    · have e1 := str_inj hbx (hLb i) (eq_of_beq q1)
      simp only [if_pos q1]
      refine Ev.bind hPe ?_
      obtain ⟨r, hr, hri⟩ := same_ev P H hbP hHb (f2 rfl).1
      refine Ev.bind hr ?_
      have e : ((v.1 == 0) == r) = true := bool_eq (by rw [beq_iff_eq, hv2, hri]; exact ⟨fun h => h.2, fun h => ⟨e1, h⟩⟩)
      exact Ev.congr (f := fun _ => some true) (fun _ => by rw [e]) (Ev.now true)
    · simp only [if_neg q1]
      have e : ((v.1 == 0) == false) = true := bool_eq (by
        rw [beq_iff_eq, hv2]
        constructor
        · intro h
          rw [h.1] at q1
          exact absurd (beq_self_eq_true _) q1
        · intro h; cases h)
      exact Ev.congr (f := fun _ => some true) (fun _ => by rw [e]) (Ev.now true)
  · rw [show (((Lf l i).length : Int) != k1) = true by rw [bne_iff_ne]; exact g4]
    exact is_j1 _ _ _ _ _
end Go.Proofs.YtkmdkmlgahfcpaaDoor.M
