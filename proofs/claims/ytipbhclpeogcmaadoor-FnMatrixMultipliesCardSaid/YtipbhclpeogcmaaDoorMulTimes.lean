/- FnMatrixMultiplies in plain lists: the definition's product is the same list. -/
import Derived.Test.YtipbhclpeogcmaaDoorMulPure
namespace Go.Proofs.YtipbhclpeogcmaaDoor.MatM
open Go Go.RowKit Go.Proofs.YtipbhclpeogcmaaDoor.M Go.Proofs.YtipbhclpeogcmaaDoor.Field Go.Proofs.YtipbhclpeogcmaaDoor.FieldM Go.Proofs.YtipbhclpeogcmaaDoorW.PrintMore Go.Proofs.YtipbhclpeogcmaaDoorW.PrintWords Go.Proofs.YtipbhclpeogcmaaDoorW.PrintLast
set_option linter.unusedVariables false
set_option linter.unusedSimpArgs false

theorem tim_l2 {a b : List (List Int)} {N K m : Nat} (F : Fit a b N K m) (i j : Nat) (hi : i < N) (hj : j < m) (r : List (List Int)) :
    ∀ (n k acc : Nat) (x : List (List Int)), Sq N m x → (x.getD i []).getD j 0 = ((acc : Nat) : Int) → k + n = K → acc < 256 →
      Ev (fun q => spec_Times.l1 q a b (x.set i ((x.getD i []).set j ((dot a b i j n k acc : Nat) : Int))) (i : Int) (N : Int) (i : Int) (m : Int) ((j + 1 : Nat) : Int)) r →
      Ev (fun q => spec_Times.l2 q a b x (i : Int) (j : Int) (N : Int) (i : Int) (m : Int) (j : Int) (K : Int) (k : Int)) r
  | 0, k, acc, x, hx, hv, h, ha, hr => by
    refine Ev.step (fun q => spec_Times.l2.eq_2 _ _ _ _ _ _ _ _ _ _ _ _) ?_
    have hm := F.lem
    have c1 : ¬ (k : Int) < (K : Int) := by omega
    simp only [if_neg c1, wrap_nat j (by omega)]
    unfold dot at hr
    rw [← hv, set_self, set_self] at hr
    exact hr
  | n + 1, k, acc, x, hx, hv, h, ha, hr => by
    refine Ev.step (fun q => spec_Times.l2.eq_2 _ _ _ _ _ _ _ _ _ _ _ _) ?_
    have hN := F.leN
    have hm := F.lem
    have hK := F.leK
    have hx1 := hx.1
    have hx2 := hx.2 i hi
    have ha1 := F.sa.1
    have ha2 := F.sa.2 i hi
    have hb1 := F.sb.1
    have hb2 := F.sb.2 k (by omega)
    have ea := en_spec F.ba i k
    have eb := en_spec F.bb k j
    have hg := FieldM.gm_lt _ _ ea.2 eb.2
    have c1 : (k : Int) < (K : Int) := by omega
    have c2 : 0 ≤ (i : Int) := by omega
    have c3 : (i : Int) < (x.length : Int) := by omega
    have c4 : 0 ≤ (j : Int) := by omega
    have c5 : (j : Int) < (((x.getD i []).length : Nat) : Int) := by omega
    have c6 : (i : Int) < (a.length : Int) := by omega
    have c7 : 0 ≤ (k : Int) := by omega
    have c8 : (k : Int) < (((a.getD i []).length : Nat) : Int) := by omega
    have c9 : (k : Int) < (b.length : Int) := by omega
    have c10 : (j : Int) < (((b.getD k []).length : Nat) : Int) := by omega
    unfold rd_L1 rd
    simp only [toNat_cast, if_pos c1, if_pos c2, if_pos c3, if_pos c4, if_pos c5, if_pos c6, if_pos c7, if_pos c8, if_pos c9, if_pos c10, ea.1, eb.1, hv, wrap_nat k (by omega)]
    refine Ev.bind (FieldM.mul_ev _ _ ea.2 eb.2) ?_
    rw [u8_xor_nat acc _ ha hg]
    refine tim_l2 F i j hi hj r n (k + 1) (acc ^^^ gm (en a i k) (en b k j)) _ (hx.set i _ (by rw [List.length_set]; exact hx2)) ?_ (by omega) (Nat.xor_lt_two_pow (n := 8) ha hg) ?_
    · rw [getD_set_self _ _ _ _ (by omega), getD_set_self _ _ _ _ (by omega)]
    · rw [getD_set_self _ _ _ _ (by omega), List.set_set, List.set_set]
      exact hr
theorem tim_l1 {a b : List (List Int)} {N K m : Nat} (F : Fit a b N K m) (i : Nat) (hi : i < N) (r : List (List Int)) :
    ∀ (n j : Nat) (x : List (List Int)), Sq N m x → (∀ j', j ≤ j' → (x.getD i []).getD j' 0 = 0) → j + n = m → Ev (fun q => spec_Times.l0 q a b (x.set i (rowF a b i n j (x.getD i []))) (N : Int) ((i + 1 : Nat) : Int)) r →
      Ev (fun q => spec_Times.l1 q a b x (i : Int) (N : Int) (i : Int) (m : Int) (j : Int)) r
  | 0, j, x, hx, hz, h, hr => by
    refine Ev.step (fun q => spec_Times.l1.eq_2 _ _ _ _ _ _ _ _ _) ?_
    have hN := F.leN
    have c1 : ¬ (j : Int) < (m : Int) := by omega
    simp only [if_neg c1, wrap_nat i (by omega)]
    unfold rowF at hr
    rw [set_self] at hr
    exact hr
  | n + 1, j, x, hx, hz, h, hr => by
    refine Ev.step (fun q => spec_Times.l1.eq_2 _ _ _ _ _ _ _ _ _) ?_
    have hN := F.leN
    have hb1 := F.sb.1
    have hx1 := hx.1
    have hx2 := hx.2 i hi
    have c1 : (j : Int) < (m : Int) := by omega
    simp only [if_pos c1, hb1]
    refine tim_l2 F i j hi (by omega) r K 0 0 x hx (hz j (Nat.le_refl _)) (by omega) (by decide) ?_
    refine tim_l1 F i hi r n (j + 1) _ (hx.set i _ (by rw [List.length_set]; exact hx2)) ?_ (by omega) ?_
    · intro j' hj'
      rw [getD_set_self _ _ _ _ (by omega), getD_set, if_neg (by omega)]
      exact hz j' (by omega)
    · rw [getD_set_self _ _ _ _ (by omega), List.set_set]
      unfold rowF at hr
      rw [hb1] at hr
      exact hr
theorem tim_l0 {a b : List (List Int)} {N K m : Nat} (F : Fit a b N K m) :
    ∀ (n i : Nat) (x : List (List Int)), Sq N m x → (∀ i' j', i ≤ i' → (x.getD i' []).getD j' 0 = 0) → i + n = N → Ev (fun q => spec_Times.l0 q a b x (N : Int) (i : Int)) (matF a b m n i x)
  | 0, i, x, hx, hz, h => by
    refine Ev.step (fun q => spec_Times.l0.eq_2 _ _ _ _ _ _) ?_
    have c1 : ¬ (i : Int) < (N : Int) := by omega
    simp only [if_neg c1]
    exact Ev.now _
  | n + 1, i, x, hx, hz, h => by
    refine Ev.step (fun q => spec_Times.l0.eq_2 _ _ _ _ _ _) ?_
    have hx1 := hx.1
    have hx2 := hx.2 i (by omega)
    have c1 : (i : Int) < (N : Int) := by omega
    have c2 : 0 ≤ (i : Int) := by omega
    have c3 : (i : Int) < (x.length : Int) := by omega
    unfold rd_L1
    simp only [toNat_cast, if_pos c1, if_pos c2, if_pos c3, hx2]
    refine tim_l1 F i (by omega) _ m 0 x hx (fun j' _ => hz i j' (Nat.le_refl _)) (by omega) ?_
    refine tim_l0 F n (i + 1) _ (hx.set i _ (by rw [rowF_length]; exact hx2)) ?_ (by omega)
    intro i' j' hi'
    rw [getD_set, if_neg (by omega)]
    exact hz i' j' (by omega)
theorem zero_at (N m i j : Nat) : ((List.replicate N (List.replicate m (0 : Int))).getD i []).getD j 0 = 0 := by
  rcases getD_mem (List.replicate N (List.replicate m (0 : Int))) i [] with h | h
  · rw [(List.mem_replicate.1 h).2]
    rcases getD_mem (List.replicate m (0 : Int)) j 0 with h2 | h2
    · exact (List.mem_replicate.1 h2).2
    · exact h2
  · rw [h]; rfl
theorem times_ev {a b : List (List Int)} {N K m : Nat} (F : Fit a b N K m) : Ev (fun q => spec_Times.f q a b) (matF a b m N 0 (List.replicate N (List.replicate m 0))) := by
  unfold spec_Times.f
  have hK0 := F.K0
  have ha1 := F.sa.1
  have hb1 := F.sb.1
  have hb0 := F.sb.2 0 F.K0
  have c1 : ¬ (b.length : Int) = 0 := by omega
  have c2 : 0 < (b.length : Int) := by omega
  have e1 : rd_L1 b 0 = b.getD 0 [] := rfl
  have ec : spec_Columns.f b = some (m : Int) := by
    unfold spec_Columns.f
    simp only [if_neg c1, if_pos c2, e1, hb0]
  simp only [ec, Option.bind_some, ha1]
  refine Ev.bind (zeros_ev N m F.leN F.lem) ?_
  exact tim_l0 F N 0 _ (sq_zero N m) (fun i' j' _ => zero_at N m i' j') (by omega)
theorem sq_matF (a b : List (List Int)) (N m : Nat) : ∀ n i x, Sq N m x → i + n ≤ N → Sq N m (matF a b m n i x)
  | 0, _, _, h, _ => h
  | n + 1, i, x, h, hi => sq_matF a b N m n (i + 1) _ (h.set i _ (by rw [rowF_length]; exact h.2 i (by omega))) (by omega)
end Go.Proofs.YtipbhclpeogcmaaDoor.MatM
