/- The printed elimination in plain functions: it ends with the identity and the same solutions, or tells a column that is clear. -/
import Derived.Test.YtipbhclpeogcmaaDoorGaussC
import Derived.Test.YtipbhclpeogcmaaDoorM
import Derived.Test.YtipbhclpeogcmaaDoorMatV
namespace Go.Proofs.YtipbhclpeogcmaaDoor.Gauss
open Go Go.RowKit Go.Proofs.YtipbhclpeogcmaaDoor.M Go.Proofs.YtipbhclpeogcmaaDoor.MatM Go.Proofs.YtipbhclpeogcmaaDoor.Field Go.Proofs.YtipbhclpeogcmaaDoorW.PrintMore Go.Proofs.YtipbhclpeogcmaaDoorW.PrintWords Go.Proofs.YtipbhclpeogcmaaDoorW.PrintLast
set_option linter.unusedVariables false
set_option linter.unusedSimpArgs false

theorem mul_f {a b : Nat} (ha : a < 256) (hb : b < 256) : reedsolomon_galMultiply.f (a : Int) (b : Int) = some ((gm a b : Nat) : Int) := by
  unfold reedsolomon_galMultiply.f
  rw [if_pos (by omega), Int.toNat_natCast, Int.toNat_natCast]
theorem en_col {N M : Nat} {X : List (List Int)} (hX : Ok N M X) (i j : Nat) : ((en X i j : Nat) : Int) = 0 ↔ fn X i j = 0 := by
  rw [fn_zero hX.by_]
  omega
theorem fn_fin {N M : Nat} {X : List (List Int)} (hX : Ok N M X) (i j : Nat) (h : en X i j < 256) : (⟨en X i j, h⟩ : E) = fn X i j := Fin.ext (fn_en hX.by_ i j).symm
theorem inv_ok (a : Nat) (ha : a < 256) (h0 : a ≠ 0) : gm (galInv a) a = 1 ∧ galInv a < 256 := by
  rcases iv_all ⟨a, ha⟩ with h | h
  · exact absurd h h0
  · exact h
section
variable {N M : Nat} (hM : M ≤ 4096)
include hM
theorem g_l2 (r s : Nat) (hr : r < N) (hs : s < 256) (x23 x24 : Int) (res : Option Int × List (List Int)) :
    ∀ (n j : Nat) (X : List (List Int)), Ok N M X → j + n = M → Ev (fun k => reedsolomon_matrix_gaussianElimination.j4 k (scF r s n j X) (N : Int) (M : Int) (r : Int) x23 x24) res →
      Ev (fun k => reedsolomon_matrix_gaussianElimination.l2 k X (N : Int) (M : Int) (r : Int) (s : Int) x23 x24 (M : Int) (j : Int)) res
  | 0, j, X, hX, h, hr' => by
    refine Ev.step (fun q => reedsolomon_matrix_gaussianElimination.l2.eq_2 _ _ _ _ _ _ _ _ _ _) ?_
    have c1 : ¬ (j : Int) < (M : Int) := by omega
    simp only [if_neg c1]
    exact hr'
  | n + 1, j, X, hX, h, hr' => by
    refine Ev.step (fun q => reedsolomon_matrix_gaussianElimination.l2.eq_2 _ _ _ _ _ _ _ _ _ _) ?_
    have hx1 := hX.sq.1
    have hx2 := hX.sq.2 r hr
    have ea := en_spec hX.by_ r j
    have c1 : (j : Int) < (M : Int) := by omega
    have c2 : 0 ≤ (r : Int) := by omega
    have c3 : (r : Int) < (X.length : Int) := by omega
    have c4 : 0 ≤ (j : Int) := by omega
    have c5 : (j : Int) < (((X.getD r []).length : Nat) : Int) := by omega
    have eg := mul_f ea.2 hs
    unfold rd_L1 rd
    simp only [toNat_cast, if_pos c1, if_pos c2, if_pos c3, if_pos c4, if_pos c5, ea.1, eg, Option.bind_some, wrap_nat j (by omega)]
    exact g_l2 r s hr hs x23 x24 res n (j + 1) (put X r j (gm (en X r j) s)) (hX.put r j _ hr (gm_lt' _ _)) (by omega) hr'
end
section
variable {N M : Nat} (hN : N ≤ 4096) (hM : M ≤ 4096)
include hN hM
theorem g_l4 (r i s : Nat) (hr : r < N) (hi : i < N) (hne : i ≠ r) (hs : s < 256) (x23 x24 : Int) (res : Option Int × List (List Int)) :
    ∀ (n j : Nat) (X : List (List Int)), Ok N M X → j + n = M → Ev (fun k => reedsolomon_matrix_gaussianElimination.l3 k (adF i r s n j X) (N : Int) (M : Int) (r : Int) ((i + 1 : Nat) : Int) x23 x24) res →
      Ev (fun k => reedsolomon_matrix_gaussianElimination.l4 k X (N : Int) (M : Int) (r : Int) (i : Int) (s : Int) x23 x24 (M : Int) (j : Int)) res
  | 0, j, X, hX, h, hr' => by
    refine Ev.step (fun q => reedsolomon_matrix_gaussianElimination.l4.eq_2 _ _ _ _ _ _ _ _ _ _ _) ?_
    have c1 : ¬ (j : Int) < (M : Int) := by omega
    simp only [if_neg c1, wrap_nat i (by omega)]
    exact hr'
  | n + 1, j, X, hX, h, hr' => by
    refine Ev.step (fun q => reedsolomon_matrix_gaussianElimination.l4.eq_2 _ _ _ _ _ _ _ _ _ _ _) ?_
    have hx1 := hX.sq.1
    have hx2 := hX.sq.2 r hr
    have hx3 := hX.sq.2 i hi
    have ea := en_spec hX.by_ r j
    have eb := en_spec hX.by_ i j
    have c1 : (j : Int) < (M : Int) := by omega
    have c2 : 0 ≤ (r : Int) := by omega
    have c3 : (r : Int) < (X.length : Int) := by omega
    have c4 : 0 ≤ (j : Int) := by omega
    have c5 : (j : Int) < (((X.getD r []).length : Nat) : Int) := by omega
    have c6 : 0 ≤ (i : Int) := by omega
    have c7 : (i : Int) < (X.length : Int) := by omega
    have c8 : (j : Int) < (((X.getD i []).length : Nat) : Int) := by omega
    have eg := mul_f hs ea.2
    unfold rd_L1 rd
    simp only [toNat_cast, if_pos c1, if_pos c2, if_pos c3, if_pos c4, if_pos c5, if_pos c6, if_pos c7, if_pos c8, ea.1, eb.1, eg, Option.bind_some, wrap_nat j (by omega), u8_xor_nat _ _ eb.2 (gm_lt' s (en X r j))]
    exact g_l4 r i s hr hi hne hs x23 x24 res n (j + 1) (put X i j (en X i j ^^^ gm s (en X r j))) (hX.put i j _ hi (xor_lt eb.2 (gm_lt' _ _))) (by omega) hr'
theorem g_l7 (d i s : Nat) (hd : d < N) (hi : i < N) (hne : i ≠ d) (hs : s < 256) (x148 x149 x152 : Int) (res : Option Int × List (List Int)) :
    ∀ (n j : Nat) (X : List (List Int)), Ok N M X → j + n = M → Ev (fun k => reedsolomon_matrix_gaussianElimination.l6 k (adF i d s n j X) (M : Int) (d : Int) x148 x149 x152 ((i + 1 : Nat) : Int)) res →
      Ev (fun k => reedsolomon_matrix_gaussianElimination.l7 k X (M : Int) (d : Int) (i : Int) (s : Int) x148 x149 x152 (i : Int) (M : Int) (j : Int)) res
  | 0, j, X, hX, h, hr' => by
    refine Ev.step (fun q => reedsolomon_matrix_gaussianElimination.l7.eq_2 _ _ _ _ _ _ _ _ _ _ _ _) ?_
    have c1 : ¬ (j : Int) < (M : Int) := by omega
    simp only [if_neg c1, wrap_nat i (by omega)]
    exact hr'
  | n + 1, j, X, hX, h, hr' => by
    refine Ev.step (fun q => reedsolomon_matrix_gaussianElimination.l7.eq_2 _ _ _ _ _ _ _ _ _ _ _ _) ?_
    have hx1 := hX.sq.1
    have hx2 := hX.sq.2 d hd
    have hx3 := hX.sq.2 i hi
    have ea := en_spec hX.by_ d j
    have eb := en_spec hX.by_ i j
    have c1 : (j : Int) < (M : Int) := by omega
    have c2 : 0 ≤ (d : Int) := by omega
    have c3 : (d : Int) < (X.length : Int) := by omega
    have c4 : 0 ≤ (j : Int) := by omega
    have c5 : (j : Int) < (((X.getD d []).length : Nat) : Int) := by omega
    have c6 : 0 ≤ (i : Int) := by omega
    have c7 : (i : Int) < (X.length : Int) := by omega
    have c8 : (j : Int) < (((X.getD i []).length : Nat) : Int) := by omega
    have eg := mul_f hs ea.2
    unfold rd_L1 rd
    simp only [toNat_cast, if_pos c1, if_pos c2, if_pos c3, if_pos c4, if_pos c5, if_pos c6, if_pos c7, if_pos c8, ea.1, eb.1, eg, Option.bind_some, wrap_nat j (by omega), u8_xor_nat _ _ eb.2 (gm_lt' s (en X d j))]
    exact g_l7 d i s hd hi hne hs x148 x149 x152 res n (j + 1) (put X i j (en X i j ^^^ gm s (en X d j))) (hX.put i j _ hi (xor_lt eb.2 (gm_lt' _ _))) (by omega) hr'
end
/-- How elimination ends: with the identity, or with a column that is clear from the diagonal on. -/
def Good (N M : Nat) (W0 : Nat → Nat → E) (res : Option Int × List (List Int)) : Prop :=
  (res.1 = none ∧ Ok N M res.2 ∧ Eqv N M W0 (fn res.2) ∧ ∀ i j, i < N → j < N → fn res.2 i j = if i = j then 1 else 0) ∨
    ((∃ c, res.1 = some c) ∧ ∃ (W : Nat → Nat → E) (r : Nat), r < N ∧ Eqv N M W0 W ∧ Tri N r W ∧ ∀ i, r ≤ i → i < N → W i r = 0)
section
variable {N M : Nat} (hN : N ≤ 4096) (hM : M ≤ 4096) (hNM : N ≤ M) {W0 : Nat → Nat → E}
include hN hM hNM
theorem g_l6 (d : Nat) (hd : d < N) (K : ∀ X', Ok N M X' → Eqv N M W0 (fn X') → Upp N (d + 1) 0 (fn X') → ∃ res, Ev (fun k => reedsolomon_matrix_gaussianElimination.l5 k X' (M : Int) (N : Int) ((d + 1 : Nat) : Int)) res ∧ Good N M W0 res) :
    ∀ (n i : Nat) (X : List (List Int)), i + n = d → Ok N M X → Eqv N M W0 (fn X) → Upp N d i (fn X) →
      ∃ res, Ev (fun k => reedsolomon_matrix_gaussianElimination.l6 k X (M : Int) (d : Int) (N : Int) (d : Int) (d : Int) (i : Int)) res ∧ Good N M W0 res
  | 0, i, X, h, hX, hE, hU => by
    obtain rfl : i = d := by omega
    obtain ⟨res, h1, h2⟩ := K X hX hE (hU.done hd)
    refine ⟨res, ?_, h2⟩
    refine Ev.step (fun q => reedsolomon_matrix_gaussianElimination.l6.eq_2 _ _ _ _ _ _ _ _) ?_
    have c1 : ¬ (i : Int) < (i : Int) := by omega
    simp only [if_neg c1, wrap_nat i (by omega)]
    exact h1
  | n + 1, i, X, h, hX, hE, hU => by
    have hx1 := hX.sq.1
    have hi : i < N := by omega
    have hx2 := hX.sq.2 i hi
    have ea := en_spec hX.by_ i d
    have c1 : (i : Int) < (d : Int) := by omega
    have c2 : 0 ≤ (i : Int) := by omega
    have c3 : (i : Int) < (X.length : Int) := by omega
    have c4 : 0 ≤ (d : Int) := by omega
    have c5 : (d : Int) < (((X.getD i []).length : Nat) : Int) := by omega
    by_cases c6 : ((en X i d : Nat) : Int) = 0
    · obtain ⟨res, h1, h2⟩ := g_l6 d hd K n (i + 1) X (by omega) hX hE (hU.keep ((en_col hX i d).1 c6))
      refine ⟨res, ?_, h2⟩
      refine Ev.step (fun q => reedsolomon_matrix_gaussianElimination.l6.eq_2 _ _ _ _ _ _ _ _) ?_
      unfold rd_L1 rd
      simp only [toNat_cast, if_pos c1, if_pos c2, if_pos c3, if_pos c4, if_pos c5, ea.1, if_pos c6, wrap_nat i (by omega)]
      exact h1
    · obtain ⟨k1, k2⟩ := adF_all hX i d (en X i d) hi hd (by omega) ea.2
      rw [fn_fin hX] at k2
      obtain ⟨res, h1, h2⟩ := g_l6 d hd K n (i + 1) _ (by omega) k1 (by rw [k2]; exact hE.add hd (by omega)) (by rw [k2]; exact hU.step (by omega) hd)
      refine ⟨res, ?_, h2⟩
      refine Ev.step (fun q => reedsolomon_matrix_gaussianElimination.l6.eq_2 _ _ _ _ _ _ _ _) ?_
      unfold rd_L1 rd
      simp only [toNat_cast, if_pos c1, if_pos c2, if_pos c3, if_pos c4, if_pos c5, ea.1, if_neg c6]
      exact g_l7 hN hM d i (en X i d) hd hi (by omega) ea.2 _ _ _ res M 0 X hX (by omega) h1
theorem g_l5 : ∀ (n d : Nat) (X : List (List Int)), d + n = N → Ok N M X → Eqv N M W0 (fn X) → Upp N d 0 (fn X) →
      ∃ res, Ev (fun k => reedsolomon_matrix_gaussianElimination.l5 k X (M : Int) (N : Int) (d : Int)) res ∧ Good N M W0 res
  | 0, d, X, h, hX, hE, hU => by
    obtain rfl : d = N := by omega
    refine ⟨(none, X), ?_, .inl ⟨rfl, hX, hE, hU.ends⟩⟩
    refine Ev.step (fun q => reedsolomon_matrix_gaussianElimination.l5.eq_2 _ _ _ _ _) ?_
    have c1 : ¬ (d : Int) < (d : Int) := by omega
    simp only [if_neg c1]
    exact Ev.now _
  | n + 1, d, X, h, hX, hE, hU => by
    obtain ⟨res, h1, h2⟩ := g_l6 hN hM hNM (W0 := W0) d (by omega) (fun X' a b c => g_l5 n (d + 1) X' (by omega) a b c) d 0 X (by omega) hX hE hU
    refine ⟨res, ?_, h2⟩
    refine Ev.step (fun q => reedsolomon_matrix_gaussianElimination.l5.eq_2 _ _ _ _ _) ?_
    have c1 : (d : Int) < (N : Int) := by omega
    simp only [if_pos c1]
    exact h1
theorem g_l3 (r : Nat) (hr : r < N) (K : ∀ X', Ok N M X' → Eqv N M W0 (fn X') → Tri N (r + 1) (fn X') → ∃ res, Ev (fun k => reedsolomon_matrix_gaussianElimination.l0 k X' (N : Int) (M : Int) (N : Int) ((r + 1 : Nat) : Int)) res ∧ Good N M W0 res) :
    ∀ (n i : Nat) (X : List (List Int)), i + n = N → r < i → Ok N M X → Eqv N M W0 (fn X) → Low N r i (fn X) →
      ∃ res, Ev (fun k => reedsolomon_matrix_gaussianElimination.l3 k X (N : Int) (M : Int) (r : Int) (i : Int) (N : Int) (r : Int)) res ∧ Good N M W0 res
  | 0, i, X, h, hri, hX, hE, hL => by
    obtain rfl : i = N := by omega
    obtain ⟨res, h1, h2⟩ := K X hX hE hL.done
    refine ⟨res, ?_, h2⟩
    refine Ev.step (fun q => reedsolomon_matrix_gaussianElimination.l3.eq_2 _ _ _ _ _ _ _ _) ?_
    have c1 : ¬ (i : Int) < (i : Int) := by omega
    simp only [if_neg c1, wrap_nat r (by omega)]
    exact h1
  | n + 1, i, X, h, hri, hX, hE, hL => by
    have hx1 := hX.sq.1
    have hi : i < N := by omega
    have hx2 := hX.sq.2 i hi
    have ea := en_spec hX.by_ i r
    have c1 : (i : Int) < (N : Int) := by omega
    have c2 : 0 ≤ (i : Int) := by omega
    have c3 : (i : Int) < (X.length : Int) := by omega
    have c4 : 0 ≤ (r : Int) := by omega
    have c5 : (r : Int) < (((X.getD i []).length : Nat) : Int) := by omega
    by_cases c6 : ((en X i r : Nat) : Int) = 0
    · obtain ⟨res, h1, h2⟩ := g_l3 r hr K n (i + 1) X (by omega) (by omega) hX hE (hL.keep ((en_col hX i r).1 c6))
      refine ⟨res, ?_, h2⟩
      refine Ev.step (fun q => reedsolomon_matrix_gaussianElimination.l3.eq_2 _ _ _ _ _ _ _ _) ?_
      unfold rd_L1 rd
      simp only [toNat_cast, if_pos c1, if_pos c2, if_pos c3, if_pos c4, if_pos c5, ea.1, if_pos c6, wrap_nat i (by omega)]
      exact h1
    · obtain ⟨k1, k2⟩ := adF_all hX i r (en X i r) hi hr (by omega) ea.2
      rw [fn_fin hX] at k2
      obtain ⟨res, h1, h2⟩ := g_l3 r hr K n (i + 1) _ (by omega) (by omega) k1 (by rw [k2]; exact hE.add hr (by omega)) (by rw [k2]; exact hL.step hri hi)
      refine ⟨res, ?_, h2⟩
      refine Ev.step (fun q => reedsolomon_matrix_gaussianElimination.l3.eq_2 _ _ _ _ _ _ _ _) ?_
      unfold rd_L1 rd
      simp only [toNat_cast, if_pos c1, if_pos c2, if_pos c3, if_pos c4, if_pos c5, ea.1, if_neg c6]
      exact g_l4 hN hM r i (en X i r) hr hi (by omega) ea.2 _ _ res M 0 X hX (by omega) h1
theorem g_j4 (r : Nat) (hr : r < N) (K : ∀ X', Ok N M X' → Eqv N M W0 (fn X') → Tri N (r + 1) (fn X') → ∃ res, Ev (fun k => reedsolomon_matrix_gaussianElimination.l0 k X' (N : Int) (M : Int) (N : Int) ((r + 1 : Nat) : Int)) res ∧ Good N M W0 res)
    (X : List (List Int)) (hX : Ok N M X) (hE : Eqv N M W0 (fn X)) (hT : Tri N r (fn X)) (h1 : fn X r r = 1) :
    ∃ res, Ev (fun k => reedsolomon_matrix_gaussianElimination.j4 k X (N : Int) (M : Int) (r : Int) (N : Int) (r : Int)) res ∧ Good N M W0 res := by
  obtain ⟨res, k1, k2⟩ := g_l3 hN hM hNM (W0 := W0) r hr K (N - (r + 1)) (r + 1) X (by omega) (by omega) hX hE (Low.start hT h1)
  refine ⟨res, ?_, k2⟩
  refine Ev.step (fun q => reedsolomon_matrix_gaussianElimination.j4.eq_2 _ _ _ _ _ _ _) ?_
  simp only [wrap_nat r (by omega)]
  exact k1
theorem g_j2 (r : Nat) (hr : r < N) (K : ∀ X', Ok N M X' → Eqv N M W0 (fn X') → Tri N (r + 1) (fn X') → ∃ res, Ev (fun k => reedsolomon_matrix_gaussianElimination.l0 k X' (N : Int) (M : Int) (N : Int) ((r + 1 : Nat) : Int)) res ∧ Good N M W0 res)
    (X : List (List Int)) (hX : Ok N M X) (hE : Eqv N M W0 (fn X)) (hT : Tri N r (fn X)) (hz : fn X r r = 0 → ∀ i, r ≤ i → i < N → fn X i r = 0) :
    ∃ res, Ev (fun k => reedsolomon_matrix_gaussianElimination.j2 k X (N : Int) (M : Int) (r : Int) (N : Int) (r : Int)) res ∧ Good N M W0 res := by
  have hx1 := hX.sq.1
  have hx2 := hX.sq.2 r hr
  have ea := en_spec hX.by_ r r
  have c2 : 0 ≤ (r : Int) := by omega
  have c3 : (r : Int) < (X.length : Int) := by omega
  have c5 : (r : Int) < (((X.getD r []).length : Nat) : Int) := by omega
  by_cases c6 : ((en X r r : Nat) : Int) = 0
  · refine ⟨(some 8, X), ?_, .inr ⟨⟨8, rfl⟩, fn X, r, hr, hE, hT, hz ((en_col hX r r).1 c6)⟩⟩
    refine Ev.step (fun q => reedsolomon_matrix_gaussianElimination.j2.eq_2 _ _ _ _ _ _ _) ?_
    unfold rd_L1 rd
    simp only [toNat_cast, if_pos c2, if_pos c3, if_pos c5, ea.1, if_pos c6]
    exact Ev.now _
  · by_cases c7 : ((en X r r : Nat) : Int) = 1
    · obtain ⟨res, k1, k2⟩ := g_j4 hN hM hNM r hr K X hX hE hT (Fin.ext (by rw [fn_en hX.by_]; show en X r r = 1; omega))
      refine ⟨res, ?_, k2⟩
      refine Ev.step (fun q => reedsolomon_matrix_gaussianElimination.j2.eq_2 _ _ _ _ _ _ _) ?_
      unfold rd_L1 rd
      simp only [toNat_cast, if_pos c2, if_pos c3, if_pos c5, ea.1, if_neg c6, if_pos c7]
      exact k1
    · obtain ⟨v1, v2⟩ := inv_ok (en X r r) ea.2 (by omega)
      have eg : reedsolomon_galOneOver.f ((en X r r : Nat) : Int) = some ((galInv (en X r r) : Nat) : Int) := by
        unfold reedsolomon_galOneOver.f
        rw [if_pos (by omega), Int.toNat_natCast]
      have hs0 : (⟨galInv (en X r r), v2⟩ : E) ≠ 0 := fun h => by
        have h3 : galInv (en X r r) = 0 := congrArg Fin.val h
        rw [h3, gm_zero_left] at v1
        exact absurd v1 (by decide)
      obtain ⟨k1, k2⟩ := scF_all hX r (galInv (en X r r)) hr v2
      have k3 : fn (scF r (galInv (en X r r)) M 0 X) r r = 1 := by
        rw [k2]
        unfold scaleR
        rw [if_pos rfl]
        refine Fin.ext ?_
        show gm (fn X r r).val (galInv (en X r r)) = 1
        rw [fn_en hX.by_, gm_comm', v1]
      obtain ⟨res, j1, j2⟩ := g_j4 hN hM hNM r hr K _ k1 (by rw [k2]; exact hE.scale hs0) (by rw [k2]; exact hT.scale hr _) k3
      refine ⟨res, ?_, j2⟩
      refine Ev.step (fun q => reedsolomon_matrix_gaussianElimination.j2.eq_2 _ _ _ _ _ _ _) ?_
      unfold rd_L1 rd
      simp only [toNat_cast, if_pos c2, if_pos c3, if_pos c5, ea.1, if_neg c6, if_neg c7, eg, Option.bind_some]
      exact g_l2 hM r _ hr v2 _ _ res M 0 X hX (by omega) j1
theorem g_l1 (r : Nat) (hr : r < N) (K : ∀ X', Ok N M X' → Eqv N M W0 (fn X') → Tri N (r + 1) (fn X') → ∃ res, Ev (fun k => reedsolomon_matrix_gaussianElimination.l0 k X' (N : Int) (M : Int) (N : Int) ((r + 1 : Nat) : Int)) res ∧ Good N M W0 res)
    (X : List (List Int)) (hX : Ok N M X) (hE : Eqv N M W0 (fn X)) (hT : Tri N r (fn X)) :
    ∀ (n i : Nat), i + n = N → r < i → (∀ i', r ≤ i' → i' < i → fn X i' r = 0) →
      ∃ res, Ev (fun k => reedsolomon_matrix_gaussianElimination.l1 k X (N : Int) (M : Int) (r : Int) (i : Int) (N : Int) (r : Int)) res ∧ Good N M W0 res
  | 0, i, h, hri, hz => by
    obtain rfl : i = N := by omega
    obtain ⟨res, h1, h2⟩ := g_j2 hN hM hNM r hr K X hX hE hT (fun _ => hz)
    refine ⟨res, ?_, h2⟩
    refine Ev.step (fun q => reedsolomon_matrix_gaussianElimination.l1.eq_2 _ _ _ _ _ _ _ _) ?_
    have c1 : ¬ (i : Int) < (i : Int) := by omega
    simp only [if_neg c1]
    exact h1
  | n + 1, i, h, hri, hz => by
    have hx1 := hX.sq.1
    have hi : i < N := by omega
    have hx2 := hX.sq.2 i hi
    have ea := en_spec hX.by_ i r
    have c1 : (i : Int) < (N : Int) := by omega
    have c2 : 0 ≤ (i : Int) := by omega
    have c3 : (i : Int) < (X.length : Int) := by omega
    have c4 : 0 ≤ (r : Int) := by omega
    have c5 : (r : Int) < (((X.getD i []).length : Nat) : Int) := by omega
    by_cases c6 : ((en X i r : Nat) : Int) = 0
    · obtain ⟨res, h1, h2⟩ := g_l1 r hr K X hX hE hT n (i + 1) (by omega) (by omega) (fun i' a b => by
        by_cases e : i' = i
        · subst e; exact (en_col hX i' r).1 c6
        · exact hz i' a (by omega))
      refine ⟨res, ?_, h2⟩
      refine Ev.step (fun q => reedsolomon_matrix_gaussianElimination.l1.eq_2 _ _ _ _ _ _ _ _) ?_
      unfold rd_L1 rd
      simp only [toNat_cast, if_pos c1, if_pos c2, if_pos c3, if_pos c4, if_pos c5, ea.1, if_pos c6, wrap_nat i (by omega)]
      exact h1
    · obtain ⟨k1, k2⟩ := swF_all hX r i hr hi (by omega)
      have es : reedsolomon_matrix_SwapRows.f X (r : Int) (i : Int) = some (none, swF X r i) := by
        unfold reedsolomon_matrix_SwapRows.f
        rw [if_pos (by omega), Int.toNat_natCast, Int.toNat_natCast]
        rfl
      obtain ⟨res, h1, h2⟩ := g_j2 hN hM hNM r hr K (swF X r i) k1 (by rw [k2]; exact hE.swap hr hi) (by rw [k2]; exact hT.swap (Nat.le_refl _) (by omega) hr hi) (fun h0 => by
        rw [k2] at h0
        unfold swapR at h0
        rw [if_pos rfl] at h0
        exact absurd ((en_col hX i r).2 h0) c6)
      refine ⟨res, ?_, h2⟩
      refine Ev.step (fun q => reedsolomon_matrix_gaussianElimination.l1.eq_2 _ _ _ _ _ _ _ _) ?_
      unfold rd_L1 rd
      simp only [toNat_cast, if_pos c1, if_pos c2, if_pos c3, if_pos c4, if_pos c5, ea.1, if_neg c6, es, Option.bind_some, Option.isNone_none, if_true]
      exact h1
theorem g_l0 : ∀ (n r : Nat) (X : List (List Int)), r + n = N → Ok N M X → Eqv N M W0 (fn X) → Tri N r (fn X) →
      ∃ res, Ev (fun k => reedsolomon_matrix_gaussianElimination.l0 k X (N : Int) (M : Int) (N : Int) (r : Int)) res ∧ Good N M W0 res
  | 0, r, X, h, hX, hE, hT => by
    obtain rfl : r = N := by omega
    obtain ⟨res, h1, h2⟩ := g_l5 hN hM hNM (W0 := W0) r 0 X (by omega) hX hE (Upp.start hT)
    refine ⟨res, ?_, h2⟩
    refine Ev.step (fun q => reedsolomon_matrix_gaussianElimination.l0.eq_2 _ _ _ _ _ _) ?_
    have c1 : ¬ (r : Int) < (r : Int) := by omega
    simp only [if_neg c1]
    exact h1
  | n + 1, r, X, h, hX, hE, hT => by
    have K := fun X' a b c => g_l0 n (r + 1) X' (by omega) a b c
    have hx1 := hX.sq.1
    have hr : r < N := by omega
    have hx2 := hX.sq.2 r hr
    have ea := en_spec hX.by_ r r
    have c1 : (r : Int) < (N : Int) := by omega
    have c2 : 0 ≤ (r : Int) := by omega
    have c3 : (r : Int) < (X.length : Int) := by omega
    have c5 : (r : Int) < (((X.getD r []).length : Nat) : Int) := by omega
    by_cases c6 : ((en X r r : Nat) : Int) = 0
    · obtain ⟨res, h1, h2⟩ := g_l1 hN hM hNM r hr K X hX hE hT (N - (r + 1)) (r + 1) (by omega) (by omega) (fun i' a b => by
        obtain rfl : i' = r := by omega
        exact (en_col hX i' i').1 c6)
      refine ⟨res, ?_, h2⟩
      refine Ev.step (fun q => reedsolomon_matrix_gaussianElimination.l0.eq_2 _ _ _ _ _ _) ?_
      unfold rd_L1 rd
      simp only [toNat_cast, if_pos c1, if_pos c2, if_pos c3, if_pos c5, ea.1, if_pos c6, wrap_nat r (by omega)]
      exact h1
    · obtain ⟨res, h1, h2⟩ := g_j2 hN hM hNM r hr K X hX hE hT (fun h0 => absurd ((en_col hX r r).2 h0) c6)
      refine ⟨res, ?_, h2⟩
      refine Ev.step (fun q => reedsolomon_matrix_gaussianElimination.l0.eq_2 _ _ _ _ _ _) ?_
      unfold rd_L1 rd
      simp only [toNat_cast, if_pos c1, if_pos c2, if_pos c3, if_pos c5, ea.1, if_neg c6]
      exact h1
theorem gauss_ev (h0 : 0 < N) (X : List (List Int)) (hX : Ok N M X) : ∃ res, Ev (fun k => reedsolomon_matrix_gaussianElimination.f k X) res ∧ Good N M (fn X) res := by
  obtain ⟨res, h1, h2⟩ := g_l0 hN hM hNM (W0 := fn X) N 0 X (by omega) hX (Eqv.refl _ _ _) (Tri.nil _ _)
  refine ⟨res, ?_, h2⟩
  have hx1 := hX.sq.1
  have hx2 := hX.sq.2 0 h0
  unfold reedsolomon_matrix_gaussianElimination.f
  have c1 : 0 < (N : Int) := by omega
  have e0 : rd_L1 X 0 = X.getD 0 [] := rfl
  simp only [e0, hx1, hx2, if_pos c1]
  exact h1
end
end Go.Proofs.YtipbhclpeogcmaaDoor.Gauss
