/- impl.Invert in plain functions: it inverts a square matrix, or tells that it is singular. -/
import Derived.Test.YtipbhclpeogcmaaDoorGaussD
namespace Go.Proofs.YtipbhclpeogcmaaDoor.Gauss
open Go Go.RowKit Go.Proofs.YtipbhclpeogcmaaDoor.M Go.Proofs.YtipbhclpeogcmaaDoor.MatM Go.Proofs.YtipbhclpeogcmaaDoor.Field Go.Proofs.YtipbhclpeogcmaaDoorW.PrintMore Go.Proofs.YtipbhclpeogcmaaDoorW.PrintWords Go.Proofs.YtipbhclpeogcmaaDoorW.PrintLast
set_option linter.unusedVariables false
set_option linter.unusedSimpArgs false

/-- Entries copied into row r, from column off + j on. -/
def cpF (src : Nat → Nat) (r off : Nat) : Nat → Nat → List (List Int) → List (List Int)
  | 0, _, X => X
  | n + 1, j, X => cpF src r off n (j + 1) (put X r (off + j) (src j))
theorem cpF_spec {N M : Nat} (src : Nat → Nat) (r off : Nat) (hs : ∀ j, src j < 256) (hr : r < N) : ∀ (n j : Nat) (X : List (List Int)), Ok N M X → off + j + n ≤ M →
    Ok N M (cpF src r off n j X) ∧ ∀ i k, fn (cpF src r off n j X) i k = if i = r ∧ off + j ≤ k ∧ k < off + j + n then ⟨src (k - off), hs _⟩ else fn X i k
  | 0, j, X, hX, h => ⟨hX, fun i k => by
      unfold cpF
      rw [if_neg (by omega)]⟩
  | n + 1, j, X, hX, h => by
    obtain ⟨h1, h2⟩ := cpF_spec src r off hs hr n (j + 1) (put X r (off + j) (src j)) (hX.put r _ _ hr (hs j)) (by omega)
    refine ⟨h1, fun i k => ?_⟩
    unfold cpF
    rw [h2 i k, fn_put hX.sq r (off + j) _ hr (by omega) (hs j)]
    by_cases e1 : i = r ∧ off + (j + 1) ≤ k ∧ k < off + (j + 1) + n
    · rw [if_pos e1, if_pos (by omega)]
    · rw [if_neg e1]
      by_cases e2 : i = r ∧ k = off + j
      · rw [if_pos e2, if_pos (by omega)]
        refine Fin.ext ?_
        show src j = src (k - off)
        rw [e2.2, Nat.add_sub_cancel_left]
      · rw [if_neg e2, if_neg (by omega)]
theorem wrap_sum (a b : Nat) (h : a + b < 9223372036854775807) : wrap64 ((a : Int) + (b : Int)) = ((a + b : Nat) : Int) := by unfold wrap64; omega
theorem wrap_twice (a : Nat) (h : a + a < 9223372036854775807) : wrap64 ((a : Int) * 2) = ((a + a : Nat) : Int) := by unfold wrap64; omega
theorem wrap_zero (a : Nat) (h : a < 9223372036854775807) : wrap64 ((a : Int) - 0) = (a : Int) := by unfold wrap64; omega
theorem wrap_less (a b : Nat) (h : a + b < 9223372036854775807) : wrap64 (((a + b : Nat) : Int) - (a : Int)) = (b : Int) := by unfold wrap64; omega
theorem wrap_i (a : Nat) (h : a < 9223372036854775807) : wrap64 (a : Int) = (a : Int) := by unfold wrap64; omega
section
variable {N : Nat} (hN : N ≤ 2000) (hN0 : 0 < N) {a u : List (List Int)} (hu : Ok N N u)
include hN hN0 hu
theorem aug_l2 (r : Nat) (hr : r < N) (res : List (List Int) × Option Int) : ∀ (n j : Nat) (X : List (List Int)), Ok N (N + N) X → j + n = N →
    Ev (fun k => reedsolomon_matrix_Augment.l0 k a u (cpF (fun j => en u r j) r N n j X) a (N : Int) ((r + 1 : Nat) : Int)) res →
    Ev (fun k => reedsolomon_matrix_Augment.l2 k a u X (r : Int) (N : Int) a (N : Int) (r : Int) (N : Int) (j : Int)) res
  | 0, j, X, hX, h, hr' => by
    refine Ev.step (fun q => reedsolomon_matrix_Augment.l2.eq_2 _ _ _ _ _ _ _ _ _ _ _) ?_
    have c1 : ¬ (j : Int) < (N : Int) := by omega
    simp only [if_neg c1, wrap_nat r (by omega)]
    exact hr'
  | n + 1, j, X, hX, h, hr' => by
    refine Ev.step (fun q => reedsolomon_matrix_Augment.l2.eq_2 _ _ _ _ _ _ _ _ _ _ _) ?_
    have hx1 := hX.sq.1
    have hx2 := hX.sq.2 r hr
    have hu1 := hu.sq.1
    have hu2 := hu.sq.2 r hr
    have ea := en_spec hu.by_ r j
    have c1 : (j : Int) < (N : Int) := by omega
    have c2 : 0 ≤ (r : Int) := by omega
    have c3 : (r : Int) < (X.length : Int) := by omega
    have c4 : (r : Int) < (u.length : Int) := by omega
    have c5 : 0 ≤ (j : Int) := by omega
    have c6 : (j : Int) < (((u.getD r []).length : Nat) : Int) := by omega
    have c7 : 0 ≤ ((N + j : Nat) : Int) := by omega
    have c8 : ((N + j : Nat) : Int) < (((X.getD r []).length : Nat) : Int) := by omega
    have b1 : j < 9223372036854775807 := by omega
    have hj : j + 1 + n = N := by omega
    have b2 : N + j < 9223372036854775807 := by omega
    have wj := wrap_nat j b1
    have ew : wrap64 ((N : Int) + (j : Int)) = ((N + j : Nat) : Int) := wrap_sum N j b2
    unfold rd_L1 rd
    simp only [toNat_cast, ew, if_pos c1, if_pos c2, if_pos c3, if_pos c4, if_pos c5, if_pos c6, if_pos c7, if_pos c8, ea.1, wj]
    exact aug_l2 r hr res n (j + 1) (put X r (N + j) (en u r j)) (hX.put r _ _ hr ea.2) hj hr'
end
section
variable {N : Nat} (hN : N ≤ 2000) (hN0 : 0 < N) {a u : List (List Int)} (ha : Ok N N a) (hu : Ok N N u)
include hN hN0 ha hu
theorem aug_l1 (r : Nat) (hr : r < N) (res : List (List Int) × Option Int) : ∀ (n j : Nat) (X : List (List Int)), Ok N (N + N) X → j + n = N →
    Ev (fun k => reedsolomon_matrix_Augment.l2 k a u (cpF (fun j => en a r j) r 0 n j X) (r : Int) (N : Int) a (N : Int) (r : Int) (N : Int) 0) res →
    Ev (fun k => reedsolomon_matrix_Augment.l1 k a u X (r : Int) a (N : Int) (r : Int) (N : Int) (j : Int)) res
  | 0, j, X, hX, h, hr' => by
    refine Ev.step (fun q => reedsolomon_matrix_Augment.l1.eq_2 _ _ _ _ _ _ _ _ _ _) ?_
    have ha1 := ha.sq.1
    have ha2 := ha.sq.2 0 hN0
    have hu1 := hu.sq.1
    have hu2 := hu.sq.2 0 hN0
    have c1 : ¬ (j : Int) < (N : Int) := by omega
    have c2 : 0 < (N : Int) := by omega
    have e0 : rd_L1 a 0 = a.getD 0 [] := rfl
    have e1 : rd_L1 u 0 = u.getD 0 [] := rfl
    simp only [if_neg c1, ha1, hu1, e0, e1, ha2, hu2, if_pos c2]
    exact hr'
  | n + 1, j, X, hX, h, hr' => by
    refine Ev.step (fun q => reedsolomon_matrix_Augment.l1.eq_2 _ _ _ _ _ _ _ _ _ _) ?_
    have hx1 := hX.sq.1
    have hx2 := hX.sq.2 r hr
    have ha1 := ha.sq.1
    have ha2 := ha.sq.2 r hr
    have ea := en_spec ha.by_ r j
    have c1 : (j : Int) < (N : Int) := by omega
    have c2 : 0 ≤ (r : Int) := by omega
    have c3 : (r : Int) < (X.length : Int) := by omega
    have c4 : (r : Int) < (a.length : Int) := by omega
    have c5 : 0 ≤ (j : Int) := by omega
    have c6 : (j : Int) < (((a.getD r []).length : Nat) : Int) := by omega
    have c8 : (j : Int) < (((X.getD r []).length : Nat) : Int) := by omega
    have e0 : put X r (0 + j) (en a r j) = X.set r ((X.getD r []).set j ((en a r j : Nat) : Int)) := by unfold put; rw [Nat.zero_add]
    unfold rd_L1 rd
    simp only [toNat_cast, if_pos c1, if_pos c2, if_pos c3, if_pos c4, if_pos c5, if_pos c6, if_pos c8, ea.1, wrap_nat j (by omega), ← e0]
    exact aug_l1 r hr res n (j + 1) (put X r (0 + j) (en a r j)) (hX.put r _ _ hr ea.2) (by omega) hr'
theorem aug_l0 : ∀ (n r : Nat) (X : List (List Int)), r + n = N → Ok N (N + N) X → (∀ i j, i < r → j < N → fn X i j = fn a i j ∧ fn X i (N + j) = fn u i j) →
    ∃ X', Ev (fun k => reedsolomon_matrix_Augment.l0 k a u X a (N : Int) (r : Int)) (X', none) ∧ Ok N (N + N) X' ∧ ∀ i j, i < N → j < N → fn X' i j = fn a i j ∧ fn X' i (N + j) = fn u i j
  | 0, r, X, h, hX, hp => by
    obtain rfl : r = N := by omega
    refine ⟨X, ?_, hX, hp⟩
    refine Ev.step (fun q => reedsolomon_matrix_Augment.l0.eq_2 _ _ _ _ _ _ _) ?_
    have c1 : ¬ (r : Int) < (r : Int) := by omega
    simp only [if_neg c1]
    exact Ev.now _
  | n + 1, r, X, h, hX, hp => by
    have hr : r < N := by omega
    obtain ⟨k1, k2⟩ := cpF_spec (M := N + N) (fun j => en a r j) r 0 (fun j => (en_spec ha.by_ r j).2) hr N 0 X hX (by omega)
    obtain ⟨k3, k4⟩ := cpF_spec (M := N + N) (fun j => en u r j) r N (fun j => (en_spec hu.by_ r j).2) hr N 0 _ k1 (by omega)
    obtain ⟨X', h1, h2, h3⟩ := aug_l0 n (r + 1) _ (by omega) k3 (fun i j hi hj => by
      rw [k4, k4, k2, k2]
      by_cases e : i = r
      · subst e
        rw [if_neg (by omega), if_pos (by omega), if_pos (by omega)]
        constructor
        · refine Fin.ext ?_
          rw [fn_en ha.by_]
          show en a i (j - 0) = _
          rw [Nat.sub_zero]
        · refine Fin.ext ?_
          rw [fn_en hu.by_]
          show en u i (N + j - N) = _
          rw [Nat.add_sub_cancel_left]
      · rw [if_neg (by omega), if_neg (by omega), if_neg (by omega), if_neg (by omega)]
        exact hp i j (by omega) hj)
    refine ⟨X', ?_, h2, h3⟩
    refine Ev.step (fun q => reedsolomon_matrix_Augment.l0.eq_2 _ _ _ _ _ _ _) ?_
    have ha1 := ha.sq.1
    have ha2 := ha.sq.2 r hr
    have c1 : (r : Int) < (N : Int) := by omega
    have c2 : 0 ≤ (r : Int) := by omega
    have e0 : rd_L1 a (r : Int) = a.getD r [] := by unfold rd_L1; rw [toNat_cast]
    simp only [if_pos c1, if_pos c2, ha1, e0, ha2]
    exact aug_l1 hN hN0 ha hu r hr _ N 0 X hX (by omega) (aug_l2 hN hN0 hu r hr _ N 0 _ k1 (by omega) h1)
end
theorem zero_ok (N M : Nat) : Ok N M (List.replicate N (List.replicate M (0 : Int))) := ⟨sq_zero N M, fun r hr x hx => by
  rw [List.mem_replicate] at hr
  rw [hr.2, List.mem_replicate] at hx
  rw [hx.2]
  decide⟩
theorem augment_ev {N : Nat} (hN : N ≤ 2000) (hN0 : 0 < N) {a u : List (List Int)} (ha : Ok N N a) (hu : Ok N N u) :
    ∃ X', Ev (fun k => reedsolomon_matrix_Augment.f k a u) (X', none) ∧ Ok N (N + N) X' ∧ ∀ i j, i < N → j < N → fn X' i j = fn a i j ∧ fn X' i (N + j) = fn u i j := by
  obtain ⟨X', h1, h2, h3⟩ := aug_l0 hN hN0 ha hu N 0 _ (by omega) (zero_ok N (N + N)) (fun i j hi => by omega)
  refine ⟨X', ?_, h2, h3⟩
  have ha1 := ha.sq.1
  have ha2 := ha.sq.2 0 hN0
  have hu1 := hu.sq.1
  have hu2 := hu.sq.2 0 hN0
  have e0 : rd_L1 a 0 = a.getD 0 [] := rfl
  have e1 : rd_L1 u 0 = u.getD 0 [] := rfl
  have c2 : 0 < (N : Int) := by omega
  have hnew := new_ev N (N + N) hN0 (by omega) (by omega) (by omega)
  have ew : wrap64 ((N : Int) + (N : Int)) = ((N + N : Nat) : Int) := wrap_sum N N (by omega)
  unfold reedsolomon_matrix_Augment.f
  simp only [ha1, hu1, e0, e1, ha2, hu2, if_pos c2, if_true, ew]
  exact Ev.bind hnew h1
section
variable {N : Nat} (hN : N ≤ 2000) (hN0 : 0 < N) {X : List (List Int)} (hX : Ok N (N + N) X)
include hN hN0 hX
theorem sub_l1 (r : Nat) (hr : r < N) (res : List (List Int) × Option Int) : ∀ (n j : Nat) (Y : List (List Int)), Ok N N Y → j + n = N →
    Ev (fun k => reedsolomon_matrix_SubMatrix.l0 k X 0 (N : Int) (N : Int) ((N + N : Nat) : Int) (cpF (fun j => en X r (N + j)) r 0 n j Y) ((r + 1 : Nat) : Int)) res →
    Ev (fun k => reedsolomon_matrix_SubMatrix.l1 k X 0 (N : Int) (N : Int) ((N + N : Nat) : Int) Y (r : Int) ((N + j : Nat) : Int)) res
  | 0, j, Y, hY, h, hr' => by
    refine Ev.step (fun q => reedsolomon_matrix_SubMatrix.l1.eq_2 _ _ _ _ _ _ _ _ _) ?_
    have c1 : ¬ ((N + j : Nat) : Int) < ((N + N : Nat) : Int) := by omega
    simp only [if_neg c1, wrap_nat r (by omega)]
    exact hr'
  | n + 1, j, Y, hY, h, hr' => by
    refine Ev.step (fun q => reedsolomon_matrix_SubMatrix.l1.eq_2 _ _ _ _ _ _ _ _ _) ?_
    have hx1 := hX.sq.1
    have hx2 := hX.sq.2 r hr
    have hy1 := hY.sq.1
    have hy2 := hY.sq.2 r hr
    have ea := en_spec hX.by_ r (N + j)
    have c1 : ((N + j : Nat) : Int) < ((N + N : Nat) : Int) := by omega
    have c2 : 0 ≤ (r : Int) := by omega
    have c3 : (r : Int) < (Y.length : Int) := by omega
    have c4 : (r : Int) < (X.length : Int) := by omega
    have c5 : 0 ≤ ((N + j : Nat) : Int) := by omega
    have c6 : ((N + j : Nat) : Int) < (((X.getD r []).length : Nat) : Int) := by omega
    have c7 : 0 ≤ (j : Int) := by omega
    have c8 : (j : Int) < (((Y.getD r []).length : Nat) : Int) := by omega
    have e0 : put Y r (0 + j) (en X r (N + j)) = Y.set r ((Y.getD r []).set j ((en X r (N + j) : Nat) : Int)) := by unfold put; rw [Nat.zero_add]
    have hj : j + 1 + n = N := by omega
    have b1 : r < 9223372036854775807 := by omega
    have b2 : N + j < 9223372036854775807 := by omega
    have wj := wrap_nat (N + j) b2
    have w1 : wrap64 ((r : Int) - 0) = (r : Int) := wrap_zero r b1
    have w2 : wrap64 (((N + j : Nat) : Int) - (N : Int)) = (j : Int) := wrap_less N j b2
    unfold rd_L1 rd
    simp only [w1, w2, toNat_cast, if_pos c1, if_pos c2, if_pos c3, if_pos c4, if_pos c5, if_pos c6, if_pos c7, if_pos c8, ea.1, wj, ← e0]
    exact sub_l1 r hr res n (j + 1) (put Y r (0 + j) (en X r (N + j))) (hY.put r _ _ hr ea.2) hj hr'
theorem sub_l0 : ∀ (n r : Nat) (Y : List (List Int)), r + n = N → Ok N N Y → (∀ i j, i < r → j < N → fn Y i j = fn X i (N + j)) →
    ∃ Y', Ev (fun k => reedsolomon_matrix_SubMatrix.l0 k X 0 (N : Int) (N : Int) ((N + N : Nat) : Int) Y (r : Int)) (Y', none) ∧ Ok N N Y' ∧ ∀ i j, i < N → j < N → fn Y' i j = fn X i (N + j)
  | 0, r, Y, h, hY, hp => by
    obtain rfl : r = N := by omega
    refine ⟨Y, ?_, hY, hp⟩
    refine Ev.step (fun q => reedsolomon_matrix_SubMatrix.l0.eq_2 _ _ _ _ _ _ _ _) ?_
    have c1 : ¬ (r : Int) < (r : Int) := by omega
    simp only [if_neg c1]
    exact Ev.now _
  | n + 1, r, Y, h, hY, hp => by
    have hr : r < N := by omega
    obtain ⟨k1, k2⟩ := cpF_spec (M := N) (fun j => en X r (N + j)) r 0 (fun j => (en_spec hX.by_ r (N + j)).2) hr N 0 Y hY (by omega)
    obtain ⟨Y', h1, h2, h3⟩ := sub_l0 n (r + 1) _ (by omega) k1 (fun i j hi hj => by
      rw [k2]
      by_cases e : i = r
      · subst e
        rw [if_pos (by omega)]
        refine Fin.ext ?_
        rw [fn_en hX.by_]
        show en X i (N + (j - 0)) = _
        rw [Nat.sub_zero]
      · rw [if_neg (by omega)]
        exact hp i j (by omega) hj)
    refine ⟨Y', ?_, h2, h3⟩
    refine Ev.step (fun q => reedsolomon_matrix_SubMatrix.l0.eq_2 _ _ _ _ _ _ _ _) ?_
    have c1 : (r : Int) < (N : Int) := by omega
    simp only [if_pos c1]
    exact sub_l1 hN hN0 hX r hr _ N 0 Y hY (by omega) h1
theorem sub_ev : ∃ Y', Ev (fun k => reedsolomon_matrix_SubMatrix.f k X 0 (N : Int) (N : Int) (wrap64 ((N : Int) * 2))) (Y', none) ∧ Ok N N Y' ∧ ∀ i j, i < N → j < N → fn Y' i j = fn X i (N + j) := by
  obtain ⟨Y', h1, h2, h3⟩ := sub_l0 hN hN0 hX N 0 _ (by omega) (zero_ok N N) (fun i j hi => by omega)
  refine ⟨Y', ?_, h2, h3⟩
  have hnew := new_ev N N hN0 hN0 (by omega) (by omega)
  have b1 : N < 9223372036854775807 := by omega
  have b2 : N + N < 9223372036854775807 := by omega
  have w1 : wrap64 ((N : Int) * 2) = ((N + N : Nat) : Int) := wrap_twice N b2
  have w2 : wrap64 ((N : Int) - 0) = (N : Int) := wrap_zero N b1
  have w3 : wrap64 (((N + N : Nat) : Int) - (N : Int)) = (N : Int) := wrap_less N N b2
  unfold reedsolomon_matrix_SubMatrix.f
  simp only [w1, w2, w3]
  refine Ev.bind hnew ?_
  simp only [Option.isNone_none, if_true]
  exact h1
end
theorem unit_at (N : Nat) : ∀ (n i : Nat) (X : List (List Int)), Ok N N X → i + n = N → (∀ r c, r < N → c < N → fn X r c = if r = c ∧ r < i then 1 else 0) →
    Ok N N (dg n i X) ∧ ∀ r c, r < N → c < N → fn (dg n i X) r c = if r = c then 1 else 0
  | 0, i, X, hX, h, hp => ⟨hX, fun r c hr hc => by
      unfold dg
      rw [hp r c hr hc]
      by_cases e : r = c
      · rw [if_pos ⟨e, by omega⟩, if_pos e]
      · rw [if_neg (fun h => e h.1), if_neg e]⟩
  | n + 1, i, X, hX, h, hp => by
    have e0 : X.set i ((X.getD i []).set i 1) = put X i i 1 := rfl
    unfold dg
    rw [e0]
    refine unit_at N n (i + 1) (put X i i 1) (hX.put i i 1 (by omega) (by decide)) (by omega) (fun r c hr hc => ?_)
    rw [fn_put hX.sq i i 1 (by omega) (by omega) (by decide), hp r c hr hc]
    by_cases e : r = i ∧ c = i
    · rw [if_pos e, if_pos (by omega)]
      rfl
    · rw [if_neg e]
      by_cases e2 : r = c ∧ r < i
      · rw [if_pos e2, if_pos (by omega)]
      · rw [if_neg e2, if_neg (by omega)]
theorem unit_ok (N : Nat) : Ok N N (unit N) ∧ ∀ r c, r < N → c < N → fn (unit N) r c = if r = c then 1 else 0 :=
  unit_at N N 0 _ (zero_ok N N) (by omega) (fun r c hr hc => by
    rw [if_neg (by omega)]
    have : en (List.replicate N (List.replicate N (0 : Int))) r c = 0 := by
      unfold en
      simp [List.getD_eq_getElem?_getD, List.getElem?_replicate, hr, hc]
    exact (fn_zero (zero_ok N N).by_ r c).2 this)
end Go.Proofs.YtipbhclpeogcmaaDoor.Gauss
