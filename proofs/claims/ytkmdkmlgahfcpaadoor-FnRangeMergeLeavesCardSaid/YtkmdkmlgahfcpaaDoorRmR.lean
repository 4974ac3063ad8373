/- The specification's ranges of leaves, and the implementation's merge of two of them. -/
import Derived.Test.YtkmdkmlgahfcpaaDoorRmQ
namespace Go.Proofs.YtkmdkmlgahfcpaaDoor.M
open Go Go.RowKit Go.Proofs.YtkmdkmlgahfcpaaDoor.Nodes Go.Proofs.YtkmdkmlgahfcpaaDoor.Ranges Go.Proofs.YtkmdkmlgahfcpaaDoor.Log Go.Proofs.YtkmdkmlgahfcpaaDoorW.PrintWords Go.Proofs.YtkmdkmlgahfcpaaDoorW.PrintLast Go.Proofs.YtkmdkmlgahfcpaaDoorW.PrintMore
set_option linter.unusedVariables false
set_option linter.unusedSimpArgs false
theorem lev64 {h x e : Nat} (hle : (x + 1) * 2 ^ h ≤ e) (he : e < 2 ^ 64) : h < 64 ∧ x + 1 < 2 ^ 64 ∧ x * 2 ^ h + 2 ^ h ≤ e := by
  have h1 : 2 ^ h ≤ (x + 1) * 2 ^ h := Nat.le_mul_of_pos_left _ (Nat.succ_pos _)
  have h2 : x + 1 ≤ (x + 1) * 2 ^ h := Nat.le_mul_of_pos_right _ (pow_pos h)
  refine ⟨?_, by omega, ?_⟩
  · apply Nat.lt_of_not_le
    intro h64
    have := pow_mono h64
    omega
  · rw [Nat.add_mul, Nat.one_mul] at hle
    exact hle
theorem leaves_eq {h x e : Nat} (hle : (x + 1) * 2 ^ h ≤ e) (he : e < 2 ^ 64) : spec_Leaves.f (h : Int) (x : Int) = some (((x * 2 ^ h : Nat) : Int), (((x + 1) * 2 ^ h : Nat) : Int)) := by
  obtain ⟨h1, h2, h3⟩ := lev64 hle he
  unfold spec_Leaves.f
  have e1 : IntKind.u64.wrap ((x : Int) + 1) = ((x + 1 : Nat) : Int) := Log.u64_nat (x + 1) (by omega)
  rw [if_pos (Int.natCast_nonneg h), e1, shl_u64 _ _ (Nat.le_of_lt h1) (Nat.lt_of_le_of_lt (Nat.le_trans (Nat.le_add_right _ _) h3) he), shl_u64 _ _ (Nat.le_of_lt h1) (Nat.lt_of_le_of_lt hle he)]
theorem rd_at {α : Type} (pre rest : List α) (n z : α) : (pre ++ n :: rest).getD ((pre.length : Int)).toNat z = n := by
  rw [Int.toNat_natCast, List.getD_eq_getElem?_getD, List.getElem?_append_right (Nat.le_refl _), Nat.sub_self]
  rfl
theorem rangeOf_loop {a0 a1 a2 a3 a4 a5 : Int} {q : List (List Int)} {s e : Nat} (hq : ∀ r ∈ q, r.length ≤ 5000) (hql : q.length ≤ 300) (hse : e = s + q.length) (he : e < 2 ^ 64) {N : List (Nat × Nat)} (hG : G s e N) (hN : N.length ≤ 1000) :
    ∀ (rest pre : List (Nat × Nat)), N = pre ++ rest → Ev (fun k => spec_RangeOf.l0 k (s : Int) q (N.map im) (N.length : Int) (pre.length : Int) a0 a1 a2 a3 a4 a5 (s : Int) (e : Int) (pre.map (Tn a0 a2 a5 q s))) ((s : Int), (e : Int), N.map (Tn a0 a2 a5 q s))
  | [], pre, h => by
    rw [List.append_nil] at h
    subst h
    refine Ev.step (fun k => spec_RangeOf.l0.eq_2 ..) ?_
    simp only [if_neg (show ¬ (N.length : Int) < (N.length : Int) by omega)]
    exact Ev.now _
  | n :: rest, pre, h => by
    have hlen : N.length = pre.length + (rest.length + 1) := by rw [h, List.length_append, List.length_cons]
    obtain ⟨hb1, hb2⟩ := hG.bound n (by rw [h]; simp)
    have hb3 : (n.2 + 1) * 2 ^ n.1 ≤ e := by rw [Nat.add_mul, Nat.one_mul]; exact hb2
    have hp := pow_pos n.1
    have hn : rd_T54 (N.map im) (pre.length : Int) = im n := by
      unfold rd_T54
      have h9 := rd_at (pre.map im) (rest.map im) (im n) z54
      rw [List.length_map] at h9
      rw [h, List.map_append, List.map_cons]
      exact h9
    have hlv : spec_Leaves.f (im n).f0 (im n).f1 = some (((n.2 * 2 ^ n.1 : Nat) : Int), (((n.2 + 1) * 2 ^ n.1 : Nat) : Int)) := leaves_eq hb3 he
    have e3 : (n.2 + 1) * 2 ^ n.1 - s - (n.2 * 2 ^ n.1 - s) = 2 ^ n.1 := by rw [Nat.add_mul, Nat.one_mul]; omega
    have ew1 : IntKind.u64.wrap (((n.2 * 2 ^ n.1 : Nat) : Int) - (s : Int)) = ((n.2 * 2 ^ n.1 - s : Nat) : Int) := Log.sub_u64 _ _ hb1 (by omega)
    have ew2 : IntKind.u64.wrap ((((n.2 + 1) * 2 ^ n.1 : Nat) : Int) - (s : Int)) = (((n.2 + 1) * 2 ^ n.1 - s : Nat) : Int) := Log.sub_u64 _ _ (by rw [Nat.add_mul, Nat.one_mul]; omega) (by omega)
    have hAB : n.2 * 2 ^ n.1 - s < (n.2 + 1) * 2 ^ n.1 - s := by rw [Nat.add_mul, Nat.one_mul]; omega
    have hBq : (n.2 + 1) * 2 ^ n.1 - s ≤ q.length := by omega
    have t : ((q.take ((n.2 + 1) * 2 ^ n.1 - s)).drop (n.2 * 2 ^ n.1 - s)).length = 2 ^ n.1 := by rw [List.length_drop, List.length_take, Nat.min_eq_left hBq]; exact e3
    have hR := root_ev (k0 := a0) (k1 := a1) (k2 := a2) (k3 := a3) (k4 := a4) (k5 := a5) 5000 (2 ^ n.1) ((q.take ((n.2 + 1) * 2 ^ n.1 - s)).drop (n.2 * 2 ^ n.1 - s)) t hp (fun r hr => hq r (List.mem_of_mem_take (List.mem_of_mem_drop hr))) (by omega)
    have hcut := mth_cut (α := Int) (hc a0 a2 a5) q (n.2 * 2 ^ n.1 - s) ((n.2 + 1) * 2 ^ n.1 - s) hAB hBq
    rw [e3] at hcut
    rw [hcut] at hR
    have ih := rangeOf_loop (a0 := a0) (a1 := a1) (a2 := a2) (a3 := a3) (a4 := a4) (a5 := a5) hq hql hse he hG hN rest (pre ++ [n]) (by rw [h, List.append_assoc]; rfl)
    rw [List.length_append, List.length_singleton, List.map_append, List.map_singleton] at ih
    refine Ev.step (fun k => spec_RangeOf.l0.eq_2 ..) ?_
    have c1 : (pre.map (Tn a0 a2 a5 q s)).length < 5864062014805 := by rw [List.length_map]; omega
    have c2 : (pre.length : Int) < ((N.map im).length : Int) := by rw [List.length_map]; omega
    have c3 : ((n.2 * 2 ^ n.1 - s : Nat) : Int) ≤ (((n.2 + 1) * 2 ^ n.1 - s : Nat) : Int) := Int.ofNat_le.mpr (Nat.le_of_lt hAB)
    have c4 : (((n.2 + 1) * 2 ^ n.1 - s : Nat) : Int) ≤ (q.length : Int) := Int.ofNat_le.mpr hBq
    have c5 : (pre.length : Int) < (N.length : Int) := by omega
    have c6 : (0 : Int) ≤ (pre.length : Int) := by omega
    simp only [if_pos c5, if_pos c6, if_pos c2, hn, hlv, Option.bind_some, ew1, ew2, if_pos (Int.natCast_nonneg (n.2 * 2 ^ n.1 - s)), if_pos c3, if_pos c4, Int.toNat_natCast, if_pos c1, Log.wrap_nat pre.length (by omega)]
    exact Ev.bind hR ih
theorem rangeOf_ev {a0 a1 a2 a3 a4 a5 : Int} {q : List (List Int)} {s e : Nat} (hq : ∀ r ∈ q, r.length ≤ 5000) (hql : q.length ≤ 300) (hse : e = s + q.length) (he : e < 2 ^ 64) {N : List (Nat × Nat)} (hG : G s e N) (hN : N.length ≤ 1000) :
    Ev (fun k => spec_RangeOf.f k a0 a1 a2 a3 a4 a5 (s : Int) q) ((s : Int), (e : Int), N.map (Tn a0 a2 a5 q s)) := by
  unfold spec_RangeOf.f
  have e1 : IntKind.u64.wrap (q.length : Int) = (q.length : Int) := Log.u64_nat _ (by omega)
  have e2 : IntKind.u64.wrap ((s : Int) + (q.length : Int)) = (e : Int) := by rw [hse]; exact Log.add_u64 _ _ (by omega)
  simp only [e1, e2]
  refine Ev.bind (specNodes_ev hG he (by omega)) ?_
  have := rangeOf_loop (a0 := a0) (a1 := a1) (a2 := a2) (a3 := a3) (a4 := a4) (a5 := a5) hq hql hse he hG hN N [] rfl
  simp only [List.length_map]
  exact this
/-- The tree over the leaves below a node is the same in the part and in the whole. -/
theorem Tn_left (k0 k2 k5 : Int) {l2 l3 : List (List Int)} {b : Nat} {n : Nat × Nat} (h1 : b ≤ n.2 * 2 ^ n.1) (h2 : n.2 * 2 ^ n.1 + 2 ^ n.1 ≤ b + l2.length) : Tn k0 k2 k5 l2 b n = Tn k0 k2 k5 (l2 ++ l3) b n := by
  refine mth_cong _ _ _ _ _ _ (pow_pos n.1) (fun i hi => ?_)
  unfold Lf
  rw [List.getD_eq_getElem?_getD, List.getD_eq_getElem?_getD, List.getElem?_append_left (by omega)]
theorem Tn_right (k0 k2 k5 : Int) {l2 l3 : List (List Int)} {b : Nat} {n : Nat × Nat} (h1 : b + l2.length ≤ n.2 * 2 ^ n.1) : Tn k0 k2 k5 l3 (b + l2.length) n = Tn k0 k2 k5 (l2 ++ l3) b n := by
  refine mth_cong _ _ _ _ _ _ (pow_pos n.1) (fun i hi => ?_)
  unfold Lf
  rw [List.getD_eq_getElem?_getD, List.getD_eq_getElem?_getD, List.getElem?_append_right (by omega)]
  congr 2
  omega
theorem map_left (k0 k2 k5 : Int) {l2 l3 : List (List Int)} {b : Nat} {N : List (Nat × Nat)} (hG : G b (b + l2.length) N) : N.map (Tn k0 k2 k5 l2 b) = N.map (Tn k0 k2 k5 (l2 ++ l3) b) :=
  List.map_congr_left (fun n hn => Tn_left k0 k2 k5 (hG.bound n hn).1 (hG.bound n hn).2)
theorem map_right (k0 k2 k5 : Int) {l2 l3 : List (List Int)} {b e : Nat} {N : List (Nat × Nat)} (hG : G (b + l2.length) e N) : N.map (Tn k0 k2 k5 l3 (b + l2.length)) = N.map (Tn k0 k2 k5 (l2 ++ l3) b) :=
  List.map_congr_left (fun n hn => Tn_right k0 k2 k5 (hG.bound n hn).1)
theorem map_fit (k0 k2 k5 : Int) {l : List (List Int)} {b e : Nat} {N : List (Nat × Nat)} (hl : ∀ r ∈ l, r.length ≤ 5000) (hbe : e ≤ b + 300) {p : Nat} (hp : b ≤ p) (hG : G p e N) : ∀ r ∈ N.map (Tn k0 k2 k5 l b), r.length ≤ 70368744177664 := by
  intro r hr
  obtain ⟨n, hn, rfl⟩ := List.mem_map.1 hr
  have hb := hG.bound n hn
  have := Tn_len k0 k2 k5 (l := l) (b := b) (h := n.1) (x := n.2) hl (by omega)
  exact Nat.le_trans this (by omega)
theorem size_of {b e : Nat} {N : List (Nat × Nat)} (hbe : b ≤ e) (he : e < 2 ^ 64) (hG : G b e N) : compact_RangeSize.f (b : Int) (e : Int) = some (N.length : Int) ∧ N.length ≤ 128 := by
  obtain ⟨L, h1, h2, h3⟩ := size_G b e hbe he
  rw [hG.det h1]
  exact ⟨h3, h2⟩
theorem appendRange_ev {a0 a1 a2 a3 a4 a5 : Int} {l : List (List Int)} {b m e : Nat} (hl : ∀ r ∈ l, r.length ≤ 5000) (hbe : e ≤ b + 300) (hb : b ≤ m) (hme : m ≤ e) (he : e < 2 ^ 64) {N1 N2 : List (Nat × Nat)} (h1 : G b m N1) (h2 : G m e N2) :
    ∃ vis N, G b e N ∧ N.length ≤ 128 ∧ Ev (fun k => impl_AppendRange.f k a0 a1 a2 a3 a4 a5 (b : Int) (m : Int) (N1.map (Tn a0 a2 a5 l b)) (m : Int) (e : Int) (N2.map (Tn a0 a2 a5 l b))) ((b : Int), (e : Int), N.map (Tn a0 a2 a5 l b), vis, true)
      ∧ (b = m ∨ m = e → vis = []) ∧ (b < m → m < e → ∃ lo d : Nat, vis = Vs_ a0 a2 a5 l b m lo d ∧ 2 ^ lo ∣ m ∧ m / 2 ^ lo % 2 = 1 ∧ ∀ D, Fits b e m D → ¬ Fits b e m (D + 1) → d = D - lo) := by
  obtain ⟨s1, n1⟩ := size_of hb (by omega) h1
  obtain ⟨s2, n2⟩ := size_of hme he h2
  have t1 := texts_ev (N1.map (Tn a0 a2 a5 l b)) (by rw [List.length_map]; omega) (map_fit a0 a2 a5 hl (by omega) (Nat.le_refl _) h1)
  have t2 := texts_ev (N2.map (Tn a0 a2 a5 l b)) (by rw [List.length_map]; omega) (map_fit a0 a2 a5 hl hbe hb h2)
  have r1 : rgNew (b : Int) (m : Int) (N1.map (Tn a0 a2 a5 l b)) := ⟨by omega, by rw [s1, List.length_map], by omega, by omega⟩
  have r2 : rgNew (m : Int) (e : Int) (N2.map (Tn a0 a2 a5 l b)) := ⟨by omega, by rw [s2, List.length_map], by omega, by omega⟩
  have key : ∃ vis N, G b e N ∧ Ev (fun k => rgMerge k a0 a1 a2 a3 a4 a5 (b : Int) (m : Int) (N1.map (Tn a0 a2 a5 l b)) (m : Int) (e : Int) (N2.map (Tn a0 a2 a5 l b)) []) ((e : Int), N.map (Tn a0 a2 a5 l b), vis)
      ∧ (b = m ∨ m = e → vis = []) ∧ (b < m → m < e → ∃ lo d : Nat, vis = Vs_ a0 a2 a5 l b m lo d ∧ 2 ^ lo ∣ m ∧ m / 2 ^ lo % 2 = 1 ∧ ∀ D, Fits b e m D → ¬ Fits b e m (D + 1) → d = D - lo) := by
    have cl : (N2.map (Tn a0 a2 a5 l b)).length < 1000000 := by rw [List.length_map]; omega
    cases N2 with
    | nil =>
      have hme2 : m = e := (h2.empty).1 rfl
      subst hme2
      refine ⟨[], N1, h1, ?_, fun _ => rfl, fun _ h => absurd h (Nat.lt_irrefl _)⟩
      unfold rgMerge
      simp only [List.map_nil, if_true, List.length_nil, if_pos (show 0 < 1000000 by decide)]
      exact Ev.now _
    | cons n0 R =>
      have hlt : m < e := by
        apply Nat.lt_of_le_of_ne hme
        intro h
        have := (h2.empty).2 h
        cases this
      rw [List.length_cons] at n2
      obtain ⟨vis, N, p1, p2, p3, p4⟩ := rgApp_ev2 (a0 := a0) (a1 := a1) (a2 := a2) (a3 := a3) (a4 := a4) (a5 := a5) hl hbe hb hlt he h1 h2 (by omega) (by omega)
      refine ⟨vis, N, p1, ?_, fun h => p3 (h.resolve_right (by omega)), fun h _ => p4 h⟩
      unfold rgMerge
      have hne : ¬ ((n0 :: R).map (Tn a0 a2 a5 l b) = []) := by simp
      simp only [if_true, if_pos cl, if_neg hne]
      exact Ev.bind p2 (Ev.now _)
  obtain ⟨vis, N, p1, p2, p3, p4⟩ := key
  obtain ⟨_, n3⟩ := size_of (Nat.le_trans hb hme) he p1
  have t3 := texts_ev (N.map (Tn a0 a2 a5 l b)) (by rw [List.length_map]; omega) (map_fit a0 a2 a5 hl hbe (Nat.le_refl _) p1)
  refine ⟨vis, N, p1, n3, ?_, p3, p4⟩
  unfold impl_AppendRange.f
  refine Ev.bind t1 ?_
  simp only [if_pos r1]
  refine Ev.bind t2 ?_
  simp only [if_pos r2]
  exact Ev.bind p2 (Ev.bind t3 (Ev.now _))
end Go.Proofs.YtkmdkmlgahfcpaaDoor.M
