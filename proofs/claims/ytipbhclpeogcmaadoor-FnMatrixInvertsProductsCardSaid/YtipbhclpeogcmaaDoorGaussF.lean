/- FnMatrixInvertsProducts: products and inverses of square matrices; the printed law is true. -/
import Derived.Test.YtipbhclpeogcmaaDoorGaussE
import Derived.Test.YtipbhclpeogcmaaDoorMulEndV
namespace Go.Proofs.YtipbhclpeogcmaaDoor.Gauss
open Go Go.RowKit Go.Proofs.YtipbhclpeogcmaaDoor.M Go.Proofs.YtipbhclpeogcmaaDoor.MatM Go.Proofs.YtipbhclpeogcmaaDoor.Field Go.Proofs.YtipbhclpeogcmaaDoorW.PrintMore Go.Proofs.YtipbhclpeogcmaaDoorW.PrintWords Go.Proofs.YtipbhclpeogcmaaDoorW.PrintLast
set_option linter.unusedVariables false
set_option linter.unusedSimpArgs false

theorem isInv_congr {n : Nat} {A X Y : Nat → Nat → E} (h : ∀ i j, i < n → j < n → X i j = Y i j) (hI : IsInv n A X) : IsInv n A Y := fun u t => by
  rw [hI u t]
  constructor
  · intro h1 i hi
    rw [h1 i hi]
    exact mv_congr' (fun j hj => h i j hi hj)
  · intro h1 i hi
    rw [h1 i hi]
    exact (mv_congr' (fun j hj => h i j hi hj)).symm
theorem isInv_congr_left {n : Nat} {A B X : Nat → Nat → E} (h : ∀ i j, i < n → j < n → A i j = B i j) (hI : IsInv n A X) : IsInv n B X := inv_symm (isInv_congr h (inv_symm hI))
theorem sing_congr {n : Nat} {A B : Nat → Nat → E} (h : ∀ i j, i < n → j < n → A i j = B i j) (hS : Sing n A) : Sing n B := by
  obtain ⟨v, hv, h0⟩ := hS
  exact ⟨v, hv, fun i hi => by rw [← mv_congr' (fun j hj => h i j hi hj)]; exact h0 i hi⟩
/-- The program's inverse of a square matrix. -/
theorem invert_ev {N : Nat} (hN : N ≤ 2000) (hN0 : 0 < N) {a : List (List Int)} (ha : Ok N N a) :
    (∃ X, Ev (fun k => reedsolomon_matrix_Invert.f k a) (X, none) ∧ Ok N N X ∧ IsInv N (fn a) (fn X)) ∨ (∃ c, Ev (fun k => reedsolomon_matrix_Invert.f k a) (([] : List (List Int)), some c)) ∧ Sing N (fn a) := by
  obtain ⟨hu, hu1⟩ := unit_ok N
  obtain ⟨W, g1, g2, g3⟩ := augment_ev hN hN0 ha hu
  obtain ⟨⟨er, Z⟩, z1, z2⟩ := gauss_ev (N := N) (M := N + N) (by omega) (by omega) (by omega) hN0 W g2
  have p1 : ∀ i j, i < N → j < N → fn W i j = fn a i j := fun i j hi hj => (g3 i j hi hj).1
  have p2 : ∀ i j, i < N → j < N → fn W i (N + j) = if i = j then 1 else 0 := fun i j hi hj => by rw [(g3 i j hi hj).2, hu1 i j hi hj]
  have ha1 := ha.sq.1
  have ha2 := ha.sq.2 0 hN0
  have hi := ident_ev N hN0 (by omega)
  have c0 : 0 < (N : Int) := by omega
  have e0 : rd_L1 a 0 = a.getD 0 [] := rfl
  have hq : reedsolomon_matrix_IsSquare.f a = some true := by
    unfold reedsolomon_matrix_IsSquare.f
    simp only [ha1, e0, ha2, if_pos c0, beq_self_eq_true]
  rcases z2 with ⟨q1, q2, q3, q4⟩ | ⟨⟨c, q1⟩, W', r, hr, q3, q4, q5⟩
  · obtain rfl : er = none := q1
    obtain ⟨Y, y1, y2, y3⟩ := sub_ev hN hN0 (X := Z) q2
    refine .inl ⟨Y, ?_, y2, isInv_congr (fun i j hi hj => (y3 i j hi hj).symm) (tells_inverse p1 p2 q3 q4)⟩
    unfold reedsolomon_matrix_Invert.f
    simp only [hq, Option.bind_some, if_true, ha1]
    refine Ev.bind hi (Ev.bind g1 (Ev.bind z1 ?_))
    simp only [Option.isNone_none, if_true]
    exact Ev.bind y1 (Ev.now _)
  · obtain rfl : er = some c := q1
    refine .inr ⟨⟨c, ?_⟩, tells_singular p1 p2 q3 hr q4 q5⟩
    unfold reedsolomon_matrix_Invert.f
    simp only [hq, Option.bind_some, if_true, ha1]
    refine Ev.bind hi (Ev.bind g1 (Ev.bind z1 ?_))
    simp only [Option.isNone_some, Bool.false_eq_true, if_false, Option.getD_some]
    exact Ev.now _
theorem ok_small {N M : Nat} {X : List (List Int)} (h : Ok N M X) (hN : N ≤ 4096) (hM : M ≤ 4096) : Small X := small_sq h.sq hN hM
theorem nil_small : Small [] := ⟨by decide, fun r hr => by cases hr⟩
theorem ok_chk {N : Nat} (hN0 : 0 < N) {a : List (List Int)} (ha : Ok N N a) : chk a = true := by
  have h1 := ha.sq.1
  have h2 := ha.sq.2 0 hN0
  unfold chk
  rw [Bool.and_eq_true, Bool.and_eq_true, decide_eq_true_eq, decide_eq_true_eq, List.all_eq_true]
  refine ⟨⟨by omega, by omega⟩, fun r hr => ?_⟩
  obtain ⟨i, hi, rfl⟩ := List.getElem_of_mem hr
  have h3 := ha.sq.2 i (by omega)
  have e : a.getD i [] = a[i] := by simp [hi]
  rw [e] at h3
  rw [decide_eq_true_eq, h3, h2]
theorem impl_invert_ev {N : Nat} (hN : N ≤ 2000) (hN0 : 0 < N) {a : List (List Int)} (ha : Ok N N a) :
    (∃ X, Ev (fun k => impl_Invert.f k a) (X, true) ∧ Ok N N X ∧ IsInv N (fn a) (fn X)) ∨ (Ev (fun k => impl_Invert.f k a) (([] : List (List Int)), false) ∧ Sing N (fn a)) := by
  have h1 := ha.sq.1
  have hm := isMatrix_ev a (by omega)
  rw [ok_chk hN0 ha] at hm
  have hr := rows_ev a (ok_small ha (by omega) (by omega))
  rcases invert_ev hN hN0 ha with ⟨X, x1, x2, x3⟩ | ⟨⟨c, x1⟩, x3⟩
  · refine .inl ⟨X, ?_, x2, x3⟩
    unfold impl_Invert.f reedsolomon_DoorInvert.f
    refine Ev.bind hm ?_
    simp only [if_true]
    refine Ev.bind hr (Ev.bind (a := (X, none)) (Ev.bind x1 (Ev.now _)) (Ev.bind (rows_ev X (ok_small x2 (by omega) (by omega))) ?_))
    simp only [Option.isNone_none, if_true]
    exact Ev.now _
  · refine .inr ⟨?_, x3⟩
    unfold impl_Invert.f reedsolomon_DoorInvert.f
    refine Ev.bind hm ?_
    simp only [if_true]
    refine Ev.bind hr (Ev.bind (a := (([] : List (List Int)), some c)) (Ev.bind x1 (Ev.now _)) (Ev.bind (rows_ev [] nil_small) ?_))
    simp only [Option.isNone_some, Bool.false_eq_true, if_false]
    exact Ev.now _
/-! ### the product -/
theorem sm_front (f : Nat → E) (n : Nat) : sm f (n + 1) = ad (f 0) (sm (fun k => f (k + 1)) n) := by
  rw [Nat.add_comm n 1, sm_add]
  congr 1
  · exact zero_ad _
  · exact sm_congr n (fun k _ => by rw [Nat.add_comm])
theorem dot_spec {a b : List (List Int)} (ha : Bytes a) (hb : Bytes b) (i j : Nat) : ∀ (n k acc : Nat) (h : acc < 256) (h' : dot a b i j n k acc < 256), (⟨dot a b i j n k acc, h'⟩ : E) = ad ⟨acc, h⟩ (sm (fun t => ml (fn a i (k + t)) (fn b (k + t) j)) n)
  | 0, k, acc, h, h' => by
    show _ = ad _ 0
    rw [ad_zero]
    rfl
  | n + 1, k, acc, h, h' => by
    have h2 : acc ^^^ gm (en a i k) (en b k j) < 256 := xor_lt h (gm_lt' _ _)
    have := dot_spec ha hb i j n (k + 1) _ h2 h'
    refine Eq.trans this ?_
    rw [sm_front, ← ad_assoc]
    congr 1
    · refine Fin.ext ?_
      show acc ^^^ gm (en a i k) (en b k j) = acc ^^^ gm (fn a i (k + 0)).val (fn b (k + 0) j).val
      rw [fn_en ha, fn_en hb]
      rfl
    · exact sm_congr n (fun t _ => by rw [show k + 1 + t = k + (t + 1) by omega])
theorem row_cp (a b : List (List Int)) (i : Nat) : ∀ (n j : Nat) (X : List (List Int)), i < X.length → X.set i (rowF a b i n j (X.getD i [])) = cpF (fun j => dot a b i j b.length 0 0) i 0 n j X
  | 0, j, X, h => by
    unfold rowF cpF
    exact set_self X i []
  | n + 1, j, X, h => by
    have := row_cp a b i n (j + 1) (put X i (0 + j) (dot a b i j b.length 0 0)) (by unfold put; rw [List.length_set]; exact h)
    unfold rowF cpF
    rw [← this]
    unfold put
    rw [getD_set_self _ _ _ _ h, List.set_set, Nat.zero_add]
theorem mat_fn {N : Nat} {a b : List (List Int)} (ha : Ok N N a) (hb : Ok N N b) : ∀ (n i : Nat) (X : List (List Int)), Ok N N X → i + n = N → (∀ r c, r < i → c < N → fn X r c = mm N (fn a) (fn b) r c) →
    Ok N N (matF a b N n i X) ∧ ∀ r c, r < N → c < N → fn (matF a b N n i X) r c = mm N (fn a) (fn b) r c
  | 0, i, X, hX, h, hp => ⟨hX, fun r c hr hc => hp r c (by omega) hc⟩
  | n + 1, i, X, hX, h, hp => by
    have hs : ∀ j, dot a b i j b.length 0 0 < 256 := fun j => dot_lt ha.by_ hb.by_ i j _ _ _ (by decide)
    obtain ⟨k1, k2⟩ := cpF_spec (M := N) (fun j => dot a b i j b.length 0 0) i 0 hs (by omega) N 0 X hX (by omega)
    unfold matF
    rw [row_cp a b i N 0 X (by rw [hX.sq.1]; omega)]
    refine mat_fn ha hb n (i + 1) _ k1 (by omega) (fun r c hr hc => ?_)
    rw [k2]
    by_cases e : r = i
    · subst e
      rw [if_pos (by omega)]
      have := dot_spec ha.by_ hb.by_ r c b.length 0 0 (by decide) (hs c)
      have e2 : (⟨dot a b r (c - 0) b.length 0 0, hs (c - 0)⟩ : E) = ⟨dot a b r c b.length 0 0, hs c⟩ := rfl
      refine e2.trans (this.trans ?_)
      rw [hb.sq.1]
      refine (zero_ad _).trans ?_
      unfold mm dt
      exact sm_congr N (fun t _ => by rw [Nat.zero_add])
    · rw [if_neg (by omega)]
      exact hp r c (by omega) hc
theorem ok_mod {N : Nat} (hN : N ≤ 40) {a : List (List Int)} (ha : Ok N N a) : Mod a := by
  have h1 := ha.sq.1
  refine ⟨by omega, fun r hr => ?_⟩
  obtain ⟨i, hi, rfl⟩ := List.getElem_of_mem hr
  have h3 := ha.sq.2 i (by omega)
  have e : a.getD i [] = a[i] := by simp [hi]
  rw [e] at h3
  omega
theorem multiply_ev {N : Nat} (hN : N ≤ 40) (hN0 : 0 < N) {a b : List (List Int)} (ha : Ok N N a) (hb : Ok N N b) :
    ∃ P, Ev (fun k => impl_Multiply.f k a b) (P, true) ∧ Ok N N P ∧ ∀ r c, r < N → c < N → fn P r c = mm N (fn a) (fn b) r c := by
  obtain ⟨h1, h2⟩ := mat_fn ha hb N 0 _ (zero_ok N N) (by omega) (fun r c hr => by omega)
  exact ⟨_, mult_good (F := ⟨ha.sq, hb.sq, by omega, by omega, by omega, hN0, hN0, hN0, ha.by_, hb.by_⟩) (ok_mod hN ha) (ok_mod hN hb) (ok_chk hN0 ha) (ok_chk hN0 hb), h1, h2⟩
/-! ### the law -/
theorem j2_false (x0 x7 : List (List Int)) (x8 : Bool) (x9 x11 : List (List Int)) (h : x8 = false) : Ev (fun k => laws_FnMatrixInvertsProducts.j2 k x0 x7 x8 x9 x11 false) true := by
  subst h
  refine Ev.step (fun q => laws_FnMatrixInvertsProducts.j2.eq_2 _ _ _ _ _ _ _) ?_
  simp only [Bool.false_eq_true, if_false]
  exact Ev.now _
theorem law_squares {N : Nat} (hN : N ≤ 40) (hN0 : 0 < N) {a b : List (List Int)} (ha : Ok N N a) (hb : Ok N N b) : Ev (fun k => laws_FnMatrixInvertsProducts.j1 k a b false) true := by
  obtain ⟨P, p1, p2, p3⟩ := multiply_ev hN hN0 ha hb
  refine Ev.step (fun q => laws_FnMatrixInvertsProducts.j1.eq_2 _ _ _ _) ?_
  simp only [Bool.false_eq_true, if_false]
  have hM : ∀ i j, i < N → j < N → mm N (fn a) (fn b) i j = fn P i j := fun i j hi hj => (p3 i j hi hj).symm
  rcases impl_invert_ev (by omega) hN0 ha with ⟨x, x1, x2, x3⟩ | ⟨x1, x3⟩
  · rcases impl_invert_ev (by omega) hN0 hb with ⟨y, y1, y2, y3⟩ | ⟨y1, y3⟩
    · have hI : IsInv N (fn P) (mm N (fn y) (fn x)) := isInv_congr_left hM (inv_mm x3 y3)
      rcases impl_invert_ev (by omega) hN0 p2 with ⟨q, q1, q2, q3⟩ | ⟨q1, q3⟩
      · refine Ev.bind p1 (Ev.bind q1 (Ev.bind x1 (Ev.bind y1 ?_)))
        simp only [if_true]
        refine Ev.step (fun q => laws_FnMatrixInvertsProducts.j2.eq_2 _ _ _ _ _ _ _) ?_
        simp only [bne_self_eq_false, Bool.false_eq_true, if_false, if_true]
        obtain ⟨T, t1, t2, t3⟩ := multiply_ev hN hN0 y2 x2
        have eq1 : q = T := ext_of q2 t2 (fun i j hi hj => by rw [inv_unique q3 hI i j hi hj, t3 i j hi hj])
        subst eq1
        rcases impl_invert_ev (by omega) hN0 x2 with ⟨z, z1, z2, z3⟩ | ⟨z1, z3⟩
        · have eq2 : z = a := ext_of z2 ha (fun i j hi hj => inv_unique z3 (inv_symm x3) i j hi hj)
          subst eq2
          refine Ev.bind t1 (Ev.bind z1 ?_)
          simp only [if_true]
          refine Ev.bind (eq_self q (ok_small q2 (by omega) (by omega))) ?_
          simp only [if_true]
          exact Ev.bind (eq_self z (ok_small z2 (by omega) (by omega))) (Ev.now _)
        · exact absurd z3 (inv_not_sing (inv_symm x3))
      · exact absurd q3 (inv_not_sing hI)
    · have hS : Sing N (fn P) := sing_congr hM (sing_right y3)
      rcases impl_invert_ev (by omega) hN0 p2 with ⟨q, q1, q2, q3⟩ | ⟨q1, q3⟩
      · exact absurd hS (inv_not_sing q3)
      · refine Ev.bind p1 (Ev.bind q1 (Ev.bind x1 (Ev.bind y1 ?_)))
        simp only [if_true, bne_self_eq_false]
        exact j2_false _ _ _ _ _ rfl
  · have hS : Sing N (fn P) := by
      rcases impl_invert_ev (by omega) hN0 hb with ⟨y, y1, y2, y3⟩ | ⟨y1, y3⟩
      · exact sing_congr hM (sing_left x3 y3)
      · exact sing_congr hM (sing_right y3)
    rcases impl_invert_ev (by omega) hN0 p2 with ⟨q, q1, q2, q3⟩ | ⟨q1, q3⟩
    · exact absurd hS (inv_not_sing q3)
    · rcases impl_invert_ev (by omega) hN0 hb with ⟨y, y1, y2, y3⟩ | ⟨y1, y3⟩
      all_goals
        refine Ev.bind p1 (Ev.bind q1 (Ev.bind x1 (Ev.bind y1 ?_)))
        simp only [if_true, Bool.false_eq_true, if_false, bne_self_eq_false]
        exact j2_false _ _ _ _ _ rfl
theorem j1_true (a b : List (List Int)) : Ev (fun k => laws_FnMatrixInvertsProducts.j1 k a b true) true := by
  refine Ev.step (fun q => laws_FnMatrixInvertsProducts.j1.eq_2 _ _ _ _) ?_
  simp only [if_true]
  exact Ev.now _
theorem j0_true (a b : List (List Int)) : Ev (fun k => laws_FnMatrixInvertsProducts.j0 k a b true) true := by
  refine Ev.step (fun q => laws_FnMatrixInvertsProducts.j0.eq_2 _ _ _ _) ?_
  simp only [if_true]
  exact Ev.now _
theorem inverts_ev (a b : List (List Int)) (ba : Bytes a) (bb : Bytes b) : Ev (fun k => laws_FnMatrixInvertsProducts.f k a b) true := by
  unfold laws_FnMatrixInvertsProducts.f
  obtain ⟨r1, f1⟩ := fits_ev a
  refine Ev.bind f1 ?_
  cases r1 with
  | false => simp only [Bool.false_eq_true, if_false]; exact j0_true a b
  | true =>
  simp only [if_true]
  obtain ⟨r2, f2⟩ := fits_ev b
  refine Ev.bind f2 ?_
  cases r2 with
  | false => exact j0_true a b
  | true =>
  refine Ev.step (fun q => laws_FnMatrixInvertsProducts.j0.eq_2 _ _ _ _) ?_
  simp only [Bool.not_true, Bool.false_eq_true, if_false]
  rcases moderate_ev a b with ⟨ma, mb, m1⟩ | m1
  case inr =>
    refine Ev.bind m1 ?_
    simp only [Bool.false_eq_true, if_false]
    exact j1_true a b
  refine Ev.bind m1 ?_
  have la := ma.1
  have lb := mb.1
  simp only [if_true]
  refine Ev.bind (rect_ev a (by omega)) ?_
  by_cases ha : chk a = true
  case neg =>
    simp only [ha, if_false]
    exact j1_true a b
  simp only [ha, if_true]
  refine Ev.bind (rect_ev b (by omega)) ?_
  by_cases hb : chk b = true
  case neg =>
    simp only [hb, if_false]
    exact j1_true a b
  have sa := chk_spec ha
  have sb := chk_spec hb
  simp only [hb, if_true, columns_eq, Option.bind_some]
  by_cases e1 : (((a.getD 0 []).length : Nat) : Int) = (a.length : Int)
  case neg =>
    simp only [if_neg e1]
    exact j1_true a b
  simp only [if_pos e1]
  by_cases e2 : (b.length : Int) = (a.length : Int)
  case neg =>
    simp only [if_neg e2]
    exact j1_true a b
  simp only [if_pos e2]
  by_cases e3 : (((b.getD 0 []).length : Nat) : Int) = (a.length : Int)
  · have e4 : ((((b.getD 0 []).length : Nat) : Int) != (a.length : Int)) = false := by rw [e3]; exact bne_self_eq_false _
    rw [e4]
    have oa : Ok a.length a.length a := ⟨by have := sa.2.2; rwa [show (a.getD 0 []).length = a.length by omega] at this, ba⟩
    have ob : Ok a.length a.length b := ⟨by have := sb.2.2; rwa [show (b.getD 0 []).length = a.length by omega, show b.length = a.length by omega] at this, bb⟩
    exact law_squares la sa.1 oa ob
  · have e4 : ((((b.getD 0 []).length : Nat) : Int) != (a.length : Int)) = true := bne_iff_ne.2 e3
    rw [e4]
    exact j1_true a b
theorem inverts_calls (A0 : Option Addr) (c0 : Nat) (a : List (List Int)) (A1 : Option Addr) (c1 : Nat) (b : List (List Int)) (w : World) (hT : TabOK w)
    (hr0 : Kd.C (Kd.slice 5 (Kd.int .u8)) w A0 a.length a) (hc0 : a.length ≤ c0) (hr1 : Kd.C (Kd.slice 5 (Kd.int .u8)) w A1 b.length b) (hc1 : b.length ≤ c1) (ba : Bytes a) (bb : Bytes b) :
    Calls Tryd.prog 8 #[.slice A0 a.length c0, .slice A1 b.length c1] w fun e w' => e = .returned (.bool true) ∧ Below w.heap.size w w' := by
  obtain ⟨k, h⟩ := Ev.rounds (g := fun k => laws_FnMatrixInvertsProducts.f k a b) (r := true) (inverts_ev a b ba bb)
  exact laws_FnMatrixInvertsProducts.calls k (fun k => k < w.heap.size) A0 c0 a (fun k => k < w.heap.size) A1 c1 b true w hT (Kd.V_mk hc0 (Kd.C_F (Kd.heap_slice 5 (Kd.heap_int .u8)) hr0)) (Kd.V_mk hc1 (Kd.C_F (Kd.heap_slice 5 (Kd.heap_int .u8)) hr1)) h
end Go.Proofs.YtipbhclpeogcmaaDoor.Gauss
