/- FnMatrixMultiplies in plain lists: the program's product and the definition's are one list. -/
import Derived.Test.YtipbhclpeogcmaaDoorMatV
import Derived.Test.YtipbhclpeogcmaaDoorFldE
import Derived.Laws.BitsAllLaws
namespace Go.Proofs.YtipbhclpeogcmaaDoor.MatM
open Go Go.RowKit Go.Proofs.YtipbhclpeogcmaaDoor.M Go.Proofs.YtipbhclpeogcmaaDoor.Field Go.Proofs.YtipbhclpeogcmaaDoorW.PrintMore Go.Proofs.YtipbhclpeogcmaaDoorW.PrintWords Go.Proofs.YtipbhclpeogcmaaDoorW.PrintLast
set_option linter.unusedVariables false
set_option linter.unusedSimpArgs false

def Bytes (l : List (List Int)) : Prop := ∀ r ∈ l, ∀ x ∈ r, 0 ≤ x ∧ x < 256
def en (l : List (List Int)) (i j : Nat) : Nat := ((l.getD i []).getD j 0).toNat
theorem getD_mem {α : Type} (l : List α) (i : Nat) (d : α) : l.getD i d ∈ l ∨ l.getD i d = d := by
  by_cases h : i < l.length
  · rw [List.getD_eq_getElem?_getD, List.getElem?_eq_getElem h, Option.getD_some]
    exact .inl (List.getElem_mem h)
  · rw [List.getD_eq_getElem?_getD, List.getElem?_eq_none (by omega), Option.getD_none]
    exact .inr rfl
theorem en_spec {l : List (List Int)} (h : Bytes l) (i j : Nat) : (l.getD i []).getD j 0 = ((en l i j : Nat) : Int) ∧ en l i j < 256 := by
  have hx : 0 ≤ (l.getD i []).getD j 0 ∧ (l.getD i []).getD j 0 < 256 := by
    rcases getD_mem (l.getD i []) j 0 with h2 | h2
    · rcases getD_mem l i [] with h1 | h1
      · exact h _ h1 _ h2
      · rw [h1] at h2; cases h2
    · rw [h2]; decide
  unfold en
  omega
def dot (a b : List (List Int)) (i j : Nat) : Nat → Nat → Nat → Nat
  | 0, _, acc => acc
  | n + 1, k, acc => dot a b i j n (k + 1) (acc ^^^ gm (en a i k) (en b k j))
theorem dot_lt {a b : List (List Int)} (ha : Bytes a) (hb : Bytes b) (i j : Nat) : ∀ n k acc, acc < 256 → dot a b i j n k acc < 256
  | 0, _, _, h => h
  | n + 1, k, acc, h => dot_lt ha hb i j n (k + 1) _ (Nat.xor_lt_two_pow (n := 8) h (Gauss.gm_lt' _ _))
def rowF (a b : List (List Int)) (i : Nat) : Nat → Nat → List Int → List Int
  | 0, _, r => r
  | n + 1, j, r => rowF a b i n (j + 1) (r.set j ((dot a b i j b.length 0 0 : Nat) : Int))
def matF (a b : List (List Int)) (m : Nat) : Nat → Nat → List (List Int) → List (List Int)
  | 0, _, x => x
  | n + 1, i, x => matF a b m n (i + 1) (x.set i (rowF a b i m 0 (x.getD i [])))
theorem rowF_length (a b : List (List Int)) (i : Nat) : ∀ n j r, (rowF a b i n j r).length = r.length
  | 0, _, _ => rfl
  | n + 1, j, r => by unfold rowF; rw [rowF_length a b i n, List.length_set]
theorem set_self {α : Type} (l : List α) (i : Nat) (d : α) : l.set i (l.getD i d) = l := by
  by_cases h : i < l.length
  · rw [List.getD_eq_getElem?_getD, List.getElem?_eq_getElem h, Option.getD_some, List.set_getElem_self]
  · rw [List.set_eq_of_length_le (by omega)]
theorem getD_set_self {α : Type} (l : List α) (i : Nat) (v d : α) (h : i < l.length) : (l.set i v).getD i d = v := by
  rw [getD_set, if_pos ⟨rfl, h⟩]

/-- The two matrices fit: a has as many columns as b rows. -/
structure Fit (a b : List (List Int)) (N K m : Nat) : Prop where
  sa : Sq N K a
  sb : Sq K m b
  leN : N ≤ 4096
  leK : K ≤ 4096
  lem : m ≤ 4096
  N0 : 0 < N
  K0 : 0 < K
  m0 : 0 < m
  ba : Bytes a
  bb : Bytes b

theorem mul_l2 {a b : List (List Int)} {N K m : Nat} (F : Fit a b N K m) (x : List (List Int)) (hx : Sq N m x) (i j : Nat) (hi : i < N) (hj : j < m) (r : List (List Int) × Option Int) :
    ∀ n k acc : Nat, k + n = K → acc < 256 → Ev (fun q => reedsolomon_matrix_Multiply.l1 q a b (x.set i ((x.getD i []).set j ((dot a b i j n k acc : Nat) : Int))) (i : Int) (N : Int) (i : Int) (m : Int) ((j + 1 : Nat) : Int)) r →
      Ev (fun q => reedsolomon_matrix_Multiply.l2 q a b x (i : Int) (j : Int) (acc : Int) (N : Int) (i : Int) (m : Int) (j : Int) (K : Int) (k : Int)) r
  | 0, k, acc, h, ha, hr => by
    refine Ev.step (fun q => reedsolomon_matrix_Multiply.l2.eq_2 _ _ _ _ _ _ _ _ _ _ _ _ _) ?_
    have hN := F.leN
    have hm := F.lem
    have hx1 := hx.1
    have hx2 := hx.2 i hi
    have c1 : ¬ (k : Int) < (K : Int) := by omega
    have c2 : 0 ≤ (i : Int) := by omega
    have c3 : (i : Int) < (x.length : Int) := by omega
    have c4 : 0 ≤ (j : Int) := by omega
    have c5 : (j : Int) < (((x.getD i []).length : Nat) : Int) := by omega
    unfold rd_L1
    simp only [toNat_cast, if_neg c1, if_pos c2, if_pos c3, if_pos c4, if_pos c5, wrap_nat j (by omega)]
    exact hr
  | n + 1, k, acc, h, ha, hr => by
    refine Ev.step (fun q => reedsolomon_matrix_Multiply.l2.eq_2 _ _ _ _ _ _ _ _ _ _ _ _ _) ?_
    have hN := F.leN
    have hm := F.lem
    have hK := F.leK
    have ha1 := F.sa.1
    have ha2 := F.sa.2 i hi
    have hb1 := F.sb.1
    have hb2 := F.sb.2 k (by omega)
    have ea := en_spec F.ba i k
    have eb := en_spec F.bb k j
    have hg := Gauss.gm_lt' (en a i k) (en b k j)
    have c1 : (k : Int) < (K : Int) := by omega
    have c2 : 0 ≤ (i : Int) := by omega
    have c3 : (i : Int) < (a.length : Int) := by omega
    have c4 : 0 ≤ (k : Int) := by omega
    have c5 : (k : Int) < (((a.getD i []).length : Nat) : Int) := by omega
    have c6 : (k : Int) < (b.length : Int) := by omega
    have c7 : 0 ≤ (j : Int) := by omega
    have c8 : (j : Int) < (((b.getD k []).length : Nat) : Int) := by omega
    have eg : reedsolomon_galMultiply.f ((en a i k : Nat) : Int) ((en b k j : Nat) : Int) = some ((gm (en a i k) (en b k j) : Nat) : Int) := by
      unfold reedsolomon_galMultiply.f
      rw [if_pos (by omega), Int.toNat_natCast, Int.toNat_natCast]
    unfold rd_L1 rd
    simp only [toNat_cast, if_pos c1, if_pos c2, if_pos c3, if_pos c4, if_pos c5, if_pos c6, if_pos c7, if_pos c8, ea.1, eb.1, eg, Option.bind_some, wrap_nat k (by omega), u8_xor_nat acc _ ha hg]
    exact mul_l2 F x hx i j hi hj r n (k + 1) _ (by omega) (Nat.xor_lt_two_pow (n := 8) ha hg) hr
theorem mul_l1 {a b : List (List Int)} {N K m : Nat} (F : Fit a b N K m) (i : Nat) (hi : i < N) (r : List (List Int) × Option Int) :
    ∀ (n j : Nat) (x : List (List Int)), Sq N m x → j + n = m → Ev (fun q => reedsolomon_matrix_Multiply.l0 q a b (x.set i (rowF a b i n j (x.getD i []))) (N : Int) ((i + 1 : Nat) : Int)) r →
      Ev (fun q => reedsolomon_matrix_Multiply.l1 q a b x (i : Int) (N : Int) (i : Int) (m : Int) (j : Int)) r
  | 0, j, x, hx, h, hr => by
    refine Ev.step (fun q => reedsolomon_matrix_Multiply.l1.eq_2 _ _ _ _ _ _ _ _ _) ?_
    have hN := F.leN
    have c1 : ¬ (j : Int) < (m : Int) := by omega
    simp only [if_neg c1, wrap_nat i (by omega)]
    unfold rowF at hr
    rw [set_self] at hr
    exact hr
  | n + 1, j, x, hx, h, hr => by
    refine Ev.step (fun q => reedsolomon_matrix_Multiply.l1.eq_2 _ _ _ _ _ _ _ _ _) ?_
    have hN := F.leN
    have hN0 := F.N0
    have ha1 := F.sa.1
    have ha0 := F.sa.2 0 F.N0
    have hb1 := F.sb.1
    have hx1 := hx.1
    have hx2 := hx.2 i hi
    have c1 : (j : Int) < (m : Int) := by omega
    have c2 : 0 < (a.length : Int) := by omega
    have e0 : rd_L1 a 0 = a.getD 0 [] := rfl
    simp only [if_pos c1, if_pos c2, e0, ha0]
    refine mul_l2 F x hx i j hi (by omega) r K 0 0 (by omega) (by decide) ?_
    refine mul_l1 F i hi r n (j + 1) _ (hx.set i _ (by rw [List.length_set]; exact hx2)) (by omega) ?_
    rw [getD_set_self _ _ _ _ (by omega), List.set_set]
    unfold rowF at hr
    rw [hb1] at hr
    exact hr
theorem mul_l0 {a b : List (List Int)} {N K m : Nat} (F : Fit a b N K m) :
    ∀ (n i : Nat) (x : List (List Int)), Sq N m x → i + n = N → Ev (fun q => reedsolomon_matrix_Multiply.l0 q a b x (N : Int) (i : Int)) (matF a b m n i x, none)
  | 0, i, x, hx, h => by
    refine Ev.step (fun q => reedsolomon_matrix_Multiply.l0.eq_2 _ _ _ _ _ _) ?_
    have c1 : ¬ (i : Int) < (N : Int) := by omega
    simp only [if_neg c1]
    exact Ev.now _
  | n + 1, i, x, hx, h => by
    refine Ev.step (fun q => reedsolomon_matrix_Multiply.l0.eq_2 _ _ _ _ _ _) ?_
    have hx1 := hx.1
    have hx2 := hx.2 i (by omega)
    have c1 : (i : Int) < (N : Int) := by omega
    have c2 : 0 ≤ (i : Int) := by omega
    have c3 : (i : Int) < (x.length : Int) := by omega
    unfold rd_L1
    simp only [toNat_cast, if_pos c1, if_pos c2, if_pos c3, hx2]
    refine mul_l1 F i (by omega) _ m 0 x hx (by omega) ?_
    exact mul_l0 F n (i + 1) _ (hx.set i _ (by rw [rowF_length]; exact hx2)) (by omega)
theorem mul_ev' {a b : List (List Int)} {N K m : Nat} (F : Fit a b N K m) : Ev (fun q => reedsolomon_matrix_Multiply.f q a b) (matF a b m N 0 (List.replicate N (List.replicate m 0)), none) := by
  unfold reedsolomon_matrix_Multiply.f
  have hN0 := F.N0
  have hK0 := F.K0
  have ha1 := F.sa.1
  have ha0 := F.sa.2 0 F.N0
  have hb1 := F.sb.1
  have hb0 := F.sb.2 0 F.K0
  have c1 : 0 < (a.length : Int) := by omega
  have e0 : rd_L1 a 0 = a.getD 0 [] := rfl
  have e1 : rd_L1 b 0 = b.getD 0 [] := rfl
  have c2 : (K : Int) = (b.length : Int) := by omega
  have c3 : 0 < (b.length : Int) := by omega
  simp only [e0, e1, ha0, hb0, if_pos c1, if_pos c2, if_pos c3]
  rw [ha1]
  refine Ev.bind (new_ev N m F.N0 F.m0 F.leN F.lem) ?_
  simp only [List.length_replicate]
  exact mul_l0 F N 0 _ (sq_zero N m) (by omega)
end Go.Proofs.YtipbhclpeogcmaaDoor.MatM
