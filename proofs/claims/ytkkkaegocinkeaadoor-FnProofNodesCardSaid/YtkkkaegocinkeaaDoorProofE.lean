/- What the specification's functions of nodes and parts compute: the greatest power of two below, the parts of a path, the nodes of a range, a prt's node, the fork. -/
import Derived.Test.YtkkkaegocinkeaaDoorNodesI
import Derived.Test.YtkkkaegocinkeaaDoorPathS
namespace Go.Proofs.YtkkkaegocinkeaaDoor.Ranges
open Go Go.RowKit Go.Proofs.YtkkkaegocinkeaaDoor.M Go.Proofs.YtkkkaegocinkeaaDoorW.PrintWords Go.Proofs.YtkkkaegocinkeaaDoorW.PrintLast Go.Proofs.YtkkkaegocinkeaaDoorW.PrintMore Go.Proofs.YtkkkaegocinkeaaDoor.Nodes Go.Proofs.YtkkkaegocinkeaaDoor.Log
set_option linter.unusedVariables false
set_option linter.unusedSimpArgs false

theorem sub_u64 (a b : Nat) (h : b ≤ a) (ha : a < 18446744073709551616) : IntKind.u64.wrap ((a : Int) - (b : Int)) = ((a - b : Nat) : Int) := by
  rw [show ((a : Int) - (b : Int)) = ((a - b : Nat) : Int) by omega]; exact u64_nat _ (by omega)
theorem add_u64 (a b : Nat) (ha : a + b < 18446744073709551616) : IntKind.u64.wrap ((a : Int) + (b : Int)) = ((a + b : Nat) : Int) := by
  rw [← Int.natCast_add]; exact u64_nat _ ha
theorem split_loop (n : Nat) (hn : n < 18446744073709551616) : ∀ (m j : Nat), 2 ^ j + m = n → 1 ≤ m → Ev (fun k => spec_split.l0 k (n : Int) ((2 ^ j : Nat) : Int)) (sp n : Nat) := by
  intro m
  induction m using Nat.strongRecOn with
  | _ m ih =>
    intro j hj h1
    refine Ev.step (fun k => spec_split.l0.eq_2 _ _ _) ?_
    have hp := Nat.two_pow_pos j
    have e2 : 2 ^ (j + 1) = 2 ^ j + 2 ^ j := by rw [Nat.pow_succ]; omega
    rw [sub_u64 n (2 ^ j) (by omega) hn, show n - 2 ^ j = m by omega]
    by_cases h : 2 ^ j < m
    · have e1 : IntKind.u64.wrap (((2 ^ j : Nat) : Int) * 2) = ((2 ^ (j + 1) : Nat) : Int) := by
        rw [show (((2 ^ j : Nat) : Int) * 2) = ((2 ^ (j + 1) : Nat) : Int) by omega]
        exact u64_nat _ (by omega)
      simp only [if_pos (show ((2 ^ j : Nat) : Int) < (m : Int) by omega), e1]
      exact ih (m - 2 ^ j) (by omega) (j + 1) (by omega) (by omega)
    · simp only [if_neg (show ¬ ((2 ^ j : Nat) : Int) < (m : Int) by omega)]
      rw [sp_eq (n := n) (a := j) (by omega) (by omega)]
      exact Ev.now _
theorem split_ev (n : Nat) (h : 2 ≤ n) (hn : n < 18446744073709551616) : Ev (fun k => spec_split.f k (n : Int)) (sp n : Nat) := by
  unfold spec_split.f
  have := split_loop n hn (n - 1) 0 (by simp; omega) (by omega)
  exact this
def mkP (p : Nat × Nat) : S45 := ⟨p.1, p.2⟩
theorem border_le (i n : Nat) : border i n ≤ 64 := pop_le 64 _
theorem inner_le (i n : Nat) (hi : i < n) (hn : n < 18446744073709551616) : inner i n ≤ 64 := by
  unfold inner
  exact Lib.bitLen_le _ 64 (by omega) (Nat.xor_lt_two_pow (by omega) (by omega))
theorem pathIn_ev : ∀ (n i b : Nat), i < n → b + n < 18446744073709551616 → Ev (fun k => spec_pathIn.f k ((b + i : Nat) : Int) (b : Int) ((b + n : Nat) : Int)) ((pathP (b + i) b n).map mkP) := by
  intro n
  induction n using Nat.strongRecOn with
  | _ n ih =>
    intro i b hi hn
    refine Ev.step (fun k => spec_pathIn.f.eq_2 _ _ _ _) ?_
    have w1 := sub_u64 (b + n) b (by omega) hn
    rw [Nat.add_sub_cancel_left] at w1
    by_cases h1 : n ≤ 1
    · obtain rfl : n = 1 := by omega
      simp only [w1, if_pos (show ((1 : Nat) : Int) = 1 from rfl)]
      rw [pathP_one _ _ _ h1]
      exact Ev.now _
    · have h2 : 2 ≤ n := by omega
      have hlt := sp_lt h2
      have hpos := sp_pos n
      simp only [w1, if_neg (show ¬ ((n : Nat) : Int) = 1 by omega)]
      refine Ev.bind (split_ev n h2 (by omega)) ?_
      have w2 := add_u64 b (sp n) (by omega)
      simp only [w2]
      have hL := (path_parts (fun (x : Nat) _ => x) 0 0 n i b hi (by omega)).1
      have h64 := border_le i n
      have h65 := inner_le i n hi (by omega)
      by_cases hlo : b + i < b + sp n
      · rw [pathP_lo h2 hlo] at hL
        rw [List.length_append, List.length_singleton] at hL
        simp only [if_pos (show ((b + i : Nat) : Int) < ((b + sp n : Nat) : Int) by omega)]
        refine Ev.bind (ih (sp n) hlt i b (by omega) (by omega)) ?_
        have e1 : ((pathP (b + i) b (sp n)).map mkP).length + ([(⟨((b + sp n : Nat) : Int), ((b + n : Nat) : Int)⟩ : S45)]).length < 8796093022208 := by rw [List.length_map, List.length_singleton]; omega
        simp only [Option.bind_some, if_pos e1]
        rw [pathP_lo h2 hlo, List.map_append]
        exact Ev.now _
      · rw [pathP_hi h2 hlo] at hL
        rw [List.length_append, List.length_singleton] at hL
        simp only [if_neg (show ¬ ((b + i : Nat) : Int) < ((b + sp n : Nat) : Int) by omega)]
        have := ih (n - sp n) (by omega) (i - sp n) (b + sp n) (by omega) (by omega)
        rw [show b + sp n + (i - sp n) = b + i by omega, show b + sp n + (n - sp n) = b + n by omega] at this
        refine Ev.bind this ?_
        have e1 : ((pathP (b + i) (b + sp n) (n - sp n)).map mkP).length + ([(⟨(b : Int), ((b + sp n : Nat) : Int)⟩ : S45)]).length < 8796093022208 := by rw [List.length_map, List.length_singleton]; omega
        simp only [Option.bind_some, if_pos e1]
        rw [pathP_hi h2 hlo, List.map_append]
        exact Ev.now _
theorem pathParts_ev (i n : Nat) (hi : i < n) (hn : n < 18446744073709551616) : Ev (fun k => spec_PathParts.f k (i : Int) (n : Int)) ((pathP i 0 n).map mkP) := by
  unfold spec_PathParts.f
  have := pathIn_ev n i 0 hi (by omega)
  simp only [Nat.zero_add] at this
  exact Ev.bind this (Ev.now _)

theorem land_one (x : Nat) : x &&& 1 = x % 2 := Nat.and_two_pow_sub_one_eq_mod x 1
theorem and_one (a : Nat) (h : a < 2 ^ 64) : Go.bits .and .u64 (a : Int) 1 = ((a % 2 : Nat) : Int) := by
  rw [show (1 : Int) = ((1 : Nat) : Int) from rfl, and64 _ _ h (by omega), land_one]

/-- The nodes of a range, in the specification's way. -/
theorem level_ev (p e l : Nat) (acc : List S28) (r : List S28) (he : e < 2 ^ 64) (hd : 2 ^ l ∣ p) (hle : p + 2 ^ l ≤ e) (hmax : ¬ (2 ^ (l + 1) ∣ p ∧ p + 2 ^ (l + 1) ≤ e)) (hacc : acc.length < 1000000)
    (hE : Ev (fun k => spec_Nodes.l0 k (acc ++ [im (l, p / 2 ^ l)]) ((p + 2 ^ l : Nat) : Int) (e : Int)) r) : ∀ (m j : Nat), j + m = l → Ev (fun k => spec_Nodes.l1 k acc (j : Int) (p : Int) (e : Int)) r := by
  have hl : l < 64 := by
    apply Nat.lt_of_not_le
    intro h
    have := pow_mono h
    omega
  intro m
  induction m with
  | zero =>
    intro j hj
    obtain rfl : j = l := by omega
    refine Ev.step (fun k => spec_Nodes.l1.eq_2 _ _ _ _ _) ?_
    have c1 : shr .u64 (p : Int) (j : Int) = ((p / 2 ^ j : Nat) : Int) := shr_u64 p j (by omega)
    have c2 := and_one (p / 2 ^ j) (Nat.lt_of_le_of_lt (Nat.div_le_self _ _) (by omega))
    have c3 : IntKind.u64.wrap ((p : Int) + ((2 ^ j : Nat) : Int)) = ((p + 2 ^ j : Nat) : Int) := add_u64 p (2 ^ j) (by omega)
    have c4 : IntKind.u64.wrap ((j : Int) + 1) = ((j + 1 : Nat) : Int) := add_u64 j 1 (by omega)
    have c5 : IntKind.u64.wrap ((e : Int) - (p : Int)) = ((e - p : Nat) : Int) := sub_u64 e p (by omega) (by omega)
    simp only [c1, c2, shl_one j (by omega), c3, c4, c5, if_pos (show (0 : Int) ≤ (j : Int) by omega), if_pos (show (0 : Int) ≤ ((j + 1 : Nat) : Int) by omega), if_pos (show acc.length < 8796093022208 by omega)]
    by_cases h63 : j < 63
    · simp only [if_pos (show (j : Int) < 63 by omega), shl_one (j + 1) (by omega)]
      by_cases h0 : p / 2 ^ j % 2 = 0
      · have hdv : 2 ^ (j + 1) ∣ p := by
          obtain ⟨a, rfl⟩ := hd
          rw [Nat.mul_div_cancel_left _ (pow_pos j)] at h0
          exact ⟨a / 2, by rw [Nat.pow_succ, Nat.mul_assoc]; congr 1; omega⟩
        simp only [if_pos (show ((p / 2 ^ j % 2 : Nat) : Int) = 0 by omega)]
        have hgt : ¬ p + 2 ^ (j + 1) ≤ e := fun h => hmax ⟨hdv, h⟩
        simp only [if_neg (show ¬ (((2 ^ (j + 1) : Nat) : Int) ≤ ((e - p : Nat) : Int)) by omega)]
        exact hE
      · simp only [if_neg (show ¬ (((p / 2 ^ j % 2 : Nat) : Int) = 0) by omega)]
        exact hE
    · simp only [if_neg (show ¬ ((j : Int) < 63) by omega)]
      exact hE
  | succ m ih =>
    intro j hj
    refine Ev.step (fun k => spec_Nodes.l1.eq_2 _ _ _ _ _) ?_
    have c1 : shr .u64 (p : Int) (j : Int) = ((p / 2 ^ j : Nat) : Int) := shr_u64 p j (by omega)
    have c2 := and_one (p / 2 ^ j) (Nat.lt_of_le_of_lt (Nat.div_le_self _ _) (by omega))
    have c4 : IntKind.u64.wrap ((j : Int) + 1) = ((j + 1 : Nat) : Int) := add_u64 j 1 (by omega)
    have c5 : IntKind.u64.wrap ((e : Int) - (p : Int)) = ((e - p : Nat) : Int) := sub_u64 e p (by omega) (by omega)
    have h0 : p / 2 ^ j % 2 = 0 := by
      obtain ⟨a, ha⟩ := pow_dvd (show j + 1 ≤ l by omega) hd
      rw [ha, Nat.pow_succ, Nat.mul_assoc, Nat.mul_div_cancel_left _ (pow_pos j)]
      omega
    have hle2 := pow_mono (show j + 1 ≤ l by omega)
    simp only [c1, c2, c4, c5, if_pos (show (j : Int) < 63 by omega), if_pos (show (0 : Int) ≤ (j : Int) by omega), if_pos (show (0 : Int) ≤ ((j + 1 : Nat) : Int) by omega), if_pos (show ((p / 2 ^ j % 2 : Nat) : Int) = 0 by omega), shl_one (j + 1) (by omega),
      if_pos (show ((2 ^ (j + 1) : Nat) : Int) ≤ ((e - p : Nat) : Int) by omega)]
    exact ih (j + 1) (by omega)
theorem snodes_loop {p e : Nat} {L : List (Nat × Nat)} (h : G p e L) (he : e < 2 ^ 64) : ∀ (acc : List S28), acc.length + L.length < 1000000 →
    Ev (fun k => spec_Nodes.l0 k acc (p : Int) (e : Int)) (acc ++ L.map im) := by
  induction h with
  | nil e =>
    intro acc hl
    refine Ev.step (fun k => spec_Nodes.l0.eq_2 _ _ _ _) ?_
    simp only [if_neg (show ¬ ((e : Int) < (e : Int)) by omega), List.map_nil, List.append_nil]
    exact Ev.now _
  | cons p e l L hd hle hmax t ih =>
    intro acc hl
    simp only [List.length_cons] at hl
    have hp := pow_pos l
    refine Ev.step (fun k => spec_Nodes.l0.eq_2 _ _ _ _) ?_
    simp only [if_pos (show (p : Int) < (e : Int) by omega)]
    have := ih he (acc ++ [im (l, p / 2 ^ l)]) (by simp; omega)
    rw [List.append_assoc] at this
    exact level_ev p e l acc _ he hd hle hmax (by omega) this l 0 (by omega)
theorem specNodes_ev {p e : Nat} {L : List (Nat × Nat)} (h : G p e L) (he : e < 2 ^ 64) (hl : L.length < 100000) : Ev (fun k => spec_Nodes.f k (p : Int) (e : Int)) (L.map im) := by
  have := snodes_loop h he [] (by simp; omega)
  simpa [spec_Nodes.f] using this

theorem nodeOf_loop (l y : Nat) (h : (y + 1) * 2 ^ l < 2 ^ 64) : ∀ (m j : Nat), j + m = l → Ev (fun k => spec_NodeOf.l0 k ((y * 2 ^ l : Nat) : Int) (((y + 1) * 2 ^ l : Nat) : Int) (j : Int) 0) ((l : Int), (y : Int)) := by
  have hp := pow_pos l
  have e1 : (y + 1) * 2 ^ l = y * 2 ^ l + 2 ^ l := by rw [Nat.add_mul, Nat.one_mul]
  have hl : l < 64 := by
    apply Nat.lt_of_not_le
    intro h'
    have := pow_mono h'
    omega
  have c0 := sub_u64 ((y + 1) * 2 ^ l) (y * 2 ^ l) (by omega) (by omega)
  rw [show (y + 1) * 2 ^ l - y * 2 ^ l = 2 ^ l by omega] at c0
  intro m
  induction m with
  | zero =>
    intro j hj
    obtain rfl : j = l := by omega
    refine Ev.step (fun k => spec_NodeOf.l0.eq_2 _ _ _ _ _) ?_
    simp only [c0, shr_u64 (2 ^ j) j (by omega), shr_u64 (y * 2 ^ j) j (by omega), Nat.div_self hp, Nat.mul_div_cancel _ hp, if_pos (show (0 : Int) ≤ (j : Int) by omega), if_neg (show ¬ (((1 : Nat) : Int) > 1) by omega)]
    exact Ev.now _
  | succ m ih =>
    intro j hj
    refine Ev.step (fun k => spec_NodeOf.l0.eq_2 _ _ _ _ _) ?_
    have hd : 2 ^ l / 2 ^ j = 2 * 2 ^ m := by
      rw [Nat.pow_div (by omega) (by decide), show l - j = m + 1 by omega, Nat.pow_succ]; omega
    have hpm := pow_pos m
    have c4 : IntKind.u64.wrap ((j : Int) + 1) = ((j + 1 : Nat) : Int) := add_u64 j 1 (by omega)
    simp only [c0, c4, shr_u64 (2 ^ l) j (by omega), hd, if_pos (show (0 : Int) ≤ (j : Int) by omega), if_pos (show (((2 * 2 ^ m : Nat) : Int) > 1) by omega)]
    exact ih (j + 1) (by omega)
theorem nodeOf_ev (l y : Nat) (h : (y + 1) * 2 ^ l < 2 ^ 64) : Ev (fun k => spec_NodeOf.f k ((y * 2 ^ l : Nat) : Int) (((y + 1) * 2 ^ l : Nat) : Int)) ((l : Int), (y : Int)) := nodeOf_loop l y h l 0 (by omega)

theorem fork_ev (n t x d : Nat) (hn : n < 2 ^ 64) (htd : t + d < 64) (hX : n / 2 ^ t / 2 ^ d = x / 2 ^ d + 1) (hev : x / 2 ^ d % 2 = 0) : Ev (fun k => spec_fork.f k (t : Int) (x : Int) (n : Int)) (((t + d : Nat) : Int), ((x / 2 ^ d + 1 : Nat) : Int)) := by
  unfold spec_fork.f
  induction d generalizing t x with
  | zero =>
    refine Ev.step (fun k => spec_fork.l0.eq_2 _ _ _ _) ?_
    rw [Nat.pow_zero, Nat.div_one] at hX hev
    rw [Nat.div_one] at hX
    rw [Nat.pow_zero, Nat.div_one, Nat.add_zero, ← hX]
    have e : (x : Int) / 2 = ((n / 2 ^ t : Nat) : Int) / 2 := by omega
    simp only [shr_u64 n t (by omega), if_pos (show (0 : Int) ≤ (t : Int) by omega), if_pos e]
    exact Ev.now _
  | succ d ih =>
    refine Ev.step (fun k => spec_fork.l0.eq_2 _ _ _ _) ?_
    have e2 : 2 * 2 ^ d = 2 ^ (d + 1) := by rw [Nat.pow_succ]; omega
    have hx2 : x / 2 / 2 ^ d = x / 2 ^ (d + 1) := by rw [Nat.div_div_eq_div_mul, e2]
    have hn2 : n / 2 ^ t / 2 / 2 ^ d = n / 2 ^ t / 2 ^ (d + 1) := by rw [Nat.div_div_eq_div_mul (n / 2 ^ t), e2]
    have hn3 : n / 2 ^ (t + 1) = n / 2 ^ t / 2 := by rw [Nat.pow_succ, Nat.div_div_eq_div_mul]
    have hne : ¬ (((x / 2 : Nat) : Int) = ((n / 2 ^ t : Nat) : Int) / 2) := by
      intro h
      have : x / 2 = n / 2 ^ t / 2 := by omega
      rw [this] at hx2
      omega
    have c1 : IntKind.u64.wrap ((t : Int) + 1) = ((t + 1 : Nat) : Int) := add_u64 t 1 (by omega)
    have c2 : (x : Int) / 2 = ((x / 2 : Nat) : Int) := by omega
    simp only [shr_u64 n t (by omega), if_pos (show (0 : Int) ≤ (t : Int) by omega), if_neg hne, c1, c2]
    have := ih (t + 1) (x / 2) (by omega) (by rw [hn3, hn2, hx2]; exact hX) (by rw [hx2]; exact hev)
    rw [hx2, show t + 1 + d = t + (d + 1) by omega] at this
    exact this

/-! proofOf -/
variable (Q : List (Nat × Nat)) (v1 v2 : Int) (R : List S28 × Int × Int × Int × Int)
theorem rd_part (pre rest : List (Nat × Nat)) (q : Nat × Nat) (h : Q = pre ++ q :: rest) : rd_T45 (Q.map mkP) (pre.length : Int) = mkP q := by
  subst h
  have := rd_mid (⟨0, 0⟩ : S45) (pre.map mkP) (mkP q) (rest.map mkP)
  rw [List.map_append, List.map_cons]
  rw [List.length_map] at this
  exact this
theorem po_left (pre rest : List (Nat × Nat)) (l y : Nat) (pe b e : Int) (IDs : List (Nat × Nat)) (hQ : Q = pre ++ prt (l, y) :: rest) (h : (y + 1) * 2 ^ l < 2 ^ 64) (hI : IDs.length < 100000) (hp : pre.length < 100000)
    (hE : Ev (fun k => spec_proofOf.l0 k (Q.map mkP) (Q.length : Int) ((pre.length + 1 : Nat) : Int) ((y * 2 ^ l : Nat) : Int) pe ((IDs ++ [(l, y)]).map im) v1 v2 b e) R) :
    Ev (fun k => spec_proofOf.l0 k (Q.map mkP) (Q.length : Int) (pre.length : Int) (((y + 1) * 2 ^ l : Nat) : Int) pe (IDs.map im) v1 v2 b e) R := by
  have hlen : Q.length = pre.length + rest.length + 1 := by rw [hQ]; simp; omega
  have hrd := rd_part Q pre rest _ hQ
  refine Ev.step (fun k => spec_proofOf.l0.eq_2 _ _ _ _ _ _ _ _ _ _ _) ?_
  have f0 : (mkP (prt (l, y))).f0 = ((y * 2 ^ l : Nat) : Int) := rfl
  have f1 : (mkP (prt (l, y))).f1 = (((y + 1) * 2 ^ l : Nat) : Int) := rfl
  simp only [hrd, f0, f1, List.length_map, if_pos (show (pre.length : Int) < (Q.length : Int) by omega), if_pos (show (0 : Int) ≤ (pre.length : Int) by omega), if_true, wrap_nat pre.length (by omega), if_pos (show IDs.length < 8796093022208 by omega)]
  refine Ev.bind (nodeOf_ev l y h) ?_
  rw [List.map_append] at hE
  exact hE
theorem po_right (pre rest : List (Nat × Nat)) (l y pb : Nat) (b e : Int) (IDs : List (Nat × Nat)) (hQ : Q = pre ++ prt (l, y) :: rest) (h : (y + 1) * 2 ^ l < 2 ^ 64) (hI : IDs.length < 100000) (hp : pre.length < 100000) (hb : pb + 2 ^ l = y * 2 ^ l)
    (hE : Ev (fun k => spec_proofOf.l0 k (Q.map mkP) (Q.length : Int) ((pre.length + 1 : Nat) : Int) (pb : Int) (((y + 1) * 2 ^ l : Nat) : Int) ((IDs ++ [(l, y)]).map im) v1 v2 b e) R) :
    Ev (fun k => spec_proofOf.l0 k (Q.map mkP) (Q.length : Int) (pre.length : Int) (pb : Int) ((y * 2 ^ l : Nat) : Int) (IDs.map im) v1 v2 b e) R := by
  have hlen : Q.length = pre.length + rest.length + 1 := by rw [hQ]; simp; omega
  have hrd := rd_part Q pre rest _ hQ
  have hpl := pow_pos l
  have e1 : (y + 1) * 2 ^ l = y * 2 ^ l + 2 ^ l := by rw [Nat.add_mul, Nat.one_mul]
  refine Ev.step (fun k => spec_proofOf.l0.eq_2 _ _ _ _ _ _ _ _ _ _ _) ?_
  have f0 : (mkP (prt (l, y))).f0 = ((y * 2 ^ l : Nat) : Int) := rfl
  have f1 : (mkP (prt (l, y))).f1 = (((y + 1) * 2 ^ l : Nat) : Int) := rfl
  have g1 : ¬ ((((y + 1) * 2 ^ l : Nat) : Int) = (pb : Int)) := by omega
  have g2 := sub_u64 ((y + 1) * 2 ^ l) (y * 2 ^ l) (by omega) (by omega)
  have g3 := sub_u64 (y * 2 ^ l) pb (by omega) (by omega)
  rw [show (y + 1) * 2 ^ l - y * 2 ^ l = 2 ^ l by omega] at g2
  rw [show y * 2 ^ l - pb = 2 ^ l by omega] at g3
  simp only [hrd, f0, f1, List.length_map, if_pos (show (pre.length : Int) < (Q.length : Int) by omega), if_pos (show (0 : Int) ≤ (pre.length : Int) by omega), if_neg g1, g2, g3, if_true, wrap_nat pre.length (by omega), if_pos (show IDs.length < 8796093022208 by omega)]
  refine Ev.bind (nodeOf_ev l y h) ?_
  rw [List.map_append] at hE
  exact hE
theorem pow_half (l : Nat) : 2 ^ (l + 1) = 2 * 2 ^ l := by rw [Nat.pow_succ]; omega
theorem po_sibs (rest : List (Nat × Nat)) (b e : Int) : ∀ (m l x : Nat) (pre IDs : List (Nat × Nat)), Q = pre ++ (sf l x m).map prt ++ rest → (x / 2 ^ m + 1) * 2 ^ (l + m) < 2 ^ 64 → IDs.length + m < 100000 → pre.length + m < 100000 →
    Ev (fun k => spec_proofOf.l0 k (Q.map mkP) (Q.length : Int) ((pre.length + m : Nat) : Int) ((x / 2 ^ m * 2 ^ (l + m) : Nat) : Int) (((x / 2 ^ m + 1) * 2 ^ (l + m) : Nat) : Int) ((IDs ++ sf l x m).map im) v1 v2 b e) R →
    Ev (fun k => spec_proofOf.l0 k (Q.map mkP) (Q.length : Int) (pre.length : Int) ((x * 2 ^ l : Nat) : Int) (((x + 1) * 2 ^ l : Nat) : Int) (IDs.map im) v1 v2 b e) R
  | 0, l, x, pre, IDs => fun hQ hB hI hp hE => by simpa [sf] using hE
  | m + 1, l, x, pre, IDs => fun hQ hB hI hp hE => by
    have hB2 : (x / 2 + 1) * 2 ^ (l + 1) < 2 ^ 64 := by
      refine Nat.lt_of_le_of_lt ?_ hB
      rw [← up_r]
      have h4 := Nat.div_add_mod (x / 2) (2 ^ m)
      have h5 := Nat.mod_lt (x / 2) (pow_pos m)
      rw [show 2 ^ (l + 1 + m) = 2 ^ m * 2 ^ (l + 1) by rw [Nat.pow_add, Nat.mul_comm], ← Nat.mul_assoc]
      refine Nat.mul_le_mul_right _ ?_
      rw [Nat.add_mul, Nat.one_mul, Nat.mul_comm (x / 2 / 2 ^ m)]
      omega
    rw [sf, List.map_cons] at hQ
    have hQ1 : Q = pre ++ prt (l, x ^^^ 1) :: ((sf (l + 1) (x / 2) m).map prt ++ rest) := by rw [hQ]; simp
    have hQ2 : Q = (pre ++ [prt (l, x ^^^ 1)]) ++ (sf (l + 1) (x / 2) m).map prt ++ rest := by rw [hQ]; simp
    have ih := po_sibs rest b e m (l + 1) (x / 2) (pre ++ [prt (l, x ^^^ 1)]) (IDs ++ [(l, x ^^^ 1)]) hQ2 (by rw [up_r]; exact hB) (by simp; omega) (by simp; omega) (by
      rw [up_l, up_r, List.length_append, List.append_assoc]
      rw [show pre.length + (m + 1) = pre.length + [prt (l, x ^^^ 1)].length + m by simp; omega] at hE
      exact hE)
    rw [List.length_append] at ih
    have hph := pow_half l
    rcases Nat.mod_two_eq_zero_or_one x with h | h
    · obtain ⟨u, rfl⟩ : ∃ u, x = 2 * u := ⟨x / 2, by omega⟩
      rw [show 2 * u / 2 = u by omega] at ih hB2
      have e1 : (2 * u + 1) * 2 ^ l = 2 * u * 2 ^ l + 2 ^ l := by rw [Nat.add_mul, Nat.one_mul]
      have e2 : (2 * u + 1 + 1) * 2 ^ l = (u + 1) * 2 ^ (l + 1) := by rw [hph, ← Nat.mul_assoc]; congr 1; omega
      have e3 : 2 * u * 2 ^ l = u * 2 ^ (l + 1) := by rw [hph, ← Nat.mul_assoc, Nat.mul_comm u 2]
      rw [even_xor_one _ h] at ih hQ1
      refine po_right Q v1 v2 R pre _ l (2 * u + 1) (2 * u * 2 ^ l) b e IDs hQ1 (by rw [e2]; exact hB2) (by omega) (by omega) (by omega) ?_
      rw [e2, e3]
      exact ih
    · obtain ⟨u, rfl⟩ : ∃ u, x = 2 * u + 1 := ⟨x / 2, by omega⟩
      rw [show (2 * u + 1) / 2 = u by omega] at ih hB2
      have e2 : (2 * u + 1 + 1) * 2 ^ l = (u + 1) * 2 ^ (l + 1) := by rw [hph, ← Nat.mul_assoc]; congr 1; omega
      have e3 : 2 * u * 2 ^ l = u * 2 ^ (l + 1) := by rw [hph, ← Nat.mul_assoc, Nat.mul_comm u 2]
      have e1 : (2 * u + 1) * 2 ^ l = 2 * u * 2 ^ l + 2 ^ l := by rw [Nat.add_mul, Nat.one_mul]
      have e4 : (2 * u + 1 + 1) * 2 ^ l = (2 * u + 1) * 2 ^ l + 2 ^ l := by rw [Nat.add_mul (2 * u + 1), Nat.one_mul]
      rw [odd_xor_one _ h, show 2 * u + 1 - 1 = 2 * u by omega] at ih hQ1
      refine po_left Q v1 v2 R pre _ l (2 * u) _ b e IDs hQ1 (by omega) (by omega) (by omega) ?_
      rw [e2, e3]
      exact ih
theorem po_lefts (b e pe : Int) {s c : Nat} {Nl : List (Nat × Nat)} (hG : G s c Nl) (hc : c < 2 ^ 64) : ∀ (pre rest IDs : List (Nat × Nat)), Q = pre ++ (Nl.map prt).reverse ++ rest → IDs.length + Nl.length < 100000 → pre.length + Nl.length < 100000 →
    Ev (fun k => spec_proofOf.l0 k (Q.map mkP) (Q.length : Int) ((pre.length + Nl.length : Nat) : Int) (s : Int) pe ((IDs ++ Nl.reverse).map im) v1 v2 b e) R →
    Ev (fun k => spec_proofOf.l0 k (Q.map mkP) (Q.length : Int) (pre.length : Int) (c : Int) pe (IDs.map im) v1 v2 b e) R := by
  induction hG with
  | nil e' => intro pre rest IDs hQ hI hp hE; simpa using hE
  | cons p e' l L hd hle hmax t ih =>
    intro pre rest IDs hQ hI hp hE
    simp only [List.length_cons] at hI hp
    rw [List.map_cons, List.reverse_cons] at hQ
    have hQ1 : Q = pre ++ (L.map prt).reverse ++ (prt (l, p / 2 ^ l) :: rest) := by rw [hQ]; simp
    refine ih hc pre _ IDs hQ1 (by omega) (by omega) ?_
    have e1 : p / 2 ^ l * 2 ^ l = p := Nat.div_mul_cancel hd
    have e2 : (p / 2 ^ l + 1) * 2 ^ l = p + 2 ^ l := by rw [Nat.add_mul, Nat.one_mul, e1]
    have hlen : (pre ++ (L.map prt).reverse).length = pre.length + L.length := by simp
    have := po_left Q v1 v2 R (pre ++ (L.map prt).reverse) rest l (p / 2 ^ l) pe b e (IDs ++ L.reverse) hQ1 (by rw [e2]; omega) (by simp; omega) (by simp; omega) (by
      rw [hlen, e1]
      rw [List.reverse_cons, ← List.append_assoc, List.length_cons, show pre.length + (L.length + 1) = pre.length + L.length + 1 by omega] at hE
      exact hE)
    rw [hlen, e2] at this
    exact this

theorem po_rev (N : List (Nat × Nat)) (ix : Nat) (pb pe b e q0 q1 : Int) : ∀ (j : Nat) (IDs : List (Nat × Nat)), j ≤ N.length → N.length < 10000 → IDs.length + j < 100000 →
    Ev (fun k => spec_proofOf.l0 k (Q.map mkP) (Q.length : Int) (wrap64 ((ix : Int) + 1)) pb q1 ((IDs ++ (N.take j).reverse).map im) v1 v2 b e) R →
    Ev (fun k => spec_proofOf.l1 k (N.map im) ((j : Int) - 1) (Q.map mkP) (Q.length : Int) (ix : Int) pb pe (IDs.map im) v1 v2 b e q0 q1) R
  | 0, IDs => fun hj hN hI hE => by
    refine Ev.step (fun k => spec_proofOf.l1.eq_2 _ _ _ _ _ _ _ _ _ _ _ _ _ _ _) ?_
    simp only [if_neg (show ¬ ((((0 : Nat) : Int) - 1) ≥ 0) by omega)]
    simpa using hE
  | j + 1, IDs => fun hj hN hI hE => by
    refine Ev.step (fun k => spec_proofOf.l1.eq_2 _ _ _ _ _ _ _ _ _ _ _ _ _ _ _) ?_
    have e0 : (((j + 1 : Nat) : Int) - 1) = (j : Int) := by omega
    have e1 : wrap64 ((j : Int) - 1) = (j : Int) - 1 := by unfold wrap64; omega
    have hrd : rd_T28 (N.map im) (j : Int) = im (N[j]'(by omega)) := by
      show (N.map im).getD ((j : Nat) : Int).toNat _ = _
      rw [Int.toNat_natCast, List.getD_eq_getElem?_getD, List.getElem?_map, List.getElem?_eq_getElem (by omega)]
      rfl
    simp only [e0, e1, hrd, List.length_map, if_pos (show (j : Int) ≥ 0 by omega), if_pos (show (0 : Int) ≤ (j : Int) by omega), if_pos (show (j : Int) < (N.length : Int) by omega), if_pos (show IDs.length < 8796093022208 by omega)]
    have et : (N.take (j + 1)).reverse = N[j]'(by omega) :: (N.take j).reverse := by
      rw [List.take_succ_eq_append_getElem (by omega), List.reverse_append]
      rfl
    have := po_rev N ix pb pe b e q0 q1 j (IDs ++ [N[j]'(by omega)]) (by omega) hN (by simp; omega) (by
      rw [et] at hE
      rw [List.append_assoc]
      exact hE)
    rw [List.map_append] at this
    exact this

theorem wr_sub (m : Nat) (h : m < 1000000) : wrap64 ((m : Int) - 1) = (m : Int) - 1 := by unfold wrap64; omega
theorem wr_add (a m : Nat) (h : a + m < 1000000) : wrap64 ((a : Int) + (m : Int)) = ((a + m : Nat) : Int) := by unfold wrap64; omega
theorem po_end (Q : List (Nat × Nat)) (i : Nat) (pb pe b e : Int) (IDs : List (Nat × Nat)) (hi : i = Q.length) : Ev (fun k => spec_proofOf.l0 k (Q.map mkP) (Q.length : Int) (i : Int) pb pe (IDs.map im) 0 0 b e) (IDs.map im, 0, 0, b, e) := by
  subst hi
  refine Ev.step (fun k => spec_proofOf.l0.eq_2 _ _ _ _ _ _ _ _ _ _ _) ?_
  simp only [if_neg (show ¬ ((Q.length : Int) < (Q.length : Int)) by omega)]
  exact Ev.now _
/-- The part behind the fork. -/
theorem po_rest (Q pre rest : List (Nat × Nat)) (R : List S28 × Int × Int × Int × Int) (c1 c2 n d : Nat) (Nr IDs : List (Nat × Nat)) (hQ : Q = pre ++ (c2, n) :: rest) (hd : pre.length = d) (hI : IDs.length = d) (hdl : d < 1000) (h1 : c1 < c2) (h2 : c2 < n) (h3 : n - c2 < c2 - c1) (hn : n < 2 ^ 64) (hr : G c2 n Nr) (hNr : Nr.length ≤ 128)
    (hE : Ev (fun k => spec_proofOf.l0 k (Q.map mkP) (Q.length : Int) ((d + 1 : Nat) : Int) (c1 : Int) (n : Int) ((IDs ++ Nr.reverse).map im) 0 0 (d : Int) ((d + Nr.length : Nat) : Int)) R) :
    Ev (fun k => spec_proofOf.l0 k (Q.map mkP) (Q.length : Int) (d : Int) (c1 : Int) (c2 : Int) (IDs.map im) 0 0 0 0) R := by
  have hlen : Q.length = d + rest.length + 1 := by rw [hQ]; simp; omega
  refine Ev.step (fun k => spec_proofOf.l0.eq_2 _ _ _ _ _ _ _ _ _ _ _) ?_
  have hrd := rd_part Q pre rest (c2, n) hQ
  rw [hd] at hrd
  have f0 : (mkP (c2, n)).f0 = (c2 : Int) := rfl
  have f1 : (mkP (c2, n)).f1 = (n : Int) := rfl
  have g1 : ¬ ((n : Int) = (c1 : Int)) := by omega
  have g2 := sub_u64 n c2 (by omega) (by omega)
  have g3 := sub_u64 c2 c1 (by omega) (by omega)
  have g4 : ¬ (((n - c2 : Nat) : Int) = ((c2 - c1 : Nat) : Int)) := by omega
  simp only [hrd, f0, f1, List.length_map, hI, if_pos (show (d : Int) < (Q.length : Int) by omega), if_pos (show (0 : Int) ≤ (d : Int) by omega), if_neg g1, g2, g3, if_neg g4]
  refine Ev.bind (specNodes_ev hr hn (by omega)) ?_
  simp only [List.length_map, wr_sub Nr.length (by omega), wr_add d Nr.length (by omega)]
  refine po_rev Q 0 0 _ Nr d _ _ _ _ _ _ Nr.length IDs (Nat.le_refl _) (by omega) (by omega) ?_
  rw [List.take_length, wrap_nat d (by omega)]
  exact hE
theorem proofOf_mid (t x d n c1 c2 : Nat) (Nl Nr : List (Nat × Nat)) (e1 : x / 2 ^ d * 2 ^ (t + d) = c1) (e2 : (x / 2 ^ d + 1) * 2 ^ (t + d) = c2) (h1 : c1 < c2) (h2 : c2 < n) (h3 : n - c2 < c2 - c1) (hn : n < 2 ^ 64) (hd : d < 100) (hl : G 0 c1 Nl) (hr : G c2 n Nr) (hNl : Nl.length ≤ 128) (hNr : Nr.length ≤ 128) :
    Ev (fun k => spec_proofOf.f k ((x * 2 ^ t : Nat) : Int) (((x + 1) * 2 ^ t : Nat) : Int) (((sf t x d).map prt ++ ([(c2, n)] ++ (Nl.map prt).reverse)).map mkP)) ((sf t x d ++ Nr.reverse ++ Nl.reverse).map im, 0, 0, (d : Int), ((d + Nr.length : Nat) : Int)) := by
  unfold spec_proofOf.f
  have hsf := sf_len d t x
  generalize hQ : (sf t x d).map prt ++ ([(c2, n)] ++ (Nl.map prt).reverse) = Q
  have hs := po_sibs Q 0 0 ((sf t x d ++ Nr.reverse ++ Nl.reverse).map im, 0, 0, (d : Int), ((d + Nr.length : Nat) : Int)) ([(c2, n)] ++ (Nl.map prt).reverse) 0 0 d t x [] [] (by rw [← hQ]; simp) (by rw [e2]; omega) (by simp; omega) (by simp; omega)
  rw [e1, e2] at hs
  clear e1 e2
  have hlen : Q.length = d + 1 + Nl.length := by rw [← hQ]; simp [hsf]; omega
  simp only [List.nil_append, List.length_nil, Nat.zero_add, List.map_nil, Int.natCast_zero] at hs
  rw [List.length_map]
  refine hs ?_
  refine po_rest Q ((sf t x d).map prt) ((Nl.map prt).reverse) _ c1 c2 n d Nr (sf t x d) (by rw [← hQ]; simp) (by rw [List.length_map, hsf]) hsf (by omega) h1 h2 h3 hn hr hNr ?_
  have hq : ((sf t x d).map prt ++ [(c2, n)]).length = d + 1 := by rw [List.length_append, List.length_map, hsf]; rfl
  have hi : (sf t x d ++ Nr.reverse).length = d + Nr.length := by rw [List.length_append, List.length_reverse, hsf]
  have := po_lefts Q 0 0 ((sf t x d ++ Nr.reverse ++ Nl.reverse).map im, 0, 0, (d : Int), ((d + Nr.length : Nat) : Int)) (d : Int) ((d + Nr.length : Nat) : Int) (n : Int) hl (by omega) ((sf t x d).map prt ++ [(c2, n)]) [] (sf t x d ++ Nr.reverse) (by rw [← hQ]; simp) (by rw [hi]; omega) (by rw [hq]; omega) (po_end Q _ _ _ _ _ _ (by rw [hq, hlen]))
  rw [hq] at this
  exact this
theorem proofOf_nil (t x d c1 c2 : Nat) (Nl : List (Nat × Nat)) (e1 : x / 2 ^ d * 2 ^ (t + d) = c1) (e2 : (x / 2 ^ d + 1) * 2 ^ (t + d) = c2) (h1 : c1 < c2) (h2 : c2 < 2 ^ 64) (hd : d < 100) (hl : G 0 c1 Nl) (hNl : Nl.length ≤ 128) :
    Ev (fun k => spec_proofOf.f k ((x * 2 ^ t : Nat) : Int) (((x + 1) * 2 ^ t : Nat) : Int) (((sf t x d).map prt ++ (Nl.map prt).reverse).map mkP)) ((sf t x d ++ Nl.reverse).map im, 0, 0, 0, 0) := by
  unfold spec_proofOf.f
  have hsf := sf_len d t x
  generalize hQ : (sf t x d).map prt ++ (Nl.map prt).reverse = Q
  have hs := po_sibs Q 0 0 ((sf t x d ++ Nl.reverse).map im, 0, 0, 0, 0) ((Nl.map prt).reverse) 0 0 d t x [] [] (by rw [← hQ]; simp) (by rw [e2]; omega) (by simp; omega) (by simp; omega)
  rw [e1, e2] at hs
  clear e1 e2
  have hlen : Q.length = d + Nl.length := by rw [← hQ]; simp [hsf]
  simp only [List.nil_append, List.length_nil, Nat.zero_add, List.map_nil, Int.natCast_zero] at hs
  rw [List.length_map]
  refine hs ?_
  have hq : ((sf t x d).map prt).length = d := by rw [List.length_map, hsf]
  have := po_lefts Q 0 0 ((sf t x d ++ Nl.reverse).map im, 0, 0, 0, 0) 0 0 (c2 : Int) hl (by omega) ((sf t x d).map prt) [] (sf t x d) (by rw [← hQ]; simp) (by rw [hsf]; omega) (by rw [hq]; omega) (po_end Q _ _ _ _ _ _ (by rw [hq, hlen]))
  rw [hq] at this
  exact this
theorem proofOf_ev (x t n d : Nat) (Nl Nr : List (Nat × Nat)) (hn : n < 2 ^ 64) (htd : t + d < 64) (hX : n / 2 ^ t / 2 ^ d = x / 2 ^ d + 1) (hl : G 0 (x / 2 ^ d * 2 ^ (t + d)) Nl) (hr : G ((x / 2 ^ d + 1) * 2 ^ (t + d)) n Nr) (hNl : Nl.length ≤ 128) (hNr : Nr.length ≤ 128) :
    Ev (fun k => spec_proofOf.f k ((x * 2 ^ t : Nat) : Int) (((x + 1) * 2 ^ t : Nat) : Int) (((sf t x d).map prt ++ ((if (x / 2 ^ d + 1) * 2 ^ (t + d) < n then [((x / 2 ^ d + 1) * 2 ^ (t + d), n)] else []) ++ (Nl.map prt).reverse)).map mkP))
      ((sf t x d ++ Nr.reverse ++ Nl.reverse).map im, 0, 0, (if Nr = [] then 0 else (d : Int)), (if Nr = [] then 0 else ((d + Nr.length : Nat) : Int))) := by
  have hq : n / 2 ^ (t + d) = x / 2 ^ d + 1 := by rw [Nat.pow_add, ← Nat.div_div_eq_div_mul]; exact hX
  have hmod := Nat.div_add_mod n (2 ^ (t + d))
  have hmlt := Nat.mod_lt n (pow_pos (t + d))
  have hpos := pow_pos (t + d)
  rw [hq, Nat.mul_comm] at hmod
  have hc : (x / 2 ^ d + 1) * 2 ^ (t + d) = x / 2 ^ d * 2 ^ (t + d) + 2 ^ (t + d) := by rw [Nat.add_mul, Nat.one_mul]
  clear hX hq
  generalize hw : n % 2 ^ (t + d) = rr at hmod hmlt
  clear hw
  generalize hz : 2 ^ (t + d) = P2 at hc hmlt hpos hmod
  rw [hz] at hl hr
  generalize h1 : x / 2 ^ d * P2 = c1 at hc hl ⊢
  generalize h2 : (x / 2 ^ d + 1) * P2 = c2 at hc hr hmod ⊢
  by_cases hlt : c2 < n
  · have hne : Nr ≠ [] := fun h => by have := hr.empty.1 h; omega
    rw [if_pos hlt, if_neg hne, if_neg hne]
    exact proofOf_mid t x d n c1 c2 Nl Nr (by rw [hz]; exact h1) (by rw [hz]; exact h2) (by omega) hlt (by omega) hn (by omega) hl hr hNl hNr
  · have he : Nr = [] := hr.empty.2 (by omega)
    rw [if_neg hlt, if_pos he, if_pos he, he, List.nil_append, List.reverse_nil, List.append_nil]
    exact proofOf_nil t x d c1 c2 Nl (by rw [hz]; exact h1) (by rw [hz]; exact h2) (by omega) (by omega) (by omega) hl hNl
end Go.Proofs.YtkkkaegocinkeaaDoor.Ranges
