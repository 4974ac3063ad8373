/- The printed functions of the hash functions, of chains and of small tests, in plain lists. -/
import Derived.Test.YtkmdkmlgahfcpaaDoorLogA
import Derived.Test.YtkmdkmlgahfcpaaDoorM
import Derived.Laws.Bits64
import Derived.Laws.Bits64b
import Derived.WalkKit
import Derived.Test.YtkmdkmlgahfcpaaDoorWMore
namespace Go.Proofs.YtkmdkmlgahfcpaaDoor.Log
open Go Go.RowKit Go.Proofs.YtkmdkmlgahfcpaaDoor.M Go.Proofs.YtkmdkmlgahfcpaaDoor.Nodes Go.Proofs.YtkmdkmlgahfcpaaDoorW.PrintMore Go.Proofs.YtkmdkmlgahfcpaaDoorW.PrintWords Go.Proofs.YtkmdkmlgahfcpaaDoorW.PrintLast
set_option linter.unusedVariables false
set_option linter.unusedSimpArgs false

theorem wrap_nat (n : Nat) (h : n < 9223372036854775807) : wrap64 ((n : Int) + 1) = ((n + 1 : Nat) : Int) := by unfold wrap64; omega
theorem toNat_cast (n : Nat) : ((n : Nat) : Int).toNat = n := Int.toNat_natCast n
theorem getD_len {α : Type} (z : α) (pre : List α) (y : α) (rest : List α) : (pre ++ y :: rest).getD pre.length z = y := by
  rw [List.getD_eq_getElem?_getD, List.getElem?_append_right (Nat.le_refl _), Nat.sub_self]
  rfl
theorem u64_nat (a : Nat) (h : a < 18446744073709551616) : IntKind.u64.wrap (a : Int) = (a : Int) := IntWalk.u64_in _ ⟨by omega, by omega⟩
theorem shr_nat (a l : Nat) (h : a < 18446744073709551616) : shr .u64 (a : Int) (l : Int) = ((a / 2 ^ l : Nat) : Int) := by
  unfold shr
  rw [Int.toNat_natCast, show IntKind.bits .u64 = 64 from rfl]
  have e : ∀ m : Nat, ((a : Int) / 2 ^ m) = ((a / 2 ^ m : Nat) : Int) := fun m => by
    have e : ((2 : Int) ^ m) = ((2 ^ m : Nat) : Int) := by simp
    rw [e, ← Int.natCast_ediv]
  rw [e]
  by_cases hl : l ≤ 64
  · rw [Nat.min_eq_left hl]
  · rw [Nat.min_eq_right (by omega)]
    have h1 : 2 ^ 64 ≤ 2 ^ l := Nat.pow_le_pow_right (by decide) (by omega)
    rw [Nat.div_eq_of_lt (by omega), Nat.div_eq_of_lt (by omega)]
theorem and_one (a : Nat) (h : a < 18446744073709551616) : Go.bits .and .u64 (a : Int) 1 = ((a % 2 : Nat) : Int) := by
  rw [show (1 : Int) = ((1 : Nat) : Int) from rfl, bits_and_u64_nat a 1 h (by omega), show a &&& 1 = a % 2 from Nat.and_two_pow_sub_one_eq_mod a 1]
theorem bit_test (i j : Nat) (h : i < 18446744073709551616) (hj : j < 9223372036854775807) : Go.bits .and .u64 (shr .u64 (i : Int) (IntKind.u64.wrap (j : Int))) 1 = ((i / 2 ^ j % 2 : Nat) : Int) := by
  rw [u64_nat j (by omega), shr_nat i j h, and_one _ (Nat.lt_of_le_of_lt (Nat.div_le_self _ _) h)]

/-- A word mixed with bytes; its lowest bytes, the highest first. -/
def mix (w : Int) (l : List Int) : Int := l.foldl (fun w c => IntKind.u64.wrap ((Go.bits .xor .u64 w (IntKind.u64.wrap c)) * 1099511628211)) w
def wordB (x : Int) : Nat → List Int
  | 0 => []
  | m + 1 => (shr .u64 x ((8 * m : Nat) : Int) % 256) :: wordB x m
def nb (n : Int) : Nat := if n < 1 then 8 else if n > 8 then 8 else n.toNat
/-- The hash of two trees. -/
def hc (k0 k2 k5 : Int) (l r : List Int) : List Int := if k0 = 1 then wordB (mix k5 (l ++ [255] ++ r)) (nb k2) else [1] ++ wordB (l.length : Int) 8 ++ l ++ r
theorem wordB_len (x : Int) (n : Nat) : (wordB x n).length = n := by
  induction n with
  | zero => rfl
  | succ n ih => simp [wordB, ih]
theorem nb_le (n : Int) : 1 ≤ nb n ∧ nb n ≤ 8 := by
  unfold nb
  split
  · omega
  · split <;> omega
theorem hc_len (k0 k2 k5 : Int) (l r : List Int) : (hc k0 k2 k5 l r).length ≤ l.length + r.length + 9 := by
  unfold hc
  have := nb_le k2
  split <;> simp [wordB_len] <;> omega

theorem mixed_loop (b : List Int) (hb : b.length ≤ 9223372036854775806) : ∀ (rest pre : List Int) (w : Int), b = pre ++ rest → Ev (fun k => impl_mixed.l0 k w b (b.length : Int) (pre.length : Int)) (mix w rest)
  | [], pre, w, h => by
    refine Ev.step (fun k => impl_mixed.l0.eq_2 _ _ _ _ _) ?_
    rw [List.append_nil] at h
    subst h
    simp only [if_neg (show ¬ (b.length : Int) < (b.length : Int) by omega)]
    exact Ev.now _
  | c :: rest, pre, w, h => by
    refine Ev.step (fun k => impl_mixed.l0.eq_2 _ _ _ _ _) ?_
    have hlen : b.length = pre.length + (rest.length + 1) := by rw [h, List.length_append, List.length_cons]
    have hy : b.getD pre.length 0 = c := by rw [h]; exact getD_len 0 pre c rest
    have := mixed_loop b hb rest (pre ++ [c]) (IntKind.u64.wrap ((Go.bits .xor .u64 w (IntKind.u64.wrap c)) * 1099511628211)) (by rw [h, List.append_assoc]; rfl)
    rw [List.length_append, List.length_singleton] at this
    unfold rd
    simp only [toNat_cast, if_pos (show (pre.length : Int) < (b.length : Int) by omega), if_pos (show 0 ≤ (pre.length : Int) by omega), hy, wrap_nat pre.length (by omega)]
    exact this
theorem mixed_ev (w : Int) (b : List Int) (hb : b.length ≤ 9223372036854775806) : Ev (fun k => impl_mixed.f k w b) (mix w b) := mixed_loop b hb b [] w rfl
theorem mix_append (w : Int) (a b : List Int) : mix (mix w a) b = mix w (a ++ b) := by
  unfold mix
  rw [List.foldl_append]

theorem iword_loop (x : Int) (n : Nat) (hn : n ≤ 8) : ∀ (m i : Nat), i + m = n → Ev (fun k => impl_word.l0 k x (n : Int) (List.replicate m 0 ++ wordB x i) (n : Int) (i : Int)) (wordB x n)
  | 0, i, h => by
    refine Ev.step (fun k => impl_word.l0.eq_2 _ _ _ _ _ _) ?_
    obtain rfl : i = n := by omega
    simp only [if_neg (show ¬ (i : Int) < (i : Int) by omega), List.replicate_zero, List.nil_append]
    exact Ev.now _
  | m + 1, i, h => by
    refine Ev.step (fun k => impl_word.l0.eq_2 _ _ _ _ _ _) ?_
    have ih := iword_loop x n hn m (i + 1) (by omega)
    have e1 : wrap64 (8 * (i : Int)) = ((8 * i : Nat) : Int) := by unfold wrap64; omega
    have e2 : wrap64 (wrap64 ((n : Int) - 1) - (i : Int)) = (m : Int) := by unfold wrap64; omega
    have e3 : wrap64 ((i : Int) + 1) = ((i + 1 : Nat) : Int) := wrap_nat i (by omega)
    have e4 : ((List.replicate (m + 1) (0 : Int) ++ wordB x i).set m (shr .u64 x ((8 * i : Nat) : Int) % 256)) = List.replicate m 0 ++ wordB x (i + 1) := by
      rw [List.replicate_succ', List.append_assoc, List.set_append_right _ _ (by simp)]
      simp [wordB]
    have hlen : (List.replicate (m + 1) (0 : Int) ++ wordB x i).length = n := by simp [wordB_len]; omega
    simp only [e1, e2, e3, toNat_cast, hlen, if_pos (show (i : Int) < (n : Int) by omega), if_pos (show 0 ≤ ((8 * i : Nat) : Int) by omega), if_pos (show 0 ≤ (m : Int) by omega), if_pos (show (m : Int) < (n : Int) by omega), e4]
    exact ih
theorem iword_j1 (x : Int) (n : Nat) (hn : n ≤ 8) : Ev (fun k => impl_word.j1 k x (n : Int)) (wordB x n) := by
  refine Ev.step (fun k => impl_word.j1.eq_2 _ _ _) ?_
  have := iword_loop x n hn n 0 (by omega)
  simp only [wordB, List.append_nil] at this
  simp only [toNat_cast, if_pos (show 0 ≤ (n : Int) by omega), if_pos (show n ≤ 281474976710656 by omega), Option.bind_some, List.length_replicate]
  exact this
theorem iword_ev (x n : Int) : Ev (fun k => impl_word.f k x n) (wordB x (nb n)) := by
  unfold impl_word.f nb
  have h8 : ∀ m : Int, Ev (fun k => impl_word.j0 k x m true) (wordB x 8) := fun m => by
    refine Ev.step (fun k => impl_word.j0.eq_2 _ _ _ _) ?_
    simp only [if_true]
    exact iword_j1 x 8 (by omega)
  by_cases h1 : n < 1
  · simp only [if_pos h1]
    exact h8 n
  · simp only [if_neg h1]
    by_cases h2 : n > 8
    · simp only [if_pos h2, decide_eq_true h2]
      exact h8 n
    · simp only [if_neg h2, decide_eq_false h2]
      refine Ev.step (fun k => impl_word.j0.eq_2 _ _ _ _) ?_
      have hf : ¬ (false = true) := by decide
      simp only [if_neg hf]
      have := iword_j1 x n.toNat (by omega)
      rw [show ((n.toNat : Nat) : Int) = n by omega] at this
      exact this

theorem hash_ev (k0 k1 k2 k3 k4 k5 : Int) (l r : List Int) (h : l.length + r.length ≤ 70368744177664) : Ev (fun k => impl_toy_HashChildren.f k k0 k1 k2 k3 k4 k5 l r) (hc k0 k2 k5 l r) := by
  unfold impl_toy_HashChildren.f hc
  by_cases h0 : k0 = 1
  · simp only [if_pos h0]
    refine Ev.bind (mixed_ev _ _ (by omega)) (Ev.bind (mixed_ev _ _ (by simp)) (Ev.bind (mixed_ev _ _ (by omega)) ?_))
    rw [mix_append, mix_append, ← List.append_assoc]
    exact Ev.bind (iword_ev _ _) (Ev.now _)
  · simp only [if_neg h0, Option.bind_some, u64_nat l.length (by omega)]
    refine Ev.bind (a := wordB (l.length : Int) 8) ?_ ?_
    · have := iword_ev (l.length : Int) 8
      exact this
    · have e1 : ([1] : List Int).length + (wordB (l.length : Int) 8).length < 140737488355328 := by simp [wordB_len]
      have e2 : (([1] : List Int) ++ wordB (l.length : Int) 8).length + l.length < 140737488355328 := by simp [wordB_len]; omega
      have e3 : (([1] : List Int) ++ wordB (l.length : Int) 8 ++ l).length + r.length < 140737488355328 := by simp [wordB_len]; omega
      simp only [if_pos e1, if_pos e2, if_pos e3]
      exact Ev.now _

theorem sword_l1 (x : Int) : ∀ (m : Nat) (acc : List Int), m ≤ 8 → acc.length + m ≤ 1000 → Ev (fun k => spec_word.l1 k x acc ((m : Int) - 1)) (acc ++ wordB x m)
  | 0, acc, _, _ => by
    refine Ev.step (fun k => spec_word.l1.eq_2 _ _ _ _) ?_
    simp only [if_neg (show ¬ (((0 : Nat) : Int) - 1 ≥ 0) by omega), wordB, List.append_nil]
    exact Ev.now _
  | m + 1, acc, h1, h2 => by
    refine Ev.step (fun k => spec_word.l1.eq_2 _ _ _ _) ?_
    have ih := sword_l1 x m (acc ++ [shr .u64 x ((8 * m : Nat) : Int) % 256]) (by omega) (by simp; omega)
    have e0 : (((m + 1 : Nat) : Int) - 1) = (m : Int) := by omega
    have e1 : wrap64 (8 * (m : Int)) = ((8 * m : Nat) : Int) := by unfold wrap64; omega
    have e2 : wrap64 ((m : Int) - 1) = (m : Int) - 1 := by unfold wrap64; omega
    simp only [e0, e1, e2, if_pos (show (m : Int) ≥ 0 by omega), if_pos (show 0 ≤ ((8 * m : Nat) : Int) by omega), if_pos (show acc.length < 140737488355328 by omega)]
    rw [List.append_assoc] at ih
    exact ih
theorem sword_j2 (x : Int) (n : Nat) (hn : n ≤ 8) : Ev (fun k => spec_word.j2 k x (n : Int)) (wordB x n) := by
  refine Ev.step (fun k => spec_word.j2.eq_2 _ _ _) ?_
  have := sword_l1 x n [] hn (by simp; omega)
  have e2 : wrap64 ((n : Int) - 1) = (n : Int) - 1 := by unfold wrap64; omega
  simp only [e2]
  exact this
theorem sword_loop (k0 k1 k2 k3 k4 k5 : Int) (b : List Int) (hb : b.length ≤ 9223372036854775806) : ∀ (rest pre : List Int) (w : Int), b = pre ++ rest → Ev (fun k => spec_word.l0 k w b (b.length : Int) (pre.length : Int) k0 k1 k2 k3 k4 k5) (wordB (mix w rest) (nb k2))
  | [], pre, w, h => by
    refine Ev.step (fun k => spec_word.l0.eq_2 _ _ _ _ _ _ _ _ _ _ _) ?_
    rw [List.append_nil] at h
    subst h
    simp only [if_neg (show ¬ (b.length : Int) < (b.length : Int) by omega)]
    unfold nb
    have hf : ¬ (false = true) := by decide
    have h8 : ∀ m : Int, Ev (fun k => spec_word.j1 k w m true) (wordB w 8) := fun m => by
      refine Ev.step (fun k => spec_word.j1.eq_2 _ _ _ _) ?_
      simp only [if_true]
      exact sword_j2 w 8 (by omega)
    by_cases h1 : k2 < 1
    · simp only [if_pos h1]
      exact h8 k2
    · simp only [if_neg h1]
      by_cases h2 : k2 > 8
      · simp only [if_pos h2, decide_eq_true h2]
        exact h8 k2
      · simp only [if_neg h2, decide_eq_false h2]
        refine Ev.step (fun k => spec_word.j1.eq_2 _ _ _ _) ?_
        simp only [if_neg hf]
        have := sword_j2 w k2.toNat (by omega)
        rw [show ((k2.toNat : Nat) : Int) = k2 by omega] at this
        exact this
  | c :: rest, pre, w, h => by
    refine Ev.step (fun k => spec_word.l0.eq_2 _ _ _ _ _ _ _ _ _ _ _) ?_
    have hlen : b.length = pre.length + (rest.length + 1) := by rw [h, List.length_append, List.length_cons]
    have hy : b.getD pre.length 0 = c := by rw [h]; exact getD_len 0 pre c rest
    have := sword_loop k0 k1 k2 k3 k4 k5 b hb rest (pre ++ [c]) (IntKind.u64.wrap ((Go.bits .xor .u64 w (IntKind.u64.wrap c)) * 1099511628211)) (by rw [h, List.append_assoc]; rfl)
    rw [List.length_append, List.length_singleton] at this
    unfold rd
    simp only [toNat_cast, if_pos (show (pre.length : Int) < (b.length : Int) by omega), if_pos (show 0 ≤ (pre.length : Int) by omega), hy, wrap_nat pre.length (by omega)]
    exact this
theorem sword_ev (k0 k1 k2 k3 k4 k5 w : Int) (b : List Int) (hb : b.length ≤ 9223372036854775806) : Ev (fun k => spec_word.f k k0 k1 k2 k3 k4 k5 w b) (wordB (mix w b) (nb k2)) := sword_loop k0 k1 k2 k3 k4 k5 b hb b [] w rfl
theorem shash_loop (l r : List Int) (h : l.length + r.length ≤ 70368744177664) : ∀ (m : Nat) (acc : List Int), m ≤ 8 → acc.length + m ≤ 1000 → Ev (fun k => spec_HashChildren.l0 k l r acc (8 * ((m : Int) - 1))) (acc ++ wordB (l.length : Int) m ++ l ++ r)
  | 0, acc, _, _ => by
    refine Ev.step (fun k => spec_HashChildren.l0.eq_2 _ _ _ _ _) ?_
    have e1 : acc.length + l.length < 140737488355328 := by omega
    have e2 : (acc ++ l).length + r.length < 140737488355328 := by rw [List.length_append]; omega
    simp only [if_neg (show ¬ (8 * (((0 : Nat) : Int) - 1) ≥ 0) by omega), wordB, List.append_nil, if_pos e1, Option.bind_some, if_pos e2]
    exact Ev.now _
  | m + 1, acc, h1, h2 => by
    refine Ev.step (fun k => spec_HashChildren.l0.eq_2 _ _ _ _ _) ?_
    have ih := shash_loop l r h m (acc ++ [shr .u64 (l.length : Int) ((8 * m : Nat) : Int) % 256]) (by omega) (by simp; omega)
    have e0 : (8 * (((m + 1 : Nat) : Int) - 1)) = ((8 * m : Nat) : Int) := by omega
    have e2 : wrap64 (((8 * m : Nat) : Int) - 8) = 8 * ((m : Int) - 1) := by unfold wrap64; omega
    have e3 : acc.length + 1 < 140737488355328 := by omega
    simp only [e0, e2, u64_nat l.length (by omega), if_pos (show ((8 * m : Nat) : Int) ≥ 0 by omega), if_pos (show 0 ≤ ((8 * m : Nat) : Int) by omega), Option.bind_some, List.length_cons, List.length_nil, Nat.zero_add, if_pos e3]
    simp only [List.append_assoc, List.cons_append, List.nil_append] at ih
    simp only [wordB, List.append_assoc, List.cons_append, List.nil_append]
    exact ih
theorem shash_ev (k0 k1 k2 k3 k4 k5 : Int) (l r : List Int) (h : l.length + r.length ≤ 70368744177664) : Ev (fun k => spec_HashChildren.f k k0 k1 k2 k3 k4 k5 l r) (hc k0 k2 k5 l r) := by
  unfold spec_HashChildren.f spec_Terms.f hc
  simp only [Option.bind_some]
  by_cases h0 : k0 = 1
  · have hf : ¬ ((k0 != 1) = true) := by simp [h0]
    have e1 : ([] : List Int).length + l.length < 140737488355328 := by rw [List.length_nil]; omega
    have e2 : (([] : List Int) ++ l).length + ([255] : List Int).length < 140737488355328 := by simp; omega
    have e3 : (([] : List Int) ++ l ++ [255]).length + r.length < 140737488355328 := by simp; omega
    simp only [if_pos h0, if_neg hf, if_pos e1, if_pos e2, if_pos e3]
    refine Ev.bind (sword_ev k0 k1 k2 k3 k4 k5 k5 _ (by simp; omega)) ?_
    rw [List.nil_append]
    exact Ev.now _
  · have hf : (k0 != 1) = true := by simp [h0]
    simp only [if_neg h0, if_pos hf]
    have := shash_loop l r h 8 [1] (by omega) (by simp)
    exact this

/-- Sizes of chains. -/
def tot (p : List (List Int)) : Nat := (p.map fun r => r.length + 9).foldr (· + ·) 0
theorem tot_cons (a : List Int) (p : List (List Int)) : tot (a :: p) = a.length + 9 + tot p := rfl
theorem tot_append (p q : List (List Int)) : tot (p ++ q) = tot p + tot q := by
  induction p with
  | nil => simp [tot]
  | cons a p ih => rw [List.cons_append, tot_cons, tot_cons, ih]; omega
theorem tot_le (m : Nat) : ∀ p : List (List Int), (∀ r ∈ p, r.length ≤ m) → tot p ≤ p.length * (m + 9)
  | [], _ => by simp [tot]
  | a :: p, h => by
    rw [tot_cons, List.length_cons, Nat.add_mul, Nat.one_mul]
    have h1 := h a (List.mem_cons_self ..)
    have h2 := tot_le m p (fun r hr => h r (List.mem_cons_of_mem _ hr))
    omega
section
variable (k0 k1 k2 k3 k4 k5 : Int)
/-- Lists whose texts fit. -/
def Fit (L : List (List Int)) : Prop := L.length ≤ 2147483647 ∧ ∀ r ∈ L, r.length ≤ 2147483647
theorem fits_loop (L : List (List Int)) (hL : L.length ≤ 2147483647) : ∀ (rest pre : List (List Int)), L = pre ++ rest →
    ∃ r : Bool, Ev (fun q => laws_zzFits2.l0 q L (L.length : Int) (pre.length : Int)) r ∧ (r = true → ∀ x ∈ rest, x.length ≤ 2147483647)
  | [], pre, h => by
    rw [List.append_nil] at h
    subst h
    exact ⟨true, Ev.step (fun q => laws_zzFits2.l0.eq_2 _ _ _ _) (by simp only [if_neg (show ¬ (L.length : Int) < (L.length : Int) by omega)]; exact Ev.now _), fun _ x hx => by cases hx⟩
  | y :: rest, pre, h => by
    have hlen : L.length = pre.length + (rest.length + 1) := by rw [h, List.length_append, List.length_cons]
    have c1 : (pre.length : Int) < (L.length : Int) := by omega
    have c2 : 0 ≤ (pre.length : Int) := by omega
    have hy : L.getD pre.length [] = y := by rw [h]; exact getD_len [] pre y rest
    by_cases c3 : (y.length : Int) > 2147483647
    · refine ⟨false, Ev.step (fun q => laws_zzFits2.l0.eq_2 _ _ _ _) ?_, fun h => by cases h⟩
      unfold rd_L1
      simp only [toNat_cast, if_pos c1, if_pos c2, hy, if_pos c3]
      exact Ev.now _
    · obtain ⟨r, hr, h3⟩ := fits_loop L hL rest (pre ++ [y]) (by rw [h, List.append_assoc]; rfl)
      refine ⟨r, Ev.step (fun q => laws_zzFits2.l0.eq_2 _ _ _ _) ?_, fun hrt x hx => ?_⟩
      · unfold rd_L1
        simp only [toNat_cast, if_pos c1, if_pos c2, hy, if_neg c3, wrap_nat pre.length (by omega)]
        rw [List.length_append, List.length_singleton] at hr
        exact hr
      · rcases List.mem_cons.1 hx with rfl | hx
        · omega
        · exact h3 hrt x hx
theorem fits_ev (L : List (List Int)) : ∃ r : Bool, Ev (fun q => laws_zzFits2.f q L) r ∧ (r = true → Fit L) := by
  unfold laws_zzFits2.f
  by_cases h : (L.length : Int) > 2147483647
  · exact ⟨false, by simp only [if_pos h]; exact Ev.now _, fun h => by cases h⟩
  · simp only [if_neg h]
    obtain ⟨r, h1, h2⟩ := fits_loop L (by omega) L [] rfl
    exact ⟨r, h1, fun hr => ⟨by omega, h2 hr⟩⟩
/-- Lists of few texts, none long. -/
def Small (L : List (List Int)) : Prop := L.length ≤ 300 ∧ ∀ r ∈ L, r.length ≤ 5000
theorem small_loop (L : List (List Int)) (hL : L.length ≤ 2147483647) : ∀ (rest pre : List (List Int)), L = pre ++ rest →
    ∃ r : Bool, Ev (fun q => laws_logSmall.l0 q L L (L.length : Int) (pre.length : Int)) r ∧ (r = true → (∀ x ∈ rest, x.length ≤ 5000) ∧ L.length ≤ 300)
  | [], pre, h => by
    rw [List.append_nil] at h
    subst h
    exact ⟨_, Ev.step (fun q => laws_logSmall.l0.eq_2 _ _ _ _ _) (by simp only [if_neg (show ¬ (L.length : Int) < (L.length : Int) by omega)]; exact Ev.now _), fun h => ⟨fun x hx => (by cases hx), by have := of_decide_eq_true h; omega⟩⟩
  | y :: rest, pre, h => by
    have hlen : L.length = pre.length + (rest.length + 1) := by rw [h, List.length_append, List.length_cons]
    have c1 : (pre.length : Int) < (L.length : Int) := by omega
    have c2 : 0 ≤ (pre.length : Int) := by omega
    have hy : L.getD pre.length [] = y := by rw [h]; exact getD_len [] pre y rest
    by_cases c3 : (y.length : Int) > 5000
    · refine ⟨false, Ev.step (fun q => laws_logSmall.l0.eq_2 _ _ _ _ _) ?_, fun h => by cases h⟩
      unfold rd_L1
      simp only [toNat_cast, if_pos c1, if_pos c2, hy, if_pos c3]
      exact Ev.now _
    · obtain ⟨r, hr, h3⟩ := small_loop L hL rest (pre ++ [y]) (by rw [h, List.append_assoc]; rfl)
      refine ⟨r, Ev.step (fun q => laws_logSmall.l0.eq_2 _ _ _ _ _) ?_, fun hrt => ⟨fun x hx => ?_, (h3 hrt).2⟩⟩
      · unfold rd_L1
        simp only [toNat_cast, if_pos c1, if_pos c2, hy, if_neg c3, wrap_nat pre.length (by omega)]
        rw [List.length_append, List.length_singleton] at hr
        exact hr
      · rcases List.mem_cons.1 hx with rfl | hx
        · omega
        · exact (h3 hrt).1 x hx
theorem small_ev (L : List (List Int)) (hL : L.length ≤ 2147483647) : ∃ r : Bool, Ev (fun q => laws_logSmall.f q L) r ∧ (r = true → Small L) := by
  obtain ⟨r, h1, h2⟩ := small_loop L hL L [] rfl
  exact ⟨r, h1, fun h => ⟨(h2 h).2, (h2 h).1⟩⟩
theorem Small.fit {L : List (List Int)} (h : Small L) : Fit L := ⟨by have := h.1; omega, fun r hr => by have := h.2 r hr; omega⟩
theorem texts_loop (L : List (List Int)) (hL : L.length ≤ 2147483647) : ∀ (rest pre : List (List Int)), L = pre ++ rest → (∀ r ∈ rest, r.length ≤ 70368744177664) →
    Ev (fun k => impl_texts.l0 k pre L (L.length : Int) (pre.length : Int)) L
  | [], pre, h, hr => by
    refine Ev.step (fun k => impl_texts.l0.eq_2 _ _ _ _ _) ?_
    rw [List.append_nil] at h
    subst h
    simp only [if_neg (show ¬ (L.length : Int) < (L.length : Int) by omega)]
    exact Ev.now _
  | y :: rest, pre, h, hr => by
    refine Ev.step (fun k => impl_texts.l0.eq_2 _ _ _ _ _) ?_
    have hlen : L.length = pre.length + (rest.length + 1) := by rw [h, List.length_append, List.length_cons]
    have hy : L.getD pre.length [] = y := by rw [h]; exact getD_len [] pre y rest
    have hyl := hr y (List.mem_cons_self ..)
    have c3 : ([] : List Int).length + y.length < 140737488355328 := by rw [List.length_nil]; omega
    unfold rd_L1
    simp only [Option.bind_some, toNat_cast, if_pos (show (pre.length : Int) < (L.length : Int) by omega), if_pos (show 0 ≤ (pre.length : Int) by omega), hy, if_pos c3, if_pos (show pre.length < 5864062014805 by omega), wrap_nat pre.length (by omega), List.nil_append]
    have := texts_loop L hL rest (pre ++ [y]) (by rw [h, List.append_assoc]; rfl) (fun r h => hr r (List.mem_cons_of_mem _ h))
    rw [List.length_append, List.length_singleton] at this
    exact this
theorem texts_ev (L : List (List Int)) (hL : L.length ≤ 2147483647) (h : ∀ r ∈ L, r.length ≤ 70368744177664) : Ev (fun k => impl_texts.f k L) L := texts_loop L hL L [] rfl h
end
end Go.Proofs.YtkmdkmlgahfcpaaDoor.Log
