/- Law texts joined to one. -/
import Derived.Test.YtkmdkmlgahfcpaaDoorLawA
import Derived.Test.YtkmdkmlgahfcpaaDoorM
import Derived.Laws.Bits64
import Derived.Laws.Bits64b
import Derived.WalkKit
import Derived.Test.YtkmdkmlgahfcpaaDoorWMore
import Derived.OpenShut
/- The printed functions of the hash functions, of chains and of small tests, in plain lists. -/
namespace Go.Proofs.YtkmdkmlgahfcpaaDoor.Log
open Go Go.RowKit Go.Proofs.YtkmdkmlgahfcpaaDoor.M Go.Proofs.YtkmdkmlgahfcpaaDoor.Nodes Go.Proofs.YtkmdkmlgahfcpaaDoorW.PrintMore Go.Proofs.YtkmdkmlgahfcpaaDoorW.PrintWords Go.Proofs.YtkmdkmlgahfcpaaDoorW.PrintLast
set_option linter.unusedVariables false
set_option linter.unusedSimpArgs false

theorem wrap_nat (n : Nat) (h : n < 9223372036854775807) : wrap64 ((n : Int) + 1) = ((n + 1 : Nat) : Int) := by unfold wrap64; omega
theorem toNat_cast (n : Nat) : ((n : Nat) : Int).toNat = n := Int.toNat_natCast n
theorem getD_len {α : Type} (z : α) (pre : List α) (y : α) (rest : List α) : (pre ++ y :: rest).getD pre.length z = y := by
  rw [List.getD_eq_getElem?_getD, List.getElem?_append_right (Nat.le_refl _), Nat.sub_self]
  rfl
theorem u64_nat (a : Nat) (h : a < 18446744073709551616) : IntKind.u64.wrap (a : Int) = (a : Int) := IntWalk.u64_in _ ⟨by omega, by omega⟩
theorem shr_nat (a l : Nat) (h : a < 18446744073709551616) : shr .u64 (a : Int) (l : Int) = ((a / 2 ^ l : Nat) : Int) := by
  unfold shr
  rw [Int.toNat_natCast, show IntKind.bits .u64 = 64 from rfl]
  have e : ∀ m : Nat, ((a : Int) / 2 ^ m) = ((a / 2 ^ m : Nat) : Int) := fun m => by
    have e : ((2 : Int) ^ m) = ((2 ^ m : Nat) : Int) := by simp
    rw [e, ← Int.natCast_ediv]
  rw [e]
  by_cases hl : l ≤ 64
  · rw [Nat.min_eq_left hl]
  · rw [Nat.min_eq_right (by omega)]
    have h1 : 2 ^ 64 ≤ 2 ^ l := Nat.pow_le_pow_right (by decide) (by omega)
    rw [Nat.div_eq_of_lt (by omega), Nat.div_eq_of_lt (by omega)]
/-- A word mixed with bytes; its lowest bytes, the highest first. -/
def mix (w : Int) (l : List Int) : Int := l.foldl (fun w c => IntKind.u64.wrap ((Go.bits .xor .u64 w (IntKind.u64.wrap c)) * 1099511628211)) w
def wordB (x : Int) : Nat → List Int
  | 0 => []
  | m + 1 => (shr .u64 x ((8 * m : Nat) : Int) % 256) :: wordB x m
def nb (n : Int) : Nat := if n < 1 then 8 else if n > 8 then 8 else n.toNat
/-- The hash of two trees. -/
def hc (k0 k2 k5 : Int) (l r : List Int) : List Int := if k0 = 1 then wordB (mix k5 (l ++ [255] ++ r)) (nb k2) else [1] ++ wordB (l.length : Int) 8 ++ l ++ r
theorem wordB_len (x : Int) (n : Nat) : (wordB x n).length = n := by
  induction n with
  | zero => rfl
  | succ n ih => simp [wordB, ih]
theorem nb_le (n : Int) : 1 ≤ nb n ∧ nb n ≤ 8 := by
  unfold nb
  split
  · omega
  · split <;> omega
theorem hc_len (k0 k2 k5 : Int) (l r : List Int) : (hc k0 k2 k5 l r).length ≤ l.length + r.length + 9 := by
  unfold hc
  have := nb_le k2
  split <;> simp [wordB_len] <;> omega

theorem mixed_loop (b : List Int) (hb : b.length ≤ 9223372036854775806) : ∀ (rest pre : List Int) (w : Int), b = pre ++ rest → Ev (fun k => impl_mixed.l0 k w b (b.length : Int) (pre.length : Int)) (mix w rest)
  | [], pre, w, h => by
    refine Ev.step (fun k => impl_mixed.l0.eq_2 _ _ _ _ _) ?_
    rw [List.append_nil] at h
    subst h
    simp only [if_neg (show ¬ (b.length : Int) < (b.length : Int) by omega)]
    exact Ev.now _
  | c :: rest, pre, w, h => by
    refine Ev.step (fun k => impl_mixed.l0.eq_2 _ _ _ _ _) ?_
    have hlen : b.length = pre.length + (rest.length + 1) := by rw [h, List.length_append, List.length_cons]
    have hy : b.getD pre.length 0 = c := by rw [h]; exact getD_len 0 pre c rest
    have := mixed_loop b hb rest (pre ++ [c]) (IntKind.u64.wrap ((Go.bits .xor .u64 w (IntKind.u64.wrap c)) * 1099511628211)) (by rw [h, List.append_assoc]; rfl)
    rw [List.length_append, List.length_singleton] at this
    unfold rd
    simp only [toNat_cast, if_pos (show (pre.length : Int) < (b.length : Int) by omega), if_pos (show 0 ≤ (pre.length : Int) by omega), hy, wrap_nat pre.length (by omega)]
    exact this
theorem mixed_ev (w : Int) (b : List Int) (hb : b.length ≤ 9223372036854775806) : Ev (fun k => impl_mixed.f k w b) (mix w b) := mixed_loop b hb b [] w rfl
theorem mix_append (w : Int) (a b : List Int) : mix (mix w a) b = mix w (a ++ b) := by
  unfold mix
  rw [List.foldl_append]

theorem iword_loop (x : Int) (n : Nat) (hn : n ≤ 8) : ∀ (m i : Nat), i + m = n → Ev (fun k => impl_word.l0 k x (n : Int) (List.replicate m 0 ++ wordB x i) (n : Int) (i : Int)) (wordB x n)
  | 0, i, h => by
    refine Ev.step (fun k => impl_word.l0.eq_2 _ _ _ _ _ _) ?_
    obtain rfl : i = n := by omega
    simp only [if_neg (show ¬ (i : Int) < (i : Int) by omega), List.replicate_zero, List.nil_append]
    exact Ev.now _
  | m + 1, i, h => by
    refine Ev.step (fun k => impl_word.l0.eq_2 _ _ _ _ _ _) ?_
    have ih := iword_loop x n hn m (i + 1) (by omega)
    have e1 : wrap64 (8 * (i : Int)) = ((8 * i : Nat) : Int) := by unfold wrap64; omega
    have e2 : wrap64 (wrap64 ((n : Int) - 1) - (i : Int)) = (m : Int) := by unfold wrap64; omega
    have e3 : wrap64 ((i : Int) + 1) = ((i + 1 : Nat) : Int) := wrap_nat i (by omega)
    have e4 : ((List.replicate (m + 1) (0 : Int) ++ wordB x i).set m (shr .u64 x ((8 * i : Nat) : Int) % 256)) = List.replicate m 0 ++ wordB x (i + 1) := by
      rw [List.replicate_succ', List.append_assoc, List.set_append_right _ _ (by simp)]
      simp [wordB]
    have hlen : (List.replicate (m + 1) (0 : Int) ++ wordB x i).length = n := by simp [wordB_len]; omega
    simp only [e1, e2, e3, toNat_cast, hlen, if_pos (show (i : Int) < (n : Int) by omega), if_pos (show 0 ≤ ((8 * i : Nat) : Int) by omega), if_pos (show 0 ≤ (m : Int) by omega), if_pos (show (m : Int) < (n : Int) by omega), e4]
    exact ih
theorem iword_j1 (x : Int) (n : Nat) (hn : n ≤ 8) : Ev (fun k => impl_word.j1 k x (n : Int)) (wordB x n) := by
  refine Ev.step (fun k => impl_word.j1.eq_2 _ _ _) ?_
  have := iword_loop x n hn n 0 (by omega)
  simp only [wordB, List.append_nil] at this
  simp only [toNat_cast, if_pos (show 0 ≤ (n : Int) by omega), if_pos (show n ≤ 281474976710656 by omega), Option.bind_some, List.length_replicate]
  exact this
theorem iword_ev (x n : Int) : Ev (fun k => impl_word.f k x n) (wordB x (nb n)) := by
  unfold impl_word.f nb
  have h8 : ∀ m : Int, Ev (fun k => impl_word.j0 k x m true) (wordB x 8) := fun m => by
    refine Ev.step (fun k => impl_word.j0.eq_2 _ _ _ _) ?_
    simp only [if_true]
    exact iword_j1 x 8 (by omega)
  by_cases h1 : n < 1
  · simp only [if_pos h1]
    exact h8 n
  · simp only [if_neg h1]
    by_cases h2 : n > 8
    · simp only [if_pos h2, decide_eq_true h2]
      exact h8 n
    · simp only [if_neg h2, decide_eq_false h2]
      refine Ev.step (fun k => impl_word.j0.eq_2 _ _ _ _) ?_
      have hf : ¬ (false = true) := by decide
      simp only [if_neg hf]
      have := iword_j1 x n.toNat (by omega)
      rw [show ((n.toNat : Nat) : Int) = n by omega] at this
      exact this

theorem hash_ev (k0 k1 k2 k3 k4 k5 : Int) (l r : List Int) (h : l.length + r.length ≤ 70368744177664) : Ev (fun k => impl_toy_HashChildren.f k k0 k1 k2 k3 k4 k5 l r) (hc k0 k2 k5 l r) := by
  unfold impl_toy_HashChildren.f hc
  by_cases h0 : k0 = 1
  · simp only [if_pos h0]
    refine Ev.bind (mixed_ev _ _ (by omega)) (Ev.bind (mixed_ev _ _ (by simp)) (Ev.bind (mixed_ev _ _ (by omega)) ?_))
    rw [mix_append, mix_append, ← List.append_assoc]
    exact Ev.bind (iword_ev _ _) (Ev.now _)
  · simp only [if_neg h0, Option.bind_some, u64_nat l.length (by omega)]
    refine Ev.bind (a := wordB (l.length : Int) 8) ?_ ?_
    · have := iword_ev (l.length : Int) 8
      exact this
    · have e1 : ([1] : List Int).length + (wordB (l.length : Int) 8).length < 140737488355328 := by simp [wordB_len]
      have e2 : (([1] : List Int) ++ wordB (l.length : Int) 8).length + l.length < 140737488355328 := by simp [wordB_len]; omega
      have e3 : (([1] : List Int) ++ wordB (l.length : Int) 8 ++ l).length + r.length < 140737488355328 := by simp [wordB_len]; omega
      simp only [if_pos e1, if_pos e2, if_pos e3]
      exact Ev.now _

theorem sword_l1 (x : Int) : ∀ (m : Nat) (acc : List Int), m ≤ 8 → acc.length + m ≤ 1000 → Ev (fun k => spec_word.l1 k x acc ((m : Int) - 1)) (acc ++ wordB x m)
  | 0, acc, _, _ => by
    refine Ev.step (fun k => spec_word.l1.eq_2 _ _ _ _) ?_
    simp only [if_neg (show ¬ (((0 : Nat) : Int) - 1 ≥ 0) by omega), wordB, List.append_nil]
    exact Ev.now _
  | m + 1, acc, h1, h2 => by
    refine Ev.step (fun k => spec_word.l1.eq_2 _ _ _ _) ?_
    have ih := sword_l1 x m (acc ++ [shr .u64 x ((8 * m : Nat) : Int) % 256]) (by omega) (by simp; omega)
    have e0 : (((m + 1 : Nat) : Int) - 1) = (m : Int) := by omega
    have e1 : wrap64 (8 * (m : Int)) = ((8 * m : Nat) : Int) := by unfold wrap64; omega
    have e2 : wrap64 ((m : Int) - 1) = (m : Int) - 1 := by unfold wrap64; omega
    simp only [e0, e1, e2, if_pos (show (m : Int) ≥ 0 by omega), if_pos (show 0 ≤ ((8 * m : Nat) : Int) by omega), if_pos (show acc.length < 140737488355328 by omega)]
    rw [List.append_assoc] at ih
    exact ih
theorem sword_j2 (x : Int) (n : Nat) (hn : n ≤ 8) : Ev (fun k => spec_word.j2 k x (n : Int)) (wordB x n) := by
  refine Ev.step (fun k => spec_word.j2.eq_2 _ _ _) ?_
  have := sword_l1 x n [] hn (by simp; omega)
  have e2 : wrap64 ((n : Int) - 1) = (n : Int) - 1 := by unfold wrap64; omega
  simp only [e2]
  exact this
theorem sword_loop (k0 k1 k2 k3 k4 k5 : Int) (b : List Int) (hb : b.length ≤ 9223372036854775806) : ∀ (rest pre : List Int) (w : Int), b = pre ++ rest → Ev (fun k => spec_word.l0 k w b (b.length : Int) (pre.length : Int) k0 k1 k2 k3 k4 k5) (wordB (mix w rest) (nb k2))
  | [], pre, w, h => by
    refine Ev.step (fun k => spec_word.l0.eq_2 _ _ _ _ _ _ _ _ _ _ _) ?_
    rw [List.append_nil] at h
    subst h
    simp only [if_neg (show ¬ (b.length : Int) < (b.length : Int) by omega)]
    unfold nb
    have hf : ¬ (false = true) := by decide
    have h8 : ∀ m : Int, Ev (fun k => spec_word.j1 k w m true) (wordB w 8) := fun m => by
      refine Ev.step (fun k => spec_word.j1.eq_2 _ _ _ _) ?_
      simp only [if_true]
      exact sword_j2 w 8 (by omega)
    by_cases h1 : k2 < 1
    · simp only [if_pos h1]
      exact h8 k2
    · simp only [if_neg h1]
      by_cases h2 : k2 > 8
      · simp only [if_pos h2, decide_eq_true h2]
        exact h8 k2
      · simp only [if_neg h2, decide_eq_false h2]
        refine Ev.step (fun k => spec_word.j1.eq_2 _ _ _ _) ?_
        simp only [if_neg hf]
        have := sword_j2 w k2.toNat (by omega)
        rw [show ((k2.toNat : Nat) : Int) = k2 by omega] at this
        exact this
  | c :: rest, pre, w, h => by
    refine Ev.step (fun k => spec_word.l0.eq_2 _ _ _ _ _ _ _ _ _ _ _) ?_
    have hlen : b.length = pre.length + (rest.length + 1) := by rw [h, List.length_append, List.length_cons]
    have hy : b.getD pre.length 0 = c := by rw [h]; exact getD_len 0 pre c rest
    have := sword_loop k0 k1 k2 k3 k4 k5 b hb rest (pre ++ [c]) (IntKind.u64.wrap ((Go.bits .xor .u64 w (IntKind.u64.wrap c)) * 1099511628211)) (by rw [h, List.append_assoc]; rfl)
    rw [List.length_append, List.length_singleton] at this
    unfold rd
    simp only [toNat_cast, if_pos (show (pre.length : Int) < (b.length : Int) by omega), if_pos (show 0 ≤ (pre.length : Int) by omega), hy, wrap_nat pre.length (by omega)]
    exact this
theorem sword_ev (k0 k1 k2 k3 k4 k5 w : Int) (b : List Int) (hb : b.length ≤ 9223372036854775806) : Ev (fun k => spec_word.f k k0 k1 k2 k3 k4 k5 w b) (wordB (mix w b) (nb k2)) := sword_loop k0 k1 k2 k3 k4 k5 b hb b [] w rfl
theorem shash_loop (l r : List Int) (h : l.length + r.length ≤ 70368744177664) : ∀ (m : Nat) (acc : List Int), m ≤ 8 → acc.length + m ≤ 1000 → Ev (fun k => spec_HashChildren.l0 k l r acc (8 * ((m : Int) - 1))) (acc ++ wordB (l.length : Int) m ++ l ++ r)
  | 0, acc, _, _ => by
    refine Ev.step (fun k => spec_HashChildren.l0.eq_2 _ _ _ _ _) ?_
    have e1 : acc.length + l.length < 140737488355328 := by omega
    have e2 : (acc ++ l).length + r.length < 140737488355328 := by rw [List.length_append]; omega
    simp only [if_neg (show ¬ (8 * (((0 : Nat) : Int) - 1) ≥ 0) by omega), wordB, List.append_nil, if_pos e1, Option.bind_some, if_pos e2]
    exact Ev.now _
  | m + 1, acc, h1, h2 => by
    refine Ev.step (fun k => spec_HashChildren.l0.eq_2 _ _ _ _ _) ?_
    have ih := shash_loop l r h m (acc ++ [shr .u64 (l.length : Int) ((8 * m : Nat) : Int) % 256]) (by omega) (by simp; omega)
    have e0 : (8 * (((m + 1 : Nat) : Int) - 1)) = ((8 * m : Nat) : Int) := by omega
    have e2 : wrap64 (((8 * m : Nat) : Int) - 8) = 8 * ((m : Int) - 1) := by unfold wrap64; omega
    have e3 : acc.length + 1 < 140737488355328 := by omega
    simp only [e0, e2, u64_nat l.length (by omega), if_pos (show ((8 * m : Nat) : Int) ≥ 0 by omega), if_pos (show 0 ≤ ((8 * m : Nat) : Int) by omega), Option.bind_some, List.length_cons, List.length_nil, Nat.zero_add, if_pos e3]
    simp only [List.append_assoc, List.cons_append, List.nil_append] at ih
    simp only [wordB, List.append_assoc, List.cons_append, List.nil_append]
    exact ih
theorem shash_ev (k0 k1 k2 k3 k4 k5 : Int) (l r : List Int) (h : l.length + r.length ≤ 70368744177664) : Ev (fun k => spec_HashChildren.f k k0 k1 k2 k3 k4 k5 l r) (hc k0 k2 k5 l r) := by
  unfold spec_HashChildren.f spec_Terms.f hc
  simp only [Option.bind_some]
  by_cases h0 : k0 = 1
  · have hf : ¬ ((k0 != 1) = true) := by simp [h0]
    have e1 : ([] : List Int).length + l.length < 140737488355328 := by rw [List.length_nil]; omega
    have e2 : (([] : List Int) ++ l).length + ([255] : List Int).length < 140737488355328 := by simp; omega
    have e3 : (([] : List Int) ++ l ++ [255]).length + r.length < 140737488355328 := by simp; omega
    simp only [if_pos h0, if_neg hf, if_pos e1, if_pos e2, if_pos e3]
    refine Ev.bind (sword_ev k0 k1 k2 k3 k4 k5 k5 _ (by simp; omega)) ?_
    rw [List.nil_append]
    exact Ev.now _
  · have hf : (k0 != 1) = true := by simp [h0]
    simp only [if_neg h0, if_pos hf]
    have := shash_loop l r h 8 [1] (by omega) (by simp)
    exact this

/-- Sizes of chains. -/
def tot (p : List (List Int)) : Nat := (p.map fun r => r.length + 9).foldr (· + ·) 0
theorem tot_cons (a : List Int) (p : List (List Int)) : tot (a :: p) = a.length + 9 + tot p := rfl
theorem tot_le (m : Nat) : ∀ p : List (List Int), (∀ r ∈ p, r.length ≤ m) → tot p ≤ p.length * (m + 9)
  | [], _ => by simp [tot]
  | a :: p, h => by
    rw [tot_cons, List.length_cons, Nat.add_mul, Nat.one_mul]
    have h1 := h a (List.mem_cons_self ..)
    have h2 := tot_le m p (fun r hr => h r (List.mem_cons_of_mem _ hr))
    omega
section
variable (k0 k1 k2 k3 k4 k5 : Int)
/-- Lists whose texts fit. -/
def Fit (L : List (List Int)) : Prop := L.length ≤ 2147483647 ∧ ∀ r ∈ L, r.length ≤ 2147483647
theorem fits_loop (L : List (List Int)) (hL : L.length ≤ 2147483647) : ∀ (rest pre : List (List Int)), L = pre ++ rest →
    ∃ r : Bool, Ev (fun q => laws_zzFits2.l0 q L (L.length : Int) (pre.length : Int)) r ∧ (r = true → ∀ x ∈ rest, x.length ≤ 2147483647)
  | [], pre, h => by
    rw [List.append_nil] at h
    subst h
    exact ⟨true, Ev.step (fun q => laws_zzFits2.l0.eq_2 _ _ _ _) (by simp only [if_neg (show ¬ (L.length : Int) < (L.length : Int) by omega)]; exact Ev.now _), fun _ x hx => by cases hx⟩
  | y :: rest, pre, h => by
    have hlen : L.length = pre.length + (rest.length + 1) := by rw [h, List.length_append, List.length_cons]
    have c1 : (pre.length : Int) < (L.length : Int) := by omega
    have c2 : 0 ≤ (pre.length : Int) := by omega
    have hy : L.getD pre.length [] = y := by rw [h]; exact getD_len [] pre y rest
    by_cases c3 : (y.length : Int) > 2147483647
    · refine ⟨false, Ev.step (fun q => laws_zzFits2.l0.eq_2 _ _ _ _) ?_, fun h => by cases h⟩
      unfold rd_L1
      simp only [toNat_cast, if_pos c1, if_pos c2, hy, if_pos c3]
      exact Ev.now _
    · obtain ⟨r, hr, h3⟩ := fits_loop L hL rest (pre ++ [y]) (by rw [h, List.append_assoc]; rfl)
      refine ⟨r, Ev.step (fun q => laws_zzFits2.l0.eq_2 _ _ _ _) ?_, fun hrt x hx => ?_⟩
      · unfold rd_L1
        simp only [toNat_cast, if_pos c1, if_pos c2, hy, if_neg c3, wrap_nat pre.length (by omega)]
        rw [List.length_append, List.length_singleton] at hr
        exact hr
      · rcases List.mem_cons.1 hx with rfl | hx
        · omega
        · exact h3 hrt x hx
theorem fits_ev (L : List (List Int)) : ∃ r : Bool, Ev (fun q => laws_zzFits2.f q L) r ∧ (r = true → Fit L) := by
  unfold laws_zzFits2.f
  by_cases h : (L.length : Int) > 2147483647
  · exact ⟨false, by simp only [if_pos h]; exact Ev.now _, fun h => by cases h⟩
  · simp only [if_neg h]
    obtain ⟨r, h1, h2⟩ := fits_loop L (by omega) L [] rfl
    exact ⟨r, h1, fun hr => ⟨by omega, h2 hr⟩⟩
/-- Lists of few texts, none long. -/
def Small (L : List (List Int)) : Prop := L.length ≤ 300 ∧ ∀ r ∈ L, r.length ≤ 5000
theorem small_loop (L : List (List Int)) (hL : L.length ≤ 2147483647) : ∀ (rest pre : List (List Int)), L = pre ++ rest →
    ∃ r : Bool, Ev (fun q => laws_logSmall.l0 q L L (L.length : Int) (pre.length : Int)) r ∧ (r = true → (∀ x ∈ rest, x.length ≤ 5000) ∧ L.length ≤ 300)
  | [], pre, h => by
    rw [List.append_nil] at h
    subst h
    exact ⟨_, Ev.step (fun q => laws_logSmall.l0.eq_2 _ _ _ _ _) (by simp only [if_neg (show ¬ (L.length : Int) < (L.length : Int) by omega)]; exact Ev.now _), fun h => ⟨fun x hx => (by cases hx), by have := of_decide_eq_true h; omega⟩⟩
  | y :: rest, pre, h => by
    have hlen : L.length = pre.length + (rest.length + 1) := by rw [h, List.length_append, List.length_cons]
    have c1 : (pre.length : Int) < (L.length : Int) := by omega
    have c2 : 0 ≤ (pre.length : Int) := by omega
    have hy : L.getD pre.length [] = y := by rw [h]; exact getD_len [] pre y rest
    by_cases c3 : (y.length : Int) > 5000
    · refine ⟨false, Ev.step (fun q => laws_logSmall.l0.eq_2 _ _ _ _ _) ?_, fun h => by cases h⟩
      unfold rd_L1
      simp only [toNat_cast, if_pos c1, if_pos c2, hy, if_pos c3]
      exact Ev.now _
    · obtain ⟨r, hr, h3⟩ := small_loop L hL rest (pre ++ [y]) (by rw [h, List.append_assoc]; rfl)
      refine ⟨r, Ev.step (fun q => laws_logSmall.l0.eq_2 _ _ _ _ _) ?_, fun hrt => ⟨fun x hx => ?_, (h3 hrt).2⟩⟩
      · unfold rd_L1
        simp only [toNat_cast, if_pos c1, if_pos c2, hy, if_neg c3, wrap_nat pre.length (by omega)]
        rw [List.length_append, List.length_singleton] at hr
        exact hr
      · rcases List.mem_cons.1 hx with rfl | hx
        · omega
        · exact (h3 hrt).1 x hx
theorem small_ev (L : List (List Int)) (hL : L.length ≤ 2147483647) : ∃ r : Bool, Ev (fun q => laws_logSmall.f q L) r ∧ (r = true → Small L) := by
  obtain ⟨r, h1, h2⟩ := small_loop L hL L [] rfl
  exact ⟨r, h1, fun h => ⟨(h2 h).2, (h2 h).1⟩⟩
theorem Small.fit {L : List (List Int)} (h : Small L) : Fit L := ⟨by have := h.1; omega, fun r hr => by have := h.2 r hr; omega⟩
theorem texts_loop (L : List (List Int)) (hL : L.length ≤ 2147483647) : ∀ (rest pre : List (List Int)), L = pre ++ rest → (∀ r ∈ rest, r.length ≤ 70368744177664) →
    Ev (fun k => impl_texts.l0 k pre L (L.length : Int) (pre.length : Int)) L
  | [], pre, h, hr => by
    refine Ev.step (fun k => impl_texts.l0.eq_2 _ _ _ _ _) ?_
    rw [List.append_nil] at h
    subst h
    simp only [if_neg (show ¬ (L.length : Int) < (L.length : Int) by omega)]
    exact Ev.now _
  | y :: rest, pre, h, hr => by
    refine Ev.step (fun k => impl_texts.l0.eq_2 _ _ _ _ _) ?_
    have hlen : L.length = pre.length + (rest.length + 1) := by rw [h, List.length_append, List.length_cons]
    have hy : L.getD pre.length [] = y := by rw [h]; exact getD_len [] pre y rest
    have hyl := hr y (List.mem_cons_self ..)
    have c3 : ([] : List Int).length + y.length < 140737488355328 := by rw [List.length_nil]; omega
    unfold rd_L1
    simp only [Option.bind_some, toNat_cast, if_pos (show (pre.length : Int) < (L.length : Int) by omega), if_pos (show 0 ≤ (pre.length : Int) by omega), hy, if_pos c3, if_pos (show pre.length < 5864062014805 by omega), wrap_nat pre.length (by omega), List.nil_append]
    have := texts_loop L hL rest (pre ++ [y]) (by rw [h, List.append_assoc]; rfl) (fun r h => hr r (List.mem_cons_of_mem _ h))
    rw [List.length_append, List.length_singleton] at this
    exact this
theorem texts_ev (L : List (List Int)) (hL : L.length ≤ 2147483647) (h : ∀ r ∈ L, r.length ≤ 70368744177664) : Ev (fun k => impl_texts.f k L) L := texts_loop L hL L [] rfl h
end
end Go.Proofs.YtkmdkmlgahfcpaaDoor.Log
/- The printed functions of small numbers: the greatest power of two below, the sizes of a path's parts. -/
namespace Go.Proofs.YtkmdkmlgahfcpaaDoor.Log
open Go Go.RowKit Go.Proofs.YtkmdkmlgahfcpaaDoor.M Go.Proofs.YtkmdkmlgahfcpaaDoor.Nodes Go.Proofs.YtkmdkmlgahfcpaaDoorW.PrintMore Go.Proofs.YtkmdkmlgahfcpaaDoorW.PrintWords Go.Proofs.YtkmdkmlgahfcpaaDoorW.PrintLast
set_option linter.unusedVariables false
set_option linter.unusedSimpArgs false

theorem nat_u64 {a : Int} (h : (Lit.int .u64 a).wf = true) : ∃ n : Nat, a = (n : Int) ∧ n < 18446744073709551616 := by
  have := bounds_u64 h
  exact ⟨a.toNat, by omega, by omega⟩
theorem sub_u64 (a b : Nat) (h : b ≤ a) (ha : a < 18446744073709551616) : IntKind.u64.wrap ((a : Int) - (b : Int)) = ((a - b : Nat) : Int) := by
  rw [show ((a : Int) - (b : Int)) = ((a - b : Nat) : Int) by omega]; exact u64_nat _ (by omega)
theorem add_u64 (a b : Nat) (ha : a + b < 18446744073709551616) : IntKind.u64.wrap ((a : Int) + (b : Int)) = ((a + b : Nat) : Int) := by
  rw [← Int.natCast_add]; exact u64_nat _ ha
theorem split_loop (n : Nat) (hn : n < 18446744073709551616) : ∀ (m j : Nat), 2 ^ j + m = n → 1 ≤ m → Ev (fun k => spec_split.l0 k (n : Int) ((2 ^ j : Nat) : Int)) (sp n : Nat) := by
  intro m
  induction m using Nat.strongRecOn with
  | _ m ih =>
    intro j hj h1
    refine Ev.step (fun k => spec_split.l0.eq_2 _ _ _) ?_
    have hp := Nat.two_pow_pos j
    have e2 : 2 ^ (j + 1) = 2 ^ j + 2 ^ j := by rw [Nat.pow_succ]; omega
    rw [sub_u64 n (2 ^ j) (by omega) hn, show n - 2 ^ j = m by omega]
    by_cases h : 2 ^ j < m
    · have e1 : IntKind.u64.wrap (((2 ^ j : Nat) : Int) * 2) = ((2 ^ (j + 1) : Nat) : Int) := by
        rw [show (((2 ^ j : Nat) : Int) * 2) = ((2 ^ (j + 1) : Nat) : Int) by omega]
        exact u64_nat _ (by omega)
      simp only [if_pos (show ((2 ^ j : Nat) : Int) < (m : Int) by omega), e1]
      exact ih (m - 2 ^ j) (by omega) (j + 1) (by omega) (by omega)
    · simp only [if_neg (show ¬ ((2 ^ j : Nat) : Int) < (m : Int) by omega)]
      rw [sp_eq (n := n) (a := j) (by omega) (by omega)]
      exact Ev.now _
theorem split_ev (n : Nat) (h : 2 ≤ n) (hn : n < 18446744073709551616) : Ev (fun k => spec_split.f k (n : Int)) (sp n : Nat) := by
  unfold spec_split.f
  have := split_loop n hn (n - 1) 0 (by simp; omega) (by omega)
  exact this

def mkP (p : Nat × Nat) : S57 := ⟨p.1, p.2⟩
theorem pop_le : ∀ f x, Lib.popAux f x ≤ f := by
  intro f
  induction f with
  | zero => intro x; exact Nat.le_refl _
  | succ f ih => intro x; simp only [Lib.popAux]; have := ih (x / 2); omega
theorem border_le (i n : Nat) : border i n ≤ 64 := pop_le 64 _
theorem inner_le (i n : Nat) (hi : i < n) (hn : n < 18446744073709551616) : inner i n ≤ 64 := by
  unfold inner
  exact Lib.bitLen_le _ 64 (by omega) (Nat.xor_lt_two_pow (by omega) (by omega))
end Go.Proofs.YtkmdkmlgahfcpaaDoor.Log
/- The printed functions of a proof between two logs, in plain numbers and lists. -/
namespace Go.Proofs.YtkmdkmlgahfcpaaDoor.Log
open Go Go.RowKit Go.Proofs.YtkmdkmlgahfcpaaDoor.M Go.Proofs.YtkmdkmlgahfcpaaDoor.Nodes Go.Proofs.YtkmdkmlgahfcpaaDoorW.PrintMore Go.Proofs.YtkmdkmlgahfcpaaDoorW.PrintWords Go.Proofs.YtkmdkmlgahfcpaaDoorW.PrintLast
set_option linter.unusedVariables false
set_option linter.unusedSimpArgs false
theorem tz_ex (s : Nat) (h0 : 0 < s) (h : s < 18446744073709551616) : Tz s (Lib.ctz 64 s) ∧ Lib.ctz 64 s < 64 := by
  obtain ⟨q, hq, hl⟩ := ctz_low s (by omega) (by omega)
  exact ⟨⟨q, hq⟩, hl⟩
theorem pre_le {α : Type} (w : Bool) (s t : Nat) (sd : α) : (pre w s t sd).length ≤ 1 := by
  rw [pre_len]
  split <;> omega
theorem proofP_len_le (n s b : Nat) (w : Bool) (h0 : 0 < s) (h1 : s ≤ n) (hn : n < 18446744073709551616) : (proofP (b + s) b n w).length ≤ 200 := by
  by_cases he : s = n
  · rw [proofP_end (by omega)]
    cases w <;> simp
  · have ht := tz_ex s h0 (by omega)
    have h := (cons_parts (fun (x : Nat) _ => x) 0 n s _ b w h0 (by omega) (by omega) ht.1).2.1
    have h2 := pre_le w s (Lib.ctz 64 s) (0 : Nat)
    have h3 := border_le (s - 1) n
    have h4 := inner_le (s - 1) n (by omega) hn
    omega
theorem proofIn_ev : ∀ (n s b : Nat) (w : Bool), 0 < s → s ≤ n → b + n < 18446744073709551616 → Ev (fun k => spec_proofIn.f k ((b + s : Nat) : Int) (b : Int) ((b + n : Nat) : Int) w) ((proofP (b + s) b n w).map mkP) := by
  intro n
  induction n using Nat.strongRecOn with
  | _ n ih =>
    intro s b w h0 h1 hn
    refine Ev.step (fun k => spec_proofIn.f.eq_2 _ _ _ _ _) ?_
    have w1 := sub_u64 (b + n) b (by omega) hn
    rw [Nat.add_sub_cancel_left] at w1
    by_cases he : s = n
    · subst he
      rw [proofP_end rfl]
      have hf : ¬ (false = true) := by decide
      cases w with
      | true => simp only [if_true]; exact Ev.now _
      | false => simp only [if_true, if_neg hf]; exact Ev.now _
    · have hne : ¬ ((b + s : Nat) : Int) = ((b + n : Nat) : Int) := by omega
      have h2 : 2 ≤ n := by omega
      have hlt := sp_lt h2
      have hpos := sp_pos n
      have w2 := add_u64 b (sp n) (by omega)
      simp only [if_neg hne, w1]
      refine Ev.bind (split_ev n h2 (by omega)) ?_
      simp only [w2]
      by_cases hlo : s ≤ sp n
      · have hL := proofP_len_le (sp n) s b w h0 hlo (by omega)
        simp only [if_pos (show ((b + s : Nat) : Int) ≤ ((b + sp n : Nat) : Int) by omega)]
        refine Ev.bind (ih (sp n) hlt s b w h0 hlo (by omega)) ?_
        have e1 : ((proofP (b + s) b (sp n) w).map mkP).length + ([(⟨((b + sp n : Nat) : Int), ((b + n : Nat) : Int)⟩ : S57)]).length < 8796093022208 := by rw [List.length_map, List.length_singleton]; omega
        simp only [Option.bind_some, if_pos e1]
        rw [proofP_lo (by omega) h2 (by omega), List.map_append]
        exact Ev.now _
      · have hL := proofP_len_le (n - sp n) (s - sp n) (b + sp n) false (by omega) (by omega) (by omega)
        simp only [if_neg (show ¬ ((b + s : Nat) : Int) ≤ ((b + sp n : Nat) : Int) by omega)]
        have := ih (n - sp n) (by omega) (s - sp n) (b + sp n) false (by omega) (by omega) (by omega)
        rw [show b + sp n + (s - sp n) = b + s by omega] at this hL
        rw [show b + sp n + (n - sp n) = b + n by omega] at this
        refine Ev.bind this ?_
        have e1 : ((proofP (b + s) (b + sp n) (n - sp n) false).map mkP).length + ([(⟨(b : Int), ((b + sp n : Nat) : Int)⟩ : S57)]).length < 8796093022208 := by rw [List.length_map, List.length_singleton]; omega
        simp only [Option.bind_some, if_pos e1]
        rw [proofP_hi (by omega) h2 (by omega), List.map_append]
        exact Ev.now _
theorem proofParts_ev (s n : Nat) (h0 : 0 < s) (h1 : s ≤ n) (hn : n < 18446744073709551616) : Ev (fun k => spec_ProofParts.f k (s : Int) (n : Int)) ((proofP s 0 n true).map mkP) := by
  unfold spec_ProofParts.f
  have := proofIn_ev n s 0 true h0 h1 (by omega)
  simp only [Nat.zero_add] at this
  exact Ev.bind this (Ev.now _)
end Go.Proofs.YtkmdkmlgahfcpaaDoor.Log
/- Roots of a log and of its parts, in plain words. -/
namespace Go.Proofs.YtkmdkmlgahfcpaaDoor.M
open Go Go.RowKit Go.Proofs.YtkmdkmlgahfcpaaDoor.Log Go.Proofs.YtkmdkmlgahfcpaaDoor.Nodes Go.Proofs.YtkmdkmlgahfcpaaDoorW.PrintMore Go.Proofs.YtkmdkmlgahfcpaaDoorW.PrintWords Go.Proofs.YtkmdkmlgahfcpaaDoorW.PrintLast
set_option linter.unusedVariables false
set_option linter.unusedSimpArgs false
variable {k0 k1 k2 k3 k4 k5 : Int}
def Lf (l : List (List Int)) : Nat → List Int := fun i => l.getD i []
theorem Lf_len (l : List (List Int)) (c : Nat) (h : ∀ r ∈ l, r.length ≤ c) (i : Nat) : (Lf l i).length ≤ c := by
  unfold Lf
  rw [List.getD_eq_getElem?_getD]
  cases e : l[i]? with
  | none => simp
  | some r => exact h r (List.mem_of_getElem? e)
theorem mth_len (L : Nat → List Int) (c : Nat) (h : ∀ i, (L i).length ≤ c) : ∀ m b, 0 < m → (mth (hc k0 k2 k5) L b m).length + 9 ≤ m * (c + 9) := by
  intro m
  induction m using Nat.strongRecOn with
  | _ m ih =>
    intro b h0
    by_cases h2 : 2 ≤ m
    · have h3 := sp_lt h2
      have h4 := sp_pos m
      rw [mth_two _ L b m h2]
      have h5 := hc_len k0 k2 k5 (mth (hc k0 k2 k5) L b (sp m)) (mth (hc k0 k2 k5) L (b + sp m) (m - sp m))
      have h6 := ih (sp m) h3 b h4
      have h7 := ih (m - sp m) (by omega) (b + sp m) (by omega)
      have h8 : m * (c + 9) = sp m * (c + 9) + (m - sp m) * (c + 9) := by rw [← Nat.add_mul]; congr 1; omega
      omega
    · rw [mth_one _ L b m (by omega), show m = 1 by omega]
      have := h b
      omega
theorem mth_cong {α : Type} (hc : α → α → α) (L L' : Nat → α) : ∀ n b b', 0 < n → (∀ i, i < n → L (b + i) = L' (b' + i)) → mth hc L b n = mth hc L' b' n := by
  intro n
  induction n using Nat.strongRecOn with
  | _ n ih =>
    intro b b' h0 h
    by_cases h2 : 2 ≤ n
    · have h3 := sp_lt h2
      have h4 := sp_pos n
      rw [mth_two hc L b n h2, mth_two hc L' b' n h2, ih (sp n) h3 b b' h4 (fun i hi => h i (by omega)), ih (n - sp n) (by omega) (b + sp n) (b' + sp n) (by omega) (fun i hi => by rw [Nat.add_assoc, Nat.add_assoc]; exact h _ (by omega))]
    · rw [mth_one hc L b n (by omega), mth_one hc L' b' n (by omega)]
      exact h 0 h0
theorem mth_cut {α : Type} (hc : List Int → List Int → List Int) (l : List (List Int)) (a b : Nat) (h1 : a < b) (h2 : b ≤ l.length) : mth hc (Lf ((l.take b).drop a)) 0 (b - a) = mth hc (Lf l) a (b - a) := by
  refine mth_cong hc _ _ _ _ _ (by omega) (fun t ht => ?_)
  unfold Lf
  rw [List.getD_eq_getElem?_getD, List.getD_eq_getElem?_getD, List.getElem?_drop, List.getElem?_take, if_pos (by omega), Nat.zero_add]
theorem root_ev (c : Nat) : ∀ (n : Nat) (l : List (List Int)), l.length = n → 0 < n → (∀ r ∈ l, r.length ≤ c) → n * (c + 9) ≤ 34359738368 →
    Ev (fun k => spec_Root.f k k0 k1 k2 k3 k4 k5 l) (mth (hc k0 k2 k5) (Lf l) 0 n) := by
  intro n
  induction n using Nat.strongRecOn with
  | _ n ih =>
    intro l hl h0 hc' hb
    have hn : n ≤ 34359738368 := Nat.le_trans (Nat.le_mul_of_pos_right _ (by omega)) hb
    refine Ev.step (fun k => spec_Root.f.eq_2 _ _ _ _ _ _ _ _) ?_
    simp only [hl, if_neg (show ¬ (n : Int) = 0 by omega)]
    by_cases h1 : n = 1
    · subst h1
      simp only [if_pos (show ((1 : Nat) : Int) = 1 from rfl), if_pos (show (0 : Int) < ((1 : Nat) : Int) by decide)]
      rw [mth_one _ _ _ _ (Nat.le_refl _)]
      exact Ev.now _
    · have h2 : 2 ≤ n := by omega
      have h3 := sp_lt h2
      have h4 := sp_pos n
      have t1 : (l.take (sp n)).length = sp n := by rw [List.length_take]; omega
      have t2 : (l.drop (sp n)).length = n - sp n := by rw [List.length_drop]; omega
      have m1 : sp n * (c + 9) ≤ n * (c + 9) := Nat.mul_le_mul_right _ (by omega)
      have m2 : (n - sp n) * (c + 9) ≤ n * (c + 9) := Nat.mul_le_mul_right _ (by omega)
      have E1 := ih (sp n) h3 (l.take (sp n)) t1 h4 (fun r hr => hc' r (List.mem_of_mem_take hr)) (by omega)
      have E2 := ih (n - sp n) (by omega) (l.drop (sp n)) t2 (by omega) (fun r hr => hc' r (List.mem_of_mem_drop hr)) (by omega)
      have c1 : mth (hc k0 k2 k5) (Lf (l.take (sp n))) 0 (sp n) = mth (hc k0 k2 k5) (Lf l) 0 (sp n) := mth_cong _ _ _ _ _ _ h4 (fun i hi => by
        unfold Lf
        rw [List.getD_eq_getElem?_getD, List.getD_eq_getElem?_getD, List.getElem?_take, if_pos (by omega)])
      have c2 : mth (hc k0 k2 k5) (Lf (l.drop (sp n))) 0 (n - sp n) = mth (hc k0 k2 k5) (Lf l) (0 + sp n) (n - sp n) := mth_cong _ _ _ _ _ _ (by omega) (fun i hi => by
        unfold Lf
        rw [List.getD_eq_getElem?_getD, List.getD_eq_getElem?_getD, List.getElem?_drop, Nat.zero_add, Nat.zero_add])
      rw [c1] at E1
      rw [c2] at E2
      have l1 := mth_len (k0 := k0) (k2 := k2) (k5 := k5) (Lf l) c (Lf_len l c hc') (sp n) 0 h4
      have l2 := mth_len (k0 := k0) (k2 := k2) (k5 := k5) (Lf l) c (Lf_len l c hc') (n - sp n) (0 + sp n) (by omega)
      rw [mth_two _ _ _ _ h2]
      generalize mth (hc k0 k2 k5) (Lf l) 0 (sp n) = A at *
      generalize mth (hc k0 k2 k5) (Lf l) (0 + sp n) (n - sp n) = B at *
      simp only [if_neg (show ¬ (n : Int) = 1 by omega), Log.u64_nat n (by omega)]
      refine Ev.bind (split_ev n h2 (by omega)) ?_
      simp only [if_pos (show (0 : Int) ≤ (sp n : Int) by omega), if_pos (show (sp n : Int) ≤ (n : Int) by omega), toNat_cast]
      refine Ev.bind E1 (Ev.bind E2 ?_)
      exact Ev.bind (shash_ev k0 k1 k2 k3 k4 k5 A B (by omega)) (Ev.now _)
theorem rootOf_ev (c : Nat) (l : List (List Int)) (a b : Nat) (h1 : a < b) (h2 : b ≤ l.length) (hc' : ∀ r ∈ l, r.length ≤ c) (hb : l.length * (c + 9) ≤ 34359738368) :
    Ev (fun k => spec_RootOf.f k k0 k1 k2 k3 k4 k5 l (a : Int) (b : Int)) (mth (hc k0 k2 k5) (Lf l) a (b - a)) := by
  unfold spec_RootOf.f
  have t : ((l.take b).drop a).length = b - a := by rw [List.length_drop, List.length_take]; omega
  have m : (b - a) * (c + 9) ≤ l.length * (c + 9) := Nat.mul_le_mul_right _ (by omega)
  have E := root_ev (k0 := k0) (k1 := k1) (k2 := k2) (k3 := k3) (k4 := k4) (k5 := k5) c (b - a) ((l.take b).drop a) t (by omega) (fun r hr => hc' r (List.mem_of_mem_take (List.mem_of_mem_drop hr))) (by omega)
  rw [mth_cut (α := Int) _ _ _ _ h1 h2] at E
  simp only [if_pos (show (0 : Int) ≤ (a : Int) by omega), if_pos (show (a : Int) ≤ (b : Int) by omega), if_pos (show (b : Int) ≤ (l.length : Int) by omega), toNat_cast]
  exact Ev.bind E (Ev.now _)
theorem pathP_in (i : Nat) : ∀ n b, ∀ p ∈ pathP i b n, b ≤ p.1 ∧ p.1 < p.2 ∧ p.2 ≤ b + n := by
  intro n
  induction n using Nat.strongRecOn with
  | _ n ih =>
    intro b p hp
    by_cases h2 : 2 ≤ n
    · have h3 := sp_lt h2
      have h4 := sp_pos n
      by_cases hi : i < b + sp n
      · rw [pathP_lo h2 hi, List.mem_append, List.mem_singleton] at hp
        rcases hp with hp | rfl
        · have := ih (sp n) h3 b p hp; omega
        · dsimp only; omega
      · rw [pathP_hi h2 hi, List.mem_append, List.mem_singleton] at hp
        rcases hp with hp | rfl
        · have := ih (n - sp n) (by omega) (b + sp n) p hp; omega
        · dsimp only; omega
    · rw [pathP_one _ _ _ (by omega)] at hp
      cases hp
end Go.Proofs.YtkmdkmlgahfcpaaDoor.M
/- What the printed functions of ranges compute: the masks, and the nodes of a range as the greedy perfect trees. -/
namespace Go.Proofs.YtkmdkmlgahfcpaaDoor.Ranges
open Go.RowKit Go.Proofs.YtkmdkmlgahfcpaaDoor.M Go.Proofs.YtkmdkmlgahfcpaaDoorW.PrintWords Go.Proofs.YtkmdkmlgahfcpaaDoorW.PrintLast Go.Proofs.YtkmdkmlgahfcpaaDoorW.PrintMore Go.Proofs.YtkmdkmlgahfcpaaDoor.Nodes
set_option linter.unusedVariables false

def cn (n : Nat × Nat) : S106 := ⟨n.1, n.2⟩

theorem len64 (x : Nat) (h : x < 2 ^ 64) : bits_Len64.f (x : Int) = some (Lib.bitLen x : Int) := by
  unfold bits_Len64.f
  rw [if_pos ⟨by omega, by omega⟩, Int.toNat_natCast]
theorem tz64 (x : Nat) (h : x < 2 ^ 64) : bits_TrailingZeros64.f (x : Int) = some (Lib.ctz 64 x : Int) := by
  unfold bits_TrailingZeros64.f
  rw [if_pos ⟨by omega, by omega⟩, Int.toNat_natCast]
theorem xor64 (a b : Nat) (ha : a < 2 ^ 64) (hb : b < 2 ^ 64) : Go.bits .xor .u64 (a : Int) (b : Int) = ((a ^^^ b : Nat) : Int) := bits_xor_u64_nat a b (by omega) (by omega)
theorem and64 (a b : Nat) (ha : a < 2 ^ 64) (hb : b < 2 ^ 64) : Go.bits .and .u64 (a : Int) (b : Int) = ((a &&& b : Nat) : Int) := bits_and_u64_nat a b (by omega) (by omega)

/-- The masks of a range are the lengths of its two parts, which meet at a multiple of a power of two greater than both. -/
theorem decompose (b e : Nat) (hbe : b ≤ e) (he : e < 2 ^ 64) :
    ∃ mid d, d ≤ 64 ∧ 2 ^ d ∣ mid ∧ b ≤ mid ∧ mid ≤ e ∧ mid - b < 2 ^ d ∧ e - mid < 2 ^ d ∧ compact_Decompose.f (b : Int) (e : Int) = some (((mid - b : Nat) : Int), ((e - mid : Nat) : Int)) := by
  by_cases h0 : b = 0
  · subst h0
    refine ⟨0, 64, by omega, Nat.dvd_zero _, by omega, by omega, by omega, by omega, ?_⟩
    unfold compact_Decompose.f
    rw [if_pos (by omega)]
    simp
  · obtain ⟨d, h1, h2, h3, h4, h5⟩ := decomp b e (by omega) hbe he
    have hp := pow_pos d
    have ee := Nat.div_add_mod e (2 ^ d)
    have lm := Nat.mod_lt e hp
    rw [Nat.mul_comm] at ee
    have hpd : 2 ^ d < 2 ^ 64 := pow_lt h2
    refine ⟨e / 2 ^ d * 2 ^ d, d, by omega, ⟨_, Nat.mul_comm _ _⟩, h3, by omega, h4, by omega, ?_⟩
    have hb1 : ((b : Int) - 1) = ((b - 1 : Nat) : Int) := by omega
    unfold compact_Decompose.f
    rw [if_neg (by omega), hb1, u64_nat _ (by omega), xor64 _ _ (by omega) he, len64 _ (Nat.xor_lt_two_pow (by omega) he), h1]
    simp only [Option.bind_some]
    have e1 : wrap64 (((d + 1 : Nat) : Int) - 1) = (d : Int) := by unfold wrap64; omega
    rw [e1, u64_nat d (by omega), if_pos (by omega), shl_one d h2]
    have e2 : (((2 ^ d : Nat) : Int) - 1) = ((2 ^ d - 1 : Nat) : Int) := by omega
    rw [e2, u64_nat _ (by omega), show (18446744073709551615 : Int) = ((2 ^ 64 - 1 : Nat) : Int) by omega, xor64 _ _ (by omega) (by omega), xor_ones _ (by omega), and64 _ _ (by omega) (by omega), and64 _ _ he (by omega),
      Nat.and_two_pow_sub_one_eq_mod, Nat.and_two_pow_sub_one_eq_mod, h5]
    congr 2
    omega

/-- The right part. -/
theorem rn_dn : ∀ (m p c : Nat) (acc : List S106), 2 ^ c ∣ p → m < 2 ^ c → p + m < 2 ^ 64 → acc.length + c < 8796093022208 →
    ∃ L, G p (p + m) L ∧ L.length = Lib.onesCount m ∧ Ev (fun k => compact_RangeNodes.l1 k acc (m : Int) (p : Int)) (acc ++ L.map cn) := by
  intro m
  induction m using Nat.strongRecOn with
  | _ m ih =>
    intro p c acc hc hm hpm hl
    by_cases h0 : m = 0
    · subst h0
      refine ⟨[], G.nil _, rfl, Ev.step (fun k => compact_RangeNodes.l1.eq_2 _ _ _ _) ?_⟩
      simp only [Int.natCast_zero, if_true, List.map_nil, List.append_nil]
      exact Ev.now _
    · obtain ⟨l, e1, hlc, hl64, hd, hle, hmax, hd2, hr, hx⟩ := dn_step p m c hc h0 hm (by omega)
      have hp := pow_pos l
      have hlm : 2 ^ l ≤ m := by omega
      have hpl : 2 ^ l < 2 ^ 64 := pow_lt hl64
      obtain ⟨L, hG, hLn, hE⟩ := ih (m - 2 ^ l) (by omega) (p + 2 ^ l) l (acc ++ [cn (l, p / 2 ^ l)]) hd2 hr (by omega) (by simp; omega)
      rw [show p + 2 ^ l + (m - 2 ^ l) = p + m by omega] at hG
      have hq : m / 2 ^ l % 2 = 1 := by
        have : m / 2 ^ l = 1 := by apply Nat.div_eq_of_lt_le <;> omega
        rw [this]
      refine ⟨(l, p / 2 ^ l) :: L, G.cons p _ l L hd hle hmax hG, by rw [List.length_cons, hLn, count_bit m l hl64 hq], Ev.step (fun k => compact_RangeNodes.l1.eq_2 _ _ _ _) ?_⟩
      have w1 : IntKind.u64.wrap (((l + 1 : Nat) : Int)) = ((l + 1 : Nat) : Int) := u64_nat _ (by omega)
      have w2 : IntKind.u64.wrap (((l + 1 : Nat) : Int) - 1) = (l : Int) := by rw [show (((l + 1 : Nat) : Int) - 1) = (l : Int) by omega]; exact u64_nat _ (by omega)
      have w3 : Go.bits .xor .u64 (m : Int) ((2 ^ l : Nat) : Int) = ((m - 2 ^ l : Nat) : Int) := by rw [xor64 _ _ (by omega) hpl, hx]
      have w4 : IntKind.u64.wrap ((p : Int) + ((2 ^ l : Nat) : Int)) = ((p + 2 ^ l : Nat) : Int) := by rw [← Int.natCast_add]; exact u64_nat _ (by omega)
      simp only [if_neg (show ¬ ((m : Int) = 0) by omega), len64 m (by omega), e1, Option.bind_some, w1, w2, if_pos (show (0 : Int) ≤ (l : Int) by omega), compact_NewNodeID.f, shr_u64 p l (by omega), shl_one l hl64, w3, w4,
        if_pos (show acc.length < 8796093022208 by omega)]
      simpa [cn] using hE

/-- The left part, and behind it the right one. -/
theorem rn_up : ∀ (m p d c mid e : Nat) (acc : List S106), p + m = mid → 2 ^ d ∣ mid → m < 2 ^ d → d ≤ 64 → 2 ^ c ∣ m → c ≤ d → mid ≤ e → e - mid < 2 ^ d → e < 2 ^ 64 → acc.length + (d - c) + d < 8796093022208 →
    ∃ L, G p e L ∧ L.length = Lib.onesCount m + Lib.onesCount (e - mid) ∧ Ev (fun k => compact_RangeNodes.l0 k acc (m : Int) ((e - mid : Nat) : Int) (p : Int)) (acc ++ L.map cn) := by
  intro m
  induction m using Nat.strongRecOn with
  | _ m ih =>
    intro p d c mid e acc hmid hd hm hd64 hcm hcd hme hem he hl
    by_cases h0 : m = 0
    · subst h0
      obtain ⟨L, hG, hLn, hE⟩ := rn_dn (e - mid) p d acc (by rw [show p = mid by omega]; exact hd) hem (by omega) (by omega)
      rw [show p + (e - mid) = e by omega] at hG
      refine ⟨L, hG, by rw [hLn, count_zero]; omega, Ev.step (fun k => compact_RangeNodes.l0.eq_2 _ _ _ _ _) ?_⟩
      simp only [Int.natCast_zero, if_true]
      exact hE
    · obtain ⟨l, q, e1, hq, hld, hl64, hdp, hle, hmax, _, hlm, hd2, hx⟩ := up_step p m d e (by rw [hmid]; exact hd) h0 hm (Nat.lt_of_lt_of_le hm (pow_mono hd64)) (by omega)
      have hp := pow_pos l
      have hpl : 2 ^ l < 2 ^ 64 := pow_lt hl64
      have hm64 : m < 2 ^ 64 := Nat.lt_of_lt_of_le hm (pow_mono hd64)
      have hcl : c ≤ l := by
        apply Nat.le_of_not_lt
        intro hlt
        obtain ⟨a, ha⟩ := pow_dvd (show l + 1 ≤ c by omega) hcm
        rw [Nat.pow_succ, Nat.mul_assoc] at ha
        have := Nat.eq_of_mul_eq_mul_left hp (hq.symm.trans ha)
        omega
      obtain ⟨L, hG, hLn, hE⟩ := ih (m - 2 ^ l) (by omega) (p + 2 ^ l) d (l + 1) mid e (acc ++ [cn (l, p / 2 ^ l)]) (by omega) hd (by omega) hd64 hd2 (by omega) hme hem he (by simp; omega)
      have hqb : m / 2 ^ l % 2 = 1 := by
        rw [hq, Nat.mul_div_cancel_left _ hp]; omega
      refine ⟨(l, p / 2 ^ l) :: L, G.cons p _ l L hdp hle hmax hG, by rw [List.length_cons, hLn, count_bit m l hl64 hqb]; omega, Ev.step (fun k => compact_RangeNodes.l0.eq_2 _ _ _ _ _) ?_⟩
      have w1 : IntKind.u64.wrap (l : Int) = (l : Int) := u64_nat _ (by omega)
      have w3 : Go.bits .xor .u64 (m : Int) ((2 ^ l : Nat) : Int) = ((m - 2 ^ l : Nat) : Int) := by rw [xor64 _ _ hm64 hpl, hx]
      have w4 : IntKind.u64.wrap ((p : Int) + ((2 ^ l : Nat) : Int)) = ((p + 2 ^ l : Nat) : Int) := by rw [← Int.natCast_add]; exact u64_nat _ (by omega)
      simp only [if_neg (show ¬ ((m : Int) = 0) by omega), tz64 m hm64, e1, Option.bind_some, w1, if_pos (show (0 : Int) ≤ (l : Int) by omega), compact_NewNodeID.f, shr_u64 p l (by omega), shl_one l hl64, w3, w4,
        if_pos (show acc.length < 8796093022208 by omega)]
      simpa [cn] using hE

end Go.Proofs.YtkmdkmlgahfcpaaDoor.Ranges
/- What proof.nodes computes: the node, what is beside its way up to the fork, and the two rests, each turned round. -/
namespace Go.Proofs.YtkmdkmlgahfcpaaDoor.Ranges
open Go Go.RowKit Go.Proofs.YtkmdkmlgahfcpaaDoor.M Go.Proofs.YtkmdkmlgahfcpaaDoorW.PrintWords Go.Proofs.YtkmdkmlgahfcpaaDoorW.PrintLast Go.Proofs.YtkmdkmlgahfcpaaDoorW.PrintMore Go.Proofs.YtkmdkmlgahfcpaaDoor.Nodes
set_option linter.unusedVariables false

theorem compact_nodes2 (b e : Nat) (hbe : b ≤ e) (he : e < 2 ^ 64) (acc : List S106) (hl : acc.length < 8796093022000) :
    ∃ L, G b e L ∧ L.length ≤ 128 ∧ compact_RangeSize.f (b : Int) (e : Int) = some (L.length : Int) ∧ Ev (fun k => compact_RangeNodes.f k (b : Int) (e : Int) acc) (acc ++ L.map cn) := by
  obtain ⟨mid, d, hd, hdm, hb, hm, h1, h2, hf⟩ := decompose b e hbe he
  obtain ⟨L, hG, hLn, hE⟩ := rn_up (mid - b) b d 0 mid e acc (by omega) hdm h1 hd (by simp) (by omega) hm h2 he (by omega)
  have a1 := count_le (mid - b)
  have a2 := count_le (e - mid)
  refine ⟨L, hG, by omega, ?_, ?_⟩
  · unfold compact_RangeSize.f
    have hp : 2 ^ d ≤ 2 ^ 64 := pow_mono hd
    have c1 : bits_OnesCount64.f (((mid - b : Nat) : Int)) = some (Lib.onesCount (mid - b) : Int) := by
      unfold bits_OnesCount64.f
      rw [if_pos ⟨by omega, by omega⟩, Int.toNat_natCast]
    have c2 : bits_OnesCount64.f (((e - mid : Nat) : Int)) = some (Lib.onesCount (e - mid) : Int) := by
      unfold bits_OnesCount64.f
      rw [if_pos ⟨by omega, by omega⟩, Int.toNat_natCast]
    simp only [hf, Option.bind_some, c1, c2]
    have : wrap64 (((Lib.onesCount (mid - b) : Nat) : Int) + ((Lib.onesCount (e - mid) : Nat) : Int)) = (L.length : Int) := by unfold wrap64; omega
    rw [this]
  · unfold compact_RangeNodes.f
    simp only [hf, Option.bind_some]
    exact hE

theorem rev_at {α : Type} (z : α) (A B : List α) (y : α) (i : Int) (hi : i = (A.length : Int)) : (A ++ y :: B).getD i.toNat z = y := by
  subst hi
  rw [Int.toNat_natCast]
  simp [List.getD_eq_getElem?_getD]
theorem set_at {α : Type} (A B : List α) (y z : α) (i : Int) (hi : i = (A.length : Int)) : (A ++ y :: B).set i.toNat z = A ++ z :: B := by
  subst hi
  rw [Int.toNat_natCast]
  simp

theorem reverse_l (n : Nat) : ∀ (mid A B : List S106), mid.length = n → A.length + mid.length + B.length < 4611686018427387904 →
    ∀ (k : Nat), mid.length < k → proof_reverse.l0 k (A ++ mid ++ B) (A.length : Int) (((A.length + mid.length : Nat) : Int) - 1) = some (A ++ mid.reverse ++ B) := by
  induction n using Nat.strongRecOn with
  | _ n ih =>
    intro mid A B hn hl k hk
    cases k with
    | zero => omega
    | succ k =>
      cases mid with
      | nil =>
        rw [proof_reverse.l0, if_neg (by simp; omega)]
        simp
      | cons x rest =>
        rcases List.eq_nil_or_concat rest with h | ⟨r, y, h⟩
        · subst h
          rw [proof_reverse.l0, if_neg (by simp)]
          simp
        · have h' : rest = r ++ [y] := by rw [h]; simp
          subst h'
          have hlen : (x :: (r ++ [y])).length = r.length + 2 := by simp
          rw [hlen] at hn hl hk
          rw [hlen]
          have e1 : A ++ x :: (r ++ [y]) ++ B = A ++ x :: (r ++ y :: B) := by simp
          have e2 : A ++ x :: (r ++ [y]) ++ B = (A ++ x :: r) ++ y :: B := by simp
          have el : (A ++ x :: (r ++ [y]) ++ B).length = A.length + (r.length + 2) + B.length := by simp only [List.length_append, List.length_cons, List.length_nil] <;> omega
          have hj : (((A.length + (r.length + 2) : Nat) : Int) - 1) = ((A ++ x :: r).length : Int) := by simp only [List.length_append, List.length_cons]; omega
          have r3 : rd_T106 (A ++ x :: (r ++ [y]) ++ B) (((A.length + (r.length + 2) : Nat) : Int) - 1) = y := by
            rw [e2]; exact rev_at _ _ _ _ _ hj
          have r2 : rd_T106 (A ++ x :: (r ++ [y]) ++ B) (A.length : Int) = x := by
            rw [e1]; exact rev_at _ _ _ _ _ rfl
          have w1 : wrap64 ((A.length : Int) + 1) = ((A ++ [y]).length : Int) := by rw [List.length_append]; unfold wrap64; simp only [List.length_cons, List.length_nil]; omega
          have w2 : wrap64 ((((A.length + (r.length + 2) : Nat) : Int) - 1) - 1) = ((((A ++ [y]).length + r.length : Nat) : Int) - 1) := by rw [List.length_append]; unfold wrap64; simp only [List.length_cons, List.length_nil]; omega
          rw [proof_reverse.l0, if_pos (by omega), if_pos (by omega), el, if_pos (by omega), if_pos (by omega), if_pos (by omega), r3, r2, w1, w2]
          have s1 : (A ++ x :: (r ++ [y]) ++ B).set (A.length : Int).toNat y = (A ++ y :: r) ++ y :: B := by
            rw [e1, set_at _ _ _ _ _ rfl]; simp
          have hj' : (((A.length + (r.length + 2) : Nat) : Int) - 1) = ((A ++ y :: r).length : Int) := by simp only [List.length_append, List.length_cons]; omega
          have s2 : ((A ++ y :: r) ++ y :: B).set (((A.length + (r.length + 2) : Nat) : Int) - 1).toNat x = (A ++ [y]) ++ r ++ (x :: B) := by
            rw [set_at _ _ _ _ _ hj']; simp
          have := ih r.length (by omega) r (A ++ [y]) (x :: B) rfl (by simp only [List.length_append, List.length_cons, List.length_nil]; omega) k (by omega)
          show proof_reverse.l0 k (((A ++ x :: (r ++ [y]) ++ B).set (A.length : Int).toNat y).set (((A.length + (r.length + 2) : Nat) : Int) - 1).toNat x) _ _ = _
          rw [s1, s2, this]
          simp

theorem reverse_ev (l : List S106) (hl : l.length < 4611686018427387904) : Ev (fun k => proof_reverse.f k l) l.reverse := by
  refine ⟨l.length + 1, fun k hk => ?_⟩
  unfold proof_reverse.f
  have w : wrap64 ((l.length : Int) - 1) = (((([] : List S106).length + l.length : Nat) : Int) - 1) := by unfold wrap64; simp; omega
  rw [w]
  have := reverse_l l.length l [] [] rfl (by simp; omega) k (by omega)
  simpa using this

theorem sibs_ev : ∀ (m l x fl : Nat) (acc : List S106), fl = l + m → fl < 100 → x < 2 ^ 64 → acc.length + m < 1000000 →
    Ev (fun k => sibs k (l : Int) (x : Int) (fl : Int) acc) (acc ++ (sf l x m).map cn)
  | 0, l, x, fl, acc => fun hf h1 h2 h3 => by
    refine Ev.step (fun k => by rw [sibs]) ?_
    simp only [sf, List.map_nil, List.append_nil]
    simp only [if_neg (show ¬ ((l : Int) < (fl : Int)) by omega)]
    exact Ev.now _
  | m + 1, l, x, fl, acc => fun hf h1 h2 h3 => by
    refine Ev.step (fun k => by rw [sibs]) ?_
    have hx := Nat.xor_lt_two_pow h2 (show 1 < 2 ^ 64 by decide)
    have e1 : Go.bits .xor .u64 (x : Int) 1 = ((x ^^^ 1 : Nat) : Int) := by rw [show (1 : Int) = ((1 : Nat) : Int) from rfl]; exact xor64 x 1 h2 (by decide)
    have e2 : IntKind.u64.wrap ((l : Int) + 1) = ((l + 1 : Nat) : Int) := u64_nat (l + 1) (by omega)
    have e3 : (x : Int) / 2 = ((x / 2 : Nat) : Int) := by omega
    simp only [if_pos (show (l : Int) < (fl : Int) by omega), if_pos (show acc.length < 1099511627776 by omega), compact_NodeID_Sibling.f, compact_NodeID_Parent.f, compact_NewNodeID.f, Option.bind_some, e1, e2, e3]
    have := sibs_ev m (l + 1) (x / 2) fl (acc ++ [cn (l, x ^^^ 1)]) (by omega) h1 (by omega) (by simp; omega)
    simpa [sf, cn] using this

theorem drop_app {α : Type} (a b : List α) (n : Int) (h : n = (b.length : Int)) : (a ++ b).drop (((a ++ b).length : Int) - n).toNat = b := by
  subst h
  rw [List.length_append, show ((((a.length + b.length : Nat) : Int) - (b.length : Int)).toNat) = a.length by omega]
  simp
theorem take_app {α : Type} (a b : List α) (n : Int) (h : n = (b.length : Int)) : (a ++ b).take (((a ++ b).length : Int) - n).toNat = a := by
  subst h
  rw [List.length_append, show ((((a.length + b.length : Nat) : Int) - (b.length : Int)).toNat) = a.length by omega]
  simp

/-- The whole list of a node's path. -/
def pathIDs (x t d : Nat) (Nl Nr : List (Nat × Nat)) : List (Nat × Nat) := (t, x) :: (sf t x d ++ Nr.reverse ++ Nl.reverse)

theorem nodes_ev (x t n : Nat) (ht : t < 64) (hn : n < 2 ^ 64) (hx : x < n / 2 ^ t) :
    ∃ (d : Nat) (Nl Nr : List (Nat × Nat)), Lib.bitLen (x ^^^ (n / 2 ^ t)) = d + 1 ∧ t + d < 64 ∧ n / 2 ^ t / 2 ^ d = x / 2 ^ d + 1 ∧ x / 2 ^ d % 2 = 0 ∧ G 0 (x / 2 ^ d * 2 ^ (t + d)) Nl ∧ G ((x / 2 ^ d + 1) * 2 ^ (t + d)) n Nr ∧ (x / 2 ^ d + 1) * 2 ^ (t + d) ≤ n ∧ Nl.length ≤ 128 ∧ Nr.length ≤ 128 ∧
    Ev (fun k => proof_nodes.f k (x : Int) (t : Int) (n : Int)) ((pathIDs x t d Nl Nr).map cn, (if Nr = [] then 0 else ((d + 1 : Nat) : Int)), (if Nr = [] then 0 else ((d + 1 + Nr.length : Nat) : Int)), ((t + d : Nat) : Int), ((x / 2 ^ d + 1 : Nat) : Int)) := by
  have hpt := pow_pos t
  have hX : n / 2 ^ t < 2 ^ 64 := Nat.lt_of_le_of_lt (Nat.div_le_self _ _) hn
  obtain ⟨d, hb, hd, hq, hev⟩ := fork x (n / 2 ^ t) hx hX
  have hpd := pow_pos d
  have hle : (x / 2 ^ d + 1) * 2 ^ (t + d) ≤ n := by
    rw [← hq, Nat.div_div_eq_div_mul, ← Nat.pow_add]
    exact Nat.div_mul_le_self _ _
  have hF : x / 2 ^ d * 2 ^ (t + d) ≤ (x / 2 ^ d + 1) * 2 ^ (t + d) := Nat.mul_le_mul_right _ (by omega)
  have htd : t + d < 64 := by
    apply Nat.lt_of_not_le
    intro h
    have h1 : 2 ^ 64 ≤ 2 ^ (t + d) := pow_mono h
    have h2 : 1 * 2 ^ (t + d) ≤ (x / 2 ^ d + 1) * 2 ^ (t + d) := Nat.mul_le_mul_right _ (Nat.le_add_left 1 _)
    omega
  have hx64 : x < 2 ^ 64 := by omega
  obtain ⟨Nl, hGl, hNl, hsl, _⟩ := compact_nodes2 0 (x / 2 ^ d * 2 ^ (t + d)) (by omega) (by omega) [] (by simp)
  obtain ⟨Nr, hGr, hNr, hsr, _⟩ := compact_nodes2 ((x / 2 ^ d + 1) * 2 ^ (t + d)) n hle hn [] (by simp)
  refine ⟨d, Nl, Nr, hb, htd, hq, hev, hGl, hGr, hle, hNl, hNr, ?_⟩
  have hsfl := sf_len d t x
  obtain ⟨Nr', hGr', _, _, hEr⟩ := compact_nodes2 ((x / 2 ^ d + 1) * 2 ^ (t + d)) n hle hn ([cn (t, x)] ++ (sf t x d).map cn) (by simp; omega)
  obtain rfl := hGr'.det hGr
  obtain ⟨Nl', hGl', _, _, hEl⟩ := compact_nodes2 0 (x / 2 ^ d * 2 ^ (t + d)) (by omega) (by omega) ([cn (t, x)] ++ (sf t x d).map cn ++ (Nr'.map cn).reverse) (by simp; omega)
  obtain rfl := hGl'.det hGl
  have hsib := sibs_ev d t x (t + d) [cn (t, x)] rfl (by omega) hx64 (by simp; omega)
  have hrr := reverse_ev (Nr'.map cn) (by simp; omega)
  have hrl := reverse_ev (Nl'.map cn) (by simp; omega)
  have s1 : shr .u64 (n : Int) (t : Int) = ((n / 2 ^ t : Nat) : Int) := shr_u64 n t (by omega)
  have s2 : Go.bits .xor .u64 (x : Int) ((n / 2 ^ t : Nat) : Int) = ((x ^^^ (n / 2 ^ t) : Nat) : Int) := xor64 _ _ hx64 hX
  have s3 := len64 (x ^^^ (n / 2 ^ t)) (Nat.xor_lt_two_pow hx64 hX)
  rw [hb] at s3
  have s4 : (((d + 1 : Nat) : Int) - 1) = (d : Int) := by omega
  have s5 : shr .u64 (x : Int) (d : Int) = ((x / 2 ^ d : Nat) : Int) := shr_u64 x d (by omega)
  have s6 : ((t : Int) + (d : Int)) = ((t + d : Nat) : Int) := by omega
  have hFu : x / 2 ^ d + 1 < 2 ^ 64 := by
    have : (x / 2 ^ d + 1) * 1 ≤ (x / 2 ^ d + 1) * 2 ^ (t + d) := Nat.mul_le_mul_left _ (pow_pos _)
    omega
  have s7 : compact_NodeID_Coverage.f ((t + d : Nat) : Int) ((x / 2 ^ d : Nat) : Int) = some (((x / 2 ^ d * 2 ^ (t + d) : Nat) : Int), (((x / 2 ^ d + 1) * 2 ^ (t + d) : Nat) : Int)) := by
    unfold compact_NodeID_Coverage.f
    have e1 : IntKind.u64.wrap (((x / 2 ^ d : Nat) : Int) + 1) = ((x / 2 ^ d + 1 : Nat) : Int) := u64_nat _ (by omega)
    rw [if_pos (by omega), e1, shl_u64 _ _ (by omega) (by omega), shl_u64 _ _ (by omega) (by omega)]
  have s8 : compact_NodeID_Sibling.f ((t + d : Nat) : Int) ((x / 2 ^ d : Nat) : Int) = some (((t + d : Nat) : Int), ((x / 2 ^ d + 1 : Nat) : Int)) := by
    unfold compact_NodeID_Sibling.f compact_NewNodeID.f
    have e1 : Go.bits .xor .u64 ((x / 2 ^ d : Nat) : Int) 1 = ((x / 2 ^ d ^^^ 1 : Nat) : Int) := by rw [show (1 : Int) = ((1 : Nat) : Int) from rfl]; exact xor64 _ 1 (by omega) (by decide)
    rw [e1, even_xor_one _ hev]
    rfl
  rw [Int.natCast_zero] at hsl hEl
  have hcn : (⟨(t : Int), (x : Int)⟩ : S106) = cn (t, x) := rfl
  unfold proof_nodes.f
  simp only [s1, s2, s3, s4, s5, s6, s7, s8, hsl, hsr, hcn, Option.bind_some, if_pos (show (0 : Int) ≤ (t : Int) ∧ (t : Int) ≤ 63 by omega), if_pos (show 1 ≤ ((d + 1 : Nat) : Int) ∧ ((d + 1 : Nat) : Int) ≤ 64 by omega),
    if_pos (show 0 ≤ (Nl'.length : Int) ∧ (Nl'.length : Int) ≤ 200 ∧ 0 ≤ (Nr'.length : Int) ∧ (Nr'.length : Int) ≤ 200 by omega)]
  refine Ev.bind hsib ?_
  refine Ev.bind hEr ?_
  have hcut : ∀ A : List S106, (A ++ Nr'.map cn).drop (((A ++ Nr'.map cn).length : Int) - (Nr'.length : Int)).toNat = Nr'.map cn := fun A => drop_app _ _ _ (by simp)
  have htak : ∀ A : List S106, (A ++ Nr'.map cn).take (((A ++ Nr'.map cn).length : Int) - (Nr'.length : Int)).toNat = A := fun A => take_app _ _ _ (by simp)
  have hcutl : ∀ A : List S106, (A ++ Nl'.map cn).drop (((A ++ Nl'.map cn).length : Int) - (Nl'.length : Int)).toNat = Nl'.map cn := fun A => drop_app _ _ _ (by simp)
  have htakl : ∀ A : List S106, (A ++ Nl'.map cn).take (((A ++ Nl'.map cn).length : Int) - (Nl'.length : Int)).toNat = A := fun A => take_app _ _ _ (by simp)
  have lA : ([cn (t, x)] ++ (sf t x d).map cn).length = d + 1 := by simp; omega
  generalize hA : [cn (t, x)] ++ (sf t x d).map cn = A at *
  simp only [if_pos (show (Nr'.length : Int) ≤ ((A ++ Nr'.map cn).length : Int) ∧ (A ++ Nr'.map cn).length ≤ 1099511627776 from ⟨by simp only [List.length_append, List.length_map]; omega, by simp only [List.length_append, List.length_map]; omega⟩), hcut, htak]
  refine Ev.bind hrr ?_
  simp only [if_pos (show (A ++ (Nr'.map cn).reverse).length = (A ++ Nr'.map cn).length by simp)]
  refine Ev.bind hEl ?_
  simp only [if_pos (show (Nl'.length : Int) ≤ ((A ++ (Nr'.map cn).reverse ++ Nl'.map cn).length : Int) ∧ (A ++ (Nr'.map cn).reverse ++ Nl'.map cn).length ≤ 1099511627776 from ⟨by simp only [List.length_append, List.length_map, List.length_reverse]; omega, by simp only [List.length_append, List.length_map, List.length_reverse]; omega⟩), hcutl, htakl]
  refine Ev.bind hrl ?_
  simp only [if_pos (show (A ++ (Nr'.map cn).reverse ++ (Nl'.map cn).reverse).length = (A ++ (Nr'.map cn).reverse ++ Nl'.map cn).length by simp)]
  have q1 : A ++ (Nr'.map cn).reverse ++ (Nl'.map cn).reverse = (pathIDs x t d Nl' Nr').map cn := by
    rw [← hA]; simp [pathIDs]
  have q2 : (if (A ++ Nr'.map cn).length ≤ A.length then (0 : Int) else (A.length : Int)) = (if Nr' = [] then 0 else ((d + 1 : Nat) : Int)) := by
    rw [List.length_append, List.length_map, lA]
    cases Nr' with
    | nil => simp
    | cons a b => rw [if_neg (by simp), if_neg (by simp)]
  have q3 : (if (A ++ Nr'.map cn).length ≤ A.length then (0 : Int) else ((A ++ Nr'.map cn).length : Int)) = (if Nr' = [] then 0 else ((d + 1 + Nr'.length : Nat) : Int)) := by
    rw [List.length_append, List.length_map, lA]
    cases Nr' with
    | nil => simp
    | cons a b => rw [if_neg (by simp), if_neg (by simp)]
  rw [q1, q2, q3]
  exact Ev.now _
end Go.Proofs.YtkmdkmlgahfcpaaDoor.Ranges
/- The thin package's calls over nodes: toNode, fromNodes, RangeNodes behind a list. -/
namespace Go.Proofs.YtkmdkmlgahfcpaaDoor.Ranges
open Go Go.RowKit Go.Proofs.YtkmdkmlgahfcpaaDoor.M Go.Proofs.YtkmdkmlgahfcpaaDoorW.PrintWords Go.Proofs.YtkmdkmlgahfcpaaDoorW.PrintLast Go.Proofs.YtkmdkmlgahfcpaaDoorW.PrintMore Go.Proofs.YtkmdkmlgahfcpaaDoor.Nodes
set_option linter.unusedVariables false
set_option linter.unusedSimpArgs false

def im (n : Nat × Nat) : S54 := ⟨n.1, n.2⟩
theorem wrap_nat (n : Nat) (h : n < 9223372036854775807) : wrap64 ((n : Int) + 1) = ((n + 1 : Nat) : Int) := by unfold wrap64; omega
theorem rd_mid {α : Type} (z : α) (pre : List α) (y : α) (rest : List α) : (pre ++ y :: rest).getD ((pre.length : Nat) : Int).toNat z = y := by
  rw [Int.toNat_natCast]
  simp [List.getD_eq_getElem?_getD]

theorem from_nodes (rest : List (Nat × Nat)) : ∀ (pre : List S106) (acc : List S54), pre.length + rest.length < 1000000 → acc.length + rest.length < 1000000 →
    Ev (fun k => impl_fromNodes.l0 k acc (pre ++ rest.map cn) ((pre ++ rest.map cn).length : Int) (pre.length : Int)) (acc ++ rest.map im) := by
  induction rest with
  | nil =>
    intro pre acc h1 h2
    refine Ev.step (fun k => impl_fromNodes.l0.eq_2 _ _ _ _ _) ?_
    simp only [List.map_nil, List.append_nil, if_neg (show ¬ ((pre.length : Int) < (pre.length : Int)) by omega)]
    exact Ev.now _
  | cons n rest ih =>
    intro pre acc h1 h2
    simp only [List.length_cons] at h1 h2
    have hE := ih (pre ++ [cn n]) (acc ++ [im n]) (by simp; omega) (by simp; omega)
    refine Ev.step (fun k => impl_fromNodes.l0.eq_2 _ _ _ _ _) ?_
    have hlen : ((pre ++ (n :: rest).map cn).length : Int) = ((pre.length + rest.length + 1 : Nat) : Int) := by simp; omega
    have hrd : rd_T106 (pre ++ (n :: rest).map cn) (pre.length : Int) = cn n := rd_mid _ pre (cn n) (rest.map cn)
    simp only [hlen, hrd, if_pos (show (pre.length : Int) < ((pre.length + rest.length + 1 : Nat) : Int) by omega), if_pos (show (0 : Int) ≤ (pre.length : Int) by omega), impl_fromNode.f, Option.bind_some,
      if_pos (show acc.length < 8796093022208 by omega), wrap_nat pre.length (by omega)]
    have e1 : pre ++ (n :: rest).map cn = pre ++ [cn n] ++ rest.map cn := by simp
    have e2 : ((pre ++ [cn n] ++ rest.map cn).length : Int) = ((pre.length + rest.length + 1 : Nat) : Int) := by simp; omega
    have e3 : ((pre ++ [cn n]).length : Int) = ((pre.length + 1 : Nat) : Int) := by simp
    rw [e2, e3] at hE
    rw [e1]
    simpa [cn, im] using hE
theorem fromNodes_ev (L : List (Nat × Nat)) (h : L.length < 100000) : Ev (fun k => impl_fromNodes.f k (L.map cn)) (L.map im) := by
  have h := from_nodes L [] [] (by simp; omega) (by simp; omega)
  simpa [impl_fromNodes.f] using h

end Go.Proofs.YtkmdkmlgahfcpaaDoor.Ranges
/- What proof.Nodes.Rehash makes of hashes, in plain lists; no program. -/
namespace Go.Proofs.YtkmdkmlgahfcpaaDoor.M
open Go Go.RowKit Go.Proofs.YtkmdkmlgahfcpaaDoor.Log Go.Proofs.YtkmdkmlgahfcpaaDoor.Nodes Go.Proofs.YtkmdkmlgahfcpaaDoor.Ranges Go.Proofs.YtkmdkmlgahfcpaaDoorW.PrintMore Go.Proofs.YtkmdkmlgahfcpaaDoorW.PrintWords Go.Proofs.YtkmdkmlgahfcpaaDoorW.PrintLast
set_option linter.unusedVariables false
set_option linter.unusedSimpArgs false
theorem rhGo_end (f : List Int → List Int → Option (List Int)) (b e : Nat) : ∀ (rest done : List (List Int)) (i n : Nat), (e ≤ i ∨ e ≤ b) → rest.length < n → rhGo f b e n i done rest = some (done ++ rest)
  | [], done, i, n, h, hn => by
    obtain ⟨m, rfl⟩ : ∃ m, n = m + 1 := ⟨n - 1, by simp at hn; omega⟩
    rw [rhGo, List.append_nil]
  | x :: rest, done, i, n, h, hn => by
    rw [List.length_cons] at hn
    obtain ⟨m, rfl⟩ : ∃ m, n = m + 1 := ⟨n - 1, by omega⟩
    rw [rhGo, if_neg (by omega), rhGo_end f b e rest (done ++ [x]) (i + 1) m (by omega) (by omega), List.append_assoc]
    rfl
theorem rhGo_pre (f : List Int → List Int → Option (List Int)) (b e : Nat) : ∀ (P rest done : List (List Int)) (i n : Nat), i + P.length ≤ b → rhGo f b e (n + P.length) i done (P ++ rest) = rhGo f b e n (i + P.length) (done ++ P) rest
  | [], rest, done, i, n, h => by simp
  | x :: P, rest, done, i, n, h => by
    rw [List.length_cons] at h
    rw [List.length_cons, show n + (P.length + 1) = (n + P.length) + 1 by omega, List.cons_append, rhGo, if_neg (by omega), rhGo_pre f b e P rest (done ++ [x]) (i + 1) n (by omega), List.append_assoc]
    rw [show i + 1 + P.length = i + (P.length + 1) by omega]
    rfl
/-- What the folding of hashes gives. -/
def fU (h : List Int → List Int → List Int) : List Int → List (List Int) → List Int
  | a, [] => a
  | a, x :: l => fU h (h x a) l
theorem fU_snoc (h : List Int → List Int → List Int) (y : List Int) : ∀ (l : List (List Int)) (a : List Int), fU h a (l ++ [y]) = h y (fU h a l)
  | [], a => rfl
  | x :: l, a => fU_snoc h y l (h x a)
theorem fU_foldR (h : List Int → List Int → List Int) (d : List Int) : ∀ (l : List (List Int)) (z : List Int), ∃ a r, (l ++ [z]).reverse = a :: r ∧ fU h a r = foldR h (l ++ [z]) d
  | [], z => ⟨z, [], rfl, rfl⟩
  | x :: l, z => by
    obtain ⟨a, r, h1, h2⟩ := fU_foldR h d l z
    refine ⟨a, r ++ [x], by rw [List.cons_append, List.reverse_cons, h1, List.cons_append], ?_⟩
    rw [fU_snoc, h2]
    cases l with
    | nil => rfl
    | cons y l => rfl
theorem fold_ev {k0 k1 k2 k3 k4 k5 : Int} : ∀ (l : List (List Int)) (a : List Int), a.length + tot l ≤ 70368744177664 →
    Ev (fun k => rhFold (fun l r => impl_toy_HashChildren.f k k0 k1 k2 k3 k4 k5 l r) a l) (fU (hc k0 k2 k5) a l)
  | [], a, h => Ev.now _
  | x :: l, a, h => by
    rw [tot_cons] at h
    have h1 := hash_ev k0 k1 k2 k3 k4 k5 x a (by omega)
    have h2 := hc_len k0 k2 k5 x a
    exact Ev.bind h1 (fold_ev l (hc k0 k2 k5 x a) (by omega))
theorem rhGo_ev {k0 k1 k2 k3 k4 k5 : Int} (P Q r : List (List Int)) (a : List Int) (h : a.length + tot r ≤ 70368744177664) (b e n : Nat) (hb : b = P.length) (he : e = b + (r.length + 1)) (hn : n = P.length + (r.length + 1) + Q.length + 1) :
    Ev (fun k => rhGo (fun l r => impl_toy_HashChildren.f k k0 k1 k2 k3 k4 k5 l r) b e n 0 [] (P ++ (a :: r ++ Q))) (P ++ [fU (hc k0 k2 k5) a r] ++ Q) := by
  subst hb he hn
  refine Ev.congr (g := fun k => rhGo (fun l r => impl_toy_HashChildren.f k k0 k1 k2 k3 k4 k5 l r) P.length (P.length + (r.length + 1)) (P.length + (r.length + 1) + Q.length + 1) 0 [] (P ++ (a :: r ++ Q))) (f := fun k => (rhFold (fun l r => impl_toy_HashChildren.f k k0 k1 k2 k3 k4 k5 l r) a r).bind fun y => some (P ++ [y] ++ Q)) (fun k => ?_) ?_
  · rw [show P.length + (r.length + 1) + Q.length + 1 = (r.length + Q.length + 1) + 1 + P.length by omega, rhGo_pre _ _ _ _ _ _ _ _ (by omega), List.cons_append, rhGo, if_pos (by omega)]
    have e1 : P.length + (r.length + 1) - (0 + P.length) - 1 = r.length := by omega
    rw [e1, List.take_left, List.drop_left]
    congr 1
    funext y
    rw [rhGo_end _ _ _ Q _ _ _ (.inl (Nat.le_refl _)) (by omega), List.nil_append]
  · exact Ev.bind (fold_ev r a h) (Ev.now _)
theorem same_self_loop (L : List (List Int)) (hL : L.length ≤ 2147483647) : ∀ (rest pre : List (List Int)), L = pre ++ rest → Ev (fun k => spec_Same.l0 k L L (L.length : Int) (pre.length : Int)) true
  | [], pre, h => by
    rw [List.append_nil] at h
    subst h
    refine Ev.step (fun k => spec_Same.l0.eq_2 _ _ _ _ _) ?_
    simp only [if_neg (show ¬ (L.length : Int) < (L.length : Int) by omega)]
    exact Ev.now _
  | p :: rest, pre, h => by
    have hlen : L.length = pre.length + (rest.length + 1) := by rw [h, List.length_append, List.length_cons]
    have ih := same_self_loop L hL rest (pre ++ [p]) (by rw [h, List.append_assoc]; rfl)
    rw [List.length_append, List.length_singleton] at ih
    refine Ev.step (fun k => spec_Same.l0.eq_2 _ _ _ _ _) ?_
    simp only [if_pos (show (pre.length : Int) < (L.length : Int) by omega), if_pos (show (0 : Int) ≤ (pre.length : Int) by omega), if_true, Log.wrap_nat pre.length (by omega)]
    exact ih
theorem same_refl (L : List (List Int)) (hL : L.length ≤ 2147483647) : Ev (fun k => spec_Same.f k L L) true := by
  unfold spec_Same.f
  exact Ev.congr (fun k => if_pos rfl) (same_self_loop L hL L [] rfl)
end Go.Proofs.YtkmdkmlgahfcpaaDoor.M
/- What impl.Consistency answers, in plain nodes. -/
namespace Go.Proofs.YtkmdkmlgahfcpaaDoor.M
open Go Go.RowKit Go.Proofs.YtkmdkmlgahfcpaaDoor.Log Go.Proofs.YtkmdkmlgahfcpaaDoor.Nodes Go.Proofs.YtkmdkmlgahfcpaaDoor.Ranges Go.Proofs.YtkmdkmlgahfcpaaDoorW.PrintMore Go.Proofs.YtkmdkmlgahfcpaaDoorW.PrintWords Go.Proofs.YtkmdkmlgahfcpaaDoorW.PrintLast
set_option linter.unusedVariables false
set_option linter.unusedSimpArgs false
theorem ids_in {x t n d : Nat} {Nl Nr : List (Nat × Nat)} (hx : x < n / 2 ^ t) (hX : n / 2 ^ t / 2 ^ d = x / 2 ^ d + 1) (hev : x / 2 ^ d % 2 = 0) (hn : n < 2 ^ 64) (hGl : G 0 (x / 2 ^ d * 2 ^ (t + d)) Nl) (hGr : G ((x / 2 ^ d + 1) * 2 ^ (t + d)) n Nr) :
    ∀ nd ∈ pathIDs x t d Nl Nr, (nd.2 + 1) * 2 ^ nd.1 ≤ n := by
  obtain ⟨_, hd⟩ := node_path hx hX hev hn hGl
  have hin : ∀ p ∈ (sf t x d).map prt ++ ((if (x / 2 ^ d + 1) * 2 ^ (t + d) < n then [((x / 2 ^ d + 1) * 2 ^ (t + d), n)] else []) ++ (Nl.map prt).reverse), p.2 ≤ n := by
    intro p hp
    rw [← hd] at hp
    have := pathP_in _ _ _ p (List.mem_of_mem_drop hp)
    omega
  intro nd hnd
  unfold pathIDs at hnd
  rw [List.mem_cons, List.mem_append, List.mem_append] at hnd
  rcases hnd with rfl | (h | h) | h
  · exact Nat.le_trans (Nat.mul_le_mul_right _ hx) (Nat.div_mul_le_self n (2 ^ t))
  · exact hin (prt nd) (List.mem_append_left _ (List.mem_map_of_mem h))
  · have := hGr.bound nd (List.mem_reverse.1 h)
    rw [Nat.add_mul, Nat.one_mul]
    exact this.2
  · exact hin (prt nd) (List.mem_append_right _ (List.mem_append_right _ (List.mem_reverse.2 (List.mem_map_of_mem (List.mem_reverse.1 h)))))
/-- The first node is left out where it is the whole of the first log. -/
def hdI (t x : Nat) : List (Nat × Nat) := if x = 0 then [] else [(t, x)]
def cIDs (x t d : Nat) (Nl Nr : List (Nat × Nat)) : List (Nat × Nat) := hdI t x ++ (sf t x d ++ Nr.reverse ++ Nl.reverse)
def cOff (x : Nat) : Nat := if x = 0 then 0 else 1
theorem hdI_len (t x : Nat) : (hdI t x).length = cOff x := by
  unfold hdI cOff
  split <;> rfl
theorem tz_shape {s t : Nat} (hT : Tz s t) : (s - 1) / 2 ^ t * 2 ^ t = s - 2 ^ t ∧ ((s - 1) / 2 ^ t + 1) * 2 ^ t = s := by
  obtain ⟨q, rfl⟩ := hT
  have hp := Nat.two_pow_pos t
  have e : (2 ^ t * (2 * q + 1) - 1) / 2 ^ t = 2 * q := by
    refine Nat.div_eq_of_lt_le ?_ ?_
    · rw [Nat.mul_add, Nat.mul_comm (2 * q)]; omega
    · rw [Nat.add_mul, Nat.mul_add, Nat.mul_comm (2 * q)]; omega
  rw [e]
  constructor
  · rw [Nat.mul_add, Nat.mul_comm (2 * q)]; omega
  · rw [Nat.mul_comm]
theorem consN_ev (s n : Nat) (h0 : 0 < s) (hs : s < n) (hn : n < 2 ^ 64) :
    ∃ (t x d : Nat) (Nl Nr : List (Nat × Nat)) (lv ix : Int), Tz s t ∧ x * 2 ^ t = s - 2 ^ t ∧ x < n / 2 ^ t ∧ t + d < 64 ∧ n / 2 ^ t / 2 ^ d = x / 2 ^ d + 1 ∧ x / 2 ^ d % 2 = 0 ∧ G 0 (x / 2 ^ d * 2 ^ (t + d)) Nl ∧ G ((x / 2 ^ d + 1) * 2 ^ (t + d)) n Nr ∧ (x / 2 ^ d + 1) * 2 ^ (t + d) ≤ n ∧ Nl.length ≤ 128 ∧ Nr.length ≤ 128 ∧
      Ev (fun k => proof_Consistency.f k (s : Int) (n : Int)) ((cIDs x t d Nl Nr).map cn, (if Nr = [] then 0 else ((cOff x + d : Nat) : Int)), (if Nr = [] then 0 else ((cOff x + d + Nr.length : Nat) : Int)), lv, ix, none) := by
  obtain ⟨hT, ht⟩ := tz_ex s h0 (by omega)
  have htz := tz64 s (by omega)
  generalize Lib.ctz 64 s = t at hT ht htz
  obtain ⟨g1, g2⟩ := tz_shape hT
  generalize hxe : (s - 1) / 2 ^ t = x at g1 g2
  have hp := Nat.two_pow_pos t
  have hx : x < n / 2 ^ t := by
    rw [Nat.lt_iff_add_one_le, Nat.le_div_iff_mul_le hp]
    omega
  obtain ⟨d, Nl, Nr, _, htd, hX, hev, hGl, hGr, hle, hl1, hl2, hE⟩ := nodes_ev x t n (by omega) hn hx
  refine ⟨t, x, d, Nl, Nr, ((t + d : Nat) : Int), ((x / 2 ^ d + 1 : Nat) : Int), hT, g1, hx, htd, hX, hev, hGl, hGr, hle, hl1, hl2, ?_⟩
  unfold proof_Consistency.f
  simp only [if_neg (show ¬ (s : Int) > (n : Int) by omega), if_neg (show ¬ (s : Int) = (n : Int) by omega)]
  refine Ev.step (fun k => proof_Consistency.j0.eq_2 _ _ _ _) ?_
  have e1 : IntKind.u64.wrap ((s : Int) - 1) = ((s - 1 : Nat) : Int) := sub_u64 s 1 h0 (by omega)
  have e2 : IntKind.u64.wrap (t : Int) = (t : Int) := Log.u64_nat t (by omega)
  have e3 : shr .u64 ((s - 1 : Nat) : Int) (t : Int) = (x : Int) := by rw [Log.shr_nat _ _ (by omega), hxe]
  simp only [show ((s : Int) == 0) = false by rw [beq_eq_false_iff_ne]; omega, Bool.false_eq_true, if_false, htz, Option.bind_some, e1, e2, e3, if_pos (show (0 : Int) ≤ (t : Int) by omega)]
  refine Ev.bind hE ?_
  by_cases hx0 : x = 0
  · simp only [if_pos (show (x : Int) = 0 by omega)]
    have c1 : cOff x = 0 := if_pos hx0
    have c2 : cIDs x t d Nl Nr = sf t x d ++ Nr.reverse ++ Nl.reverse := by unfold cIDs hdI; rw [if_pos hx0, List.nil_append]
    have c3 : ((pathIDs x t d Nl Nr).map cn).drop 1 = (cIDs x t d Nl Nr).map cn := by rw [c2]; rfl
    unfold proof_Nodes_skipFirst.f
    rw [if_pos (show (1 : Int) ≤ (((pathIDs x t d Nl Nr).map cn).length : Int) by rw [List.length_map]; unfold pathIDs; rw [List.length_cons]; omega), Option.bind_some, c3, c1]
    cases Nr with
    | nil => exact Ev.now _
    | cons a b =>
      simp only [if_neg (show ¬ (a :: b) = [] by simp)]
      have w1 : wrap64 (((d + 1 : Nat) : Int) - 1) = ((0 + d : Nat) : Int) := by unfold wrap64; omega
      have w2 : wrap64 (((d + 1 + (a :: b).length : Nat) : Int) - 1) = ((0 + d + (a :: b).length : Nat) : Int) := by unfold wrap64; omega
      rw [if_pos (show ((d + 1 : Nat) : Int) < ((d + 1 + (a :: b).length : Nat) : Int) by rw [List.length_cons]; omega), w1, w2]
      exact Ev.now _
  · simp only [if_neg (show ¬ (x : Int) = 0 by omega)]
    have c1 : cOff x = 1 := if_neg hx0
    have c2 : cIDs x t d Nl Nr = pathIDs x t d Nl Nr := by unfold cIDs hdI pathIDs; rw [if_neg hx0]; rfl
    rw [c1, c2, Nat.add_comm 1 d]
    exact Ev.now _
theorem implCons_ev (s n : Nat) {L : List (Nat × Nat)} {b e lv ix : Int} (hL : L.length < 100000) (h : Ev (fun k => proof_Consistency.f k (s : Int) (n : Int)) (L.map cn, b, e, lv, ix, none)) :
    Ev (fun k => impl_Consistency.f k (s : Int) (n : Int)) (L.map im, lv, ix, b, e, true) := by
  unfold impl_Consistency.f
  refine Ev.bind h ?_
  simp only [Option.isNone_none, if_true]
  unfold impl_fromProof.f proof_Nodes_Ephem.f impl_fromNode.f
  simp only [Option.bind_some]
  exact Ev.bind (Ev.bind (fromNodes_ev L hL) (Ev.now _)) (Ev.now _)
theorem consAll_ev (n : Nat) : Ev (fun k => proof_Consistency.f k (n : Int) (n : Int)) (([] : List (Nat × Nat)).map cn, 0, 0, 0, 0, none) := by
  unfold proof_Consistency.f
  simp only [if_neg (show ¬ (n : Int) > (n : Int) by omega), if_true]
  refine Ev.step (fun k => proof_Consistency.j0.eq_2 _ _ _ _) ?_
  simp only [if_true]
  exact Ev.now _
end Go.Proofs.YtkmdkmlgahfcpaaDoor.M
/- FnConsistencyMade: the hashes that impl.ConsistencyHashes makes are those of the reference. -/
namespace Go.Proofs.YtkmdkmlgahfcpaaDoor.M
open Go Go.RowKit Go.Proofs.YtkmdkmlgahfcpaaDoor.Log Go.Proofs.YtkmdkmlgahfcpaaDoor.Nodes Go.Proofs.YtkmdkmlgahfcpaaDoor.Ranges Go.Proofs.YtkmdkmlgahfcpaaDoorW.PrintMore Go.Proofs.YtkmdkmlgahfcpaaDoorW.PrintWords Go.Proofs.YtkmdkmlgahfcpaaDoorW.PrintLast
set_option linter.unusedVariables false
set_option linter.unusedSimpArgs false
variable {k0 k1 k2 k3 k4 k5 : Int}
/-- What lies at a part. -/
def pV (k0 k2 k5 : Int) (l : List (List Int)) (p : Nat × Nat) : List Int := mth (hc k0 k2 k5) (Lf l) p.1 (p.2 - p.1)
/-- What lies at a node. -/
def nV (k0 k2 k5 : Int) (l : List (List Int)) (p : Nat × Nat) : List Int := nodeV (hc k0 k2 k5) (Lf l) p
theorem pV_prt (l : List (List Int)) (p : Nat × Nat) : pV k0 k2 k5 l (prt p) = nV k0 k2 k5 l p := by
  unfold pV nV nodeV prt
  dsimp only
  rw [Nat.add_mul, Nat.one_mul, Nat.add_sub_cancel_left]
theorem nV_len (l : List (List Int)) (h1 : l.length ≤ 300) (h2 : ∀ r ∈ l, r.length ≤ 5000) (p : Nat × Nat) (hp : (p.2 + 1) * 2 ^ p.1 ≤ l.length) : (nV k0 k2 k5 l p).length ≤ 1502700 := by
  unfold nV nodeV
  have h3 := mth_len (k0 := k0) (k2 := k2) (k5 := k5) (Lf l) 5000 (Lf_len l 5000 h2) (2 ^ p.1) (p.2 * 2 ^ p.1) (Nat.two_pow_pos _)
  rw [Nat.add_mul, Nat.one_mul] at hp
  have h4 : 2 ^ p.1 * (5000 + 9) ≤ 300 * 5009 := Nat.mul_le_mul_right _ (by omega)
  omega
/-- The hashes after they were folded. -/
def madeV (k0 k2 k5 : Int) (l : List (List Int)) (t x d : Nat) (Nl Nr : List (Nat × Nat)) : List (List Int) :=
  (hdI t x ++ sf t x d).map (nV k0 k2 k5 l) ++ (if Nr = [] then [] else [foldR (hc k0 k2 k5) (Nr.map (nV k0 k2 k5 l)) []]) ++ (Nl.map (nV k0 k2 k5 l)).reverse
theorem made_eq (l : List (List Int)) (s t x d n : Nat) (Nl Nr : List (Nat × Nat)) (hn : n < 2 ^ 64) (h0 : 0 < s) (hs : s < n) (hT : Tz s t) (g1 : x * 2 ^ t = s - 2 ^ t) (hx : x < n / 2 ^ t) (hX : n / 2 ^ t / 2 ^ d = x / 2 ^ d + 1) (hev : x / 2 ^ d % 2 = 0)
    (hGl : G 0 (x / 2 ^ d * 2 ^ (t + d)) Nl) (hGr : G ((x / 2 ^ d + 1) * 2 ^ (t + d)) n Nr) (hle : (x / 2 ^ d + 1) * 2 ^ (t + d) ≤ n) :
    (proofP s 0 n true).map (pV k0 k2 k5 l) = madeV k0 k2 k5 l t x d Nl Nr := by
  obtain ⟨_, hc1⟩ := cons_shape n s t 0 true h0 hT (.inl hs)
  obtain ⟨_, hc2⟩ := node_path hx hX hev hn hGl
  have hle2 := hT.le
  have hpt := Nat.two_pow_pos t
  rw [Nat.zero_add, Nat.zero_add, ← g1, hc2] at hc1
  rw [hc1]
  unfold madeV hdI
  have e1 : ∀ (L : List (Nat × Nat)), (L.map prt).map (pV k0 k2 k5 l) = L.map (nV k0 k2 k5 l) := fun L => by
    rw [List.map_map]
    exact List.map_congr_left fun p _ => pV_prt l p
  have e2 : x = 0 ↔ s = 2 ^ t := by
    constructor
    · rintro rfl
      rw [Nat.zero_mul] at g1
      omega
    · intro h
      rw [h, Nat.sub_self] at g1
      rcases Nat.mul_eq_zero.1 g1 with h | h
      · exact h
      · omega
  have e3 : pV k0 k2 k5 l (x * 2 ^ t, s) = nV k0 k2 k5 l (t, x) := by
    unfold pV nV nodeV
    dsimp only
    rw [show s - x * 2 ^ t = 2 ^ t by omega]
  have e4 : (if (x / 2 ^ d + 1) * 2 ^ (t + d) < n then [((x / 2 ^ d + 1) * 2 ^ (t + d), n)] else []).map (pV k0 k2 k5 l) = (if Nr = [] then [] else [foldR (hc k0 k2 k5) (Nr.map (nV k0 k2 k5 l)) []]) := by
    by_cases hN : Nr = []
    · have := hGr.empty.1 hN
      rw [if_pos hN, if_neg (by omega)]
      rfl
    · have hne : (x / 2 ^ d + 1) * 2 ^ (t + d) ≠ n := fun h => hN (hGr.empty.2 h)
      rw [if_neg hN, if_pos (by omega), List.map_cons, List.map_nil]
      congr 1
      have hq : n / 2 ^ (t + d) = x / 2 ^ d + 1 := by rw [Nat.pow_add, ← Nat.div_div_eq_div_mul]; exact hX
      have d0 := Nat.div_add_mod n (2 ^ (t + d))
      have d1 := Nat.mod_lt n (Nat.two_pow_pos (t + d))
      rw [hq, Nat.mul_comm] at d0
      have := foldR_G (hc k0 k2 k5) (Lf l) [] (n - (x / 2 ^ d + 1) * 2 ^ (t + d)) ((x / 2 ^ d + 1) * 2 ^ (t + d)) (t + d) Nr (Nat.dvd_mul_left _ _) (by omega) (by omega) (by rw [show (x / 2 ^ d + 1) * 2 ^ (t + d) + (n - (x / 2 ^ d + 1) * 2 ^ (t + d)) = n by omega]; exact hGr)
      exact this.symm
  rw [List.map_append, List.map_append, List.map_append, List.map_append, List.map_reverse, e1, e1, e4, ← List.map_reverse]
  by_cases hx0 : x = 0
  · rw [if_pos ⟨rfl, e2.1 hx0⟩, if_pos hx0]
    simp
  · rw [if_neg (fun h => hx0 (e2.2 h.2)), if_neg hx0]
    simp [e3]
/-- impl.ConsistencyHashes on the nodes' hashes. -/
theorem consHashes_ev (l : List (List Int)) (h1 : l.length ≤ 300) (h2 : ∀ r ∈ l, r.length ≤ 5000) (s n t x d : Nat) (Nl Nr : List (Nat × Nat)) (lv ix : Int) (hN : ∀ nd ∈ cIDs x t d Nl Nr, (nd.2 + 1) * 2 ^ nd.1 ≤ l.length) (htd : t + d < 64) (hl1 : Nl.length ≤ 128) (hl2 : Nr.length ≤ 128)
    (hE : Ev (fun k => proof_Consistency.f k (s : Int) (n : Int)) ((cIDs x t d Nl Nr).map cn, (if Nr = [] then 0 else ((cOff x + d : Nat) : Int)), (if Nr = [] then 0 else ((cOff x + d + Nr.length : Nat) : Int)), lv, ix, none))
    (hR : ∀ r ∈ madeV k0 k2 k5 l t x d Nl Nr, r.length ≤ 2000000000) :
    Ev (fun k => impl_ConsistencyHashes.f k k0 k1 k2 k3 k4 k5 (s : Int) (n : Int) ((cIDs x t d Nl Nr).map (nV k0 k2 k5 l))) (madeV k0 k2 k5 l t x d Nl Nr, true) := by
  have hle : cOff x ≤ 1 := by unfold cOff; split <;> omega
  have hlen : (cIDs x t d Nl Nr).length = cOff x + d + Nr.length + Nl.length := by
    unfold cIDs
    rw [List.length_append, List.length_append, List.length_append, List.length_reverse, List.length_reverse, sf_len, hdI_len]
    omega
  have hml : (madeV k0 k2 k5 l t x d Nl Nr).length ≤ 1000 := by
    unfold madeV
    rw [List.length_append, List.length_append, List.length_map, List.length_append, hdI_len, sf_len, List.length_reverse, List.length_map]
    split <;> simp <;> omega
  have hv : ∀ r ∈ (cIDs x t d Nl Nr).map (nV k0 k2 k5 l), r.length ≤ 1502700 := by
    intro r hr
    obtain ⟨p, hp, rfl⟩ := List.mem_map.1 hr
    exact nV_len l h1 h2 p (hN p hp)
  unfold impl_ConsistencyHashes.f
  refine Ev.bind hE ?_
  simp only [Option.isNone_none, if_true]
  refine Ev.bind (texts_ev _ (by rw [List.length_map, hlen]; omega) (fun r hr => by have := hv r hr; omega)) ?_
  have hlm : ((cIDs x t d Nl Nr).map (nV k0 k2 k5 l)).length = cOff x + d + Nr.length + Nl.length := by rw [List.length_map, hlen]
  have hsh : (cIDs x t d Nl Nr).map (nV k0 k2 k5 l) = (hdI t x ++ sf t x d).map (nV k0 k2 k5 l) ++ ((Nr.map (nV k0 k2 k5 l)).reverse ++ (Nl.map (nV k0 k2 k5 l)).reverse) := by
    unfold cIDs
    rw [← List.append_assoc, ← List.append_assoc, List.map_append, List.map_append, List.map_reverse, List.map_reverse, List.append_assoc]
  have hfin := texts_ev (madeV k0 k2 k5 l t x d Nl Nr) (by omega) (fun r hr => by have := hR r hr; omega)
  by_cases hN0 : Nr = []
  · simp only [if_pos hN0, hlm, List.length_map, hlen]
    refine Ev.congr (fun k => if_pos ⟨trivial, by omega, by omega, by omega, by omega⟩) ?_
    refine Ev.congr (g := _) (f := fun k => (impl_texts.f k (madeV k0 k2 k5 l t x d Nl Nr)).bind fun r2 => some (r2, true)) (fun k => ?_) (Ev.bind hfin (Ev.now _))
    rw [rhGo_end _ _ _ _ _ _ _ (.inl (by simp)) (by rw [hlm]; omega), Option.bind_some, List.nil_append]
    unfold madeV
    rw [if_pos hN0, hsh, hN0]
    simp
  · simp only [if_neg hN0, hlm, List.length_map, hlen]
    refine Ev.congr (fun k => if_pos ⟨trivial, by omega, by omega, by omega, by omega⟩) ?_
    obtain ⟨L, z, hLz⟩ : ∃ L z, Nr.map (nV k0 k2 k5 l) = L ++ [z] := by
      rcases List.eq_nil_or_concat (Nr.map (nV k0 k2 k5 l)) with h | ⟨L, z, h⟩
      · exact absurd (List.map_eq_nil_iff.1 h) hN0
      · exact ⟨L, z, by rw [h, List.concat_eq_append]⟩
    obtain ⟨a, r, ha, hf⟩ := fU_foldR (hc k0 k2 k5) [] L z
    rw [← hLz] at ha hf
    have hrl : r.length + 1 = Nr.length := by
      have := congrArg List.length ha
      rw [List.length_reverse, List.length_map, List.length_cons] at this
      omega
    have hmem : ∀ y ∈ a :: r, y.length ≤ 1502700 := by
      intro y hy
      rw [← ha] at hy
      refine hv y ?_
      rw [hsh]
      exact List.mem_append_right _ (List.mem_append_left _ hy)
    have ht := tot_le 1502700 r (fun y hy => hmem y (List.mem_cons_of_mem _ hy))
    have ht2 : r.length * (1502700 + 9) ≤ 128 * (1502700 + 9) := Nat.mul_le_mul_right _ (by omega)
    have ha1 := hmem a List.mem_cons_self
    have hgo := rhGo_ev (k0 := k0) (k1 := k1) (k2 := k2) (k3 := k3) (k4 := k4) (k5 := k5) ((hdI t x ++ sf t x d).map (nV k0 k2 k5 l)) ((Nl.map (nV k0 k2 k5 l)).reverse) r a (by omega) (cOff x + d) (cOff x + d + Nr.length) (cOff x + d + Nr.length + Nl.length + 1)
      (by rw [List.length_map, List.length_append, hdI_len, sf_len]) (by omega) (by rw [List.length_map, List.length_append, hdI_len, sf_len, List.length_reverse, List.length_map]; omega)
    rw [hsh, ha]
    simp only [Int.toNat_natCast]
    refine Ev.bind hgo ?_
    have he : (hdI t x ++ sf t x d).map (nV k0 k2 k5 l) ++ [fU (hc k0 k2 k5) a r] ++ (Nl.map (nV k0 k2 k5 l)).reverse = madeV k0 k2 k5 l t x d Nl Nr := by
      unfold madeV
      rw [if_neg hN0, hf]
    rw [he]
    exact Ev.bind hfin (Ev.now _)
end Go.Proofs.YtkmdkmlgahfcpaaDoor.M
/- FnConsistencyMade: the printed law is true. -/
namespace Go.Proofs.YtkmdkmlgahfcpaaDoor.M
open Go Go.RowKit Go.Proofs.YtkmdkmlgahfcpaaDoor.Log Go.Proofs.YtkmdkmlgahfcpaaDoor.Nodes Go.Proofs.YtkmdkmlgahfcpaaDoor.Ranges Go.Proofs.YtkmdkmlgahfcpaaDoorW.PrintMore Go.Proofs.YtkmdkmlgahfcpaaDoorW.PrintWords Go.Proofs.YtkmdkmlgahfcpaaDoorW.PrintLast
set_option linter.unusedVariables false
set_option linter.unusedSimpArgs false
variable {k0 k1 k2 k3 k4 k5 : Int}
theorem proofP_in (s n : Nat) (h0 : 0 < s) (hs : s ≤ n) (hn : n < 18446744073709551616) : ∀ p ∈ proofP s 0 n true, p.1 < p.2 ∧ p.2 ≤ n := by
  intro p hp
  by_cases h : s = n
  · rw [proofP_end (by omega)] at hp
    simp at hp
  · obtain ⟨hT, ht⟩ := tz_ex s h0 (by omega)
    have hle := hT.le
    have hpt := Nat.two_pow_pos (Lib.ctz 64 s)
    obtain ⟨_, hc⟩ := cons_shape n s _ 0 true h0 hT (.inl (by omega))
    rw [Nat.zero_add, Nat.zero_add] at hc
    rw [hc, List.mem_append] at hp
    rcases hp with hp | hp
    · split at hp
      · simp at hp
      · rw [List.mem_singleton] at hp
        subst hp
        dsimp only
        omega
    · have := pathP_in _ _ _ p (List.mem_of_mem_drop hp)
      omega
theorem pV_len (l : List (List Int)) (h1 : l.length ≤ 300) (h2 : ∀ r ∈ l, r.length ≤ 5000) (p : Nat × Nat) (ha : p.1 < p.2) (hb : p.2 ≤ l.length) : (pV k0 k2 k5 l p).length ≤ 1502700 := by
  unfold pV
  have h3 := mth_len (k0 := k0) (k2 := k2) (k5 := k5) (Lf l) 5000 (Lf_len l 5000 h2) (p.2 - p.1) p.1 (by omega)
  have h4 : (p.2 - p.1) * (5000 + 9) ≤ 300 * 5009 := Nat.mul_le_mul_right _ (by omega)
  omega
theorem proof_loop (l : List (List Int)) (h1 : l.length ≤ 300) (h2 : ∀ r ∈ l, r.length ≤ 5000) (Q : List (Nat × Nat)) (hQ : Q.length ≤ 1000) (hin : ∀ p ∈ Q, p.1 < p.2 ∧ p.2 ≤ l.length) : ∀ (rest pre : List (Nat × Nat)), Q = pre ++ rest →
    Ev (fun k => spec_Proof.l0 k l (pre.map (pV k0 k2 k5 l)) (Q.map mkP) ((Q.map mkP).length : Int) (pre.length : Int) k0 k1 k2 k3 k4 k5) (Q.map (pV k0 k2 k5 l))
  | [], pre, h => by
    rw [List.append_nil] at h
    subst h
    refine Ev.step (fun k => spec_Proof.l0.eq_2 _ _ _ _ _ _ _ _ _ _ _ _) ?_
    simp only [List.length_map, if_neg (show ¬ (Q.length : Int) < (Q.length : Int) by omega)]
    exact Ev.now _
  | p :: rest, pre, h => by
    have hlen : Q.length = pre.length + (rest.length + 1) := by rw [h, List.length_append, List.length_cons]
    have hp := hin p (by rw [h]; simp)
    have hr : rd_T57 (Q.map mkP) (pre.length : Int) = mkP p := by
      unfold rd_T57
      rw [toNat_cast, h, List.map_append, List.map_cons, List.getD_eq_getElem?_getD, List.getElem?_append_right (by simp)]
      simp
    refine Ev.step (fun k => spec_Proof.l0.eq_2 _ _ _ _ _ _ _ _ _ _ _ _) ?_
    have ih := proof_loop l h1 h2 Q hQ hin rest (pre ++ [p]) (by rw [h, List.append_assoc]; rfl)
    rw [List.length_append, List.length_singleton, List.map_append, List.map_cons, List.map_nil] at ih
    simp only [List.length_map] at ih
    simp only [List.length_map, hr, if_pos (show (pre.length : Int) < (Q.length : Int) by omega), if_pos (show (0 : Int) ≤ (pre.length : Int) by omega), Log.wrap_nat pre.length (by omega), if_pos (show pre.length < 5864062014805 by omega)]
    exact Ev.bind (rootOf_ev 5000 l p.1 p.2 hp.1 hp.2 h2 (by omega)) ih
theorem specProof_ev (l : List (List Int)) (h1 : l.length ≤ 300) (h2 : ∀ r ∈ l, r.length ≤ 5000) (s : Nat) (h0 : 0 < s) (hs : s ≤ l.length) :
    Ev (fun k => spec_Proof.f k k0 k1 k2 k3 k4 k5 l (s : Int)) ((proofP s 0 l.length true).map (pV k0 k2 k5 l)) := by
  have hL := proofP_len_le l.length s 0 true h0 hs (by omega)
  rw [Nat.zero_add] at hL
  unfold spec_Proof.f
  rw [Log.u64_nat l.length (by omega)]
  refine Ev.bind (proofParts_ev s l.length h0 hs (by omega)) ?_
  exact proof_loop l h1 h2 (proofP s 0 l.length true) (by omega) (proofP_in s l.length h0 hs (by omega)) _ [] rfl
theorem hashes_loop (l : List (List Int)) (h1 : l.length ≤ 300) (h2 : ∀ r ∈ l, r.length ≤ 5000) (s : Int) (R : List (List Int)) (N : List (Nat × Nat)) (hNl : N.length ≤ 1000) (hN : ∀ nd ∈ N, (nd.2 + 1) * 2 ^ nd.1 ≤ l.length)
    (hC : Ev (fun k => impl_ConsistencyHashes.f k k0 k1 k2 k3 k4 k5 s (l.length : Int) (N.map (nV k0 k2 k5 l))) (R, true)) (hP : Ev (fun k => spec_Proof.f k k0 k1 k2 k3 k4 k5 l s) R) (hRl : R.length ≤ 2147483647) : ∀ (rest pre : List (Nat × Nat)), N = pre ++ rest →
    Ev (fun k => laws_FnConsistencyMade.l0 k l s (l.length : Int) true (pre.map (nV k0 k2 k5 l)) (N.map im) ((N.map im).length : Int) (pre.length : Int) k0 k1 k2 k3 k4 k5) true
  | [], pre, h => by
    rw [List.append_nil] at h
    subst h
    refine Ev.step (fun k => laws_FnConsistencyMade.l0.eq_2 _ _ _ _ _ _ _ _ _ _ _ _ _ _ _) ?_
    simp only [List.length_map, if_neg (show ¬ (N.length : Int) < (N.length : Int) by omega), if_true]
    refine Ev.bind hC ?_
    simp only [if_true]
    exact Ev.bind hP (Ev.bind (same_refl R hRl) (Ev.now _))
  | p :: rest, pre, h => by
    have hlen : N.length = pre.length + (rest.length + 1) := by rw [h, List.length_append, List.length_cons]
    have hp := hN p (by rw [h]; simp)
    have hr : rd_T54 (N.map im) (pre.length : Int) = im p := by
      unfold rd_T54
      rw [toNat_cast, h, List.map_append, List.map_cons, List.getD_eq_getElem?_getD, List.getElem?_append_right (by simp)]
      simp
    have hpp := Nat.two_pow_pos p.1
    have hm := hp
    rw [Nat.add_mul, Nat.one_mul] at hm
    have h9 : p.1 < 9 := by
      apply Nat.lt_of_not_le
      intro h9
      have := Nat.pow_le_pow_right (n := 2) (by decide) h9
      omega
    have hp2 : p.2 ≤ p.2 * 2 ^ p.1 := Nat.le_mul_of_pos_right _ hpp
    have e1 : spec_Leaves.f (p.1 : Int) (p.2 : Int) = some (((p.2 * 2 ^ p.1 : Nat) : Int), (((p.2 + 1) * 2 ^ p.1 : Nat) : Int)) := by
      unfold spec_Leaves.f
      have e1 : IntKind.u64.wrap ((p.2 : Int) + 1) = ((p.2 + 1 : Nat) : Int) := Log.u64_nat (p.2 + 1) (by omega)
      rw [if_pos (by omega), e1, shl_u64 _ _ (by omega) (Nat.lt_of_le_of_lt (show p.2 * 2 ^ p.1 ≤ 300 by omega) (by decide)), shl_u64 _ _ (by omega) (Nat.lt_of_le_of_lt (show (p.2 + 1) * 2 ^ p.1 ≤ 300 by omega) (by decide))]
    have e2 : Ev (fun k => spec_NodeHash.f k k0 k1 k2 k3 k4 k5 l (p.1 : Int) (p.2 : Int)) (nV k0 k2 k5 l p) := by
      unfold spec_NodeHash.f
      simp only [e1, Option.bind_some]
      have := rootOf_ev (k0 := k0) (k1 := k1) (k2 := k2) (k3 := k3) (k4 := k4) (k5 := k5) 5000 l (p.2 * 2 ^ p.1) ((p.2 + 1) * 2 ^ p.1) (by rw [Nat.add_mul]; omega) hp h2 (by omega)
      rw [show (p.2 + 1) * 2 ^ p.1 - p.2 * 2 ^ p.1 = 2 ^ p.1 by rw [Nat.add_mul, Nat.one_mul, Nat.add_sub_cancel_left]] at this
      exact Ev.bind this (Ev.now _)
    refine Ev.step (fun k => laws_FnConsistencyMade.l0.eq_2 _ _ _ _ _ _ _ _ _ _ _ _ _ _ _) ?_
    have ih := hashes_loop l h1 h2 s R N hNl hN hC hP hRl rest (pre ++ [p]) (by rw [h, List.append_assoc]; rfl)
    rw [List.length_append, List.length_singleton, List.map_append, List.map_cons, List.map_nil] at ih
    simp only [List.length_map] at ih
    have f0 : (im p).f0 = (p.1 : Int) := rfl
    have f1 : (im p).f1 = (p.2 : Int) := rfl
    simp only [List.length_map, hr, f0, f1, e1, Option.bind_some, if_pos (show (pre.length : Int) < (N.length : Int) by omega), if_pos (show (0 : Int) ≤ (pre.length : Int) by omega), if_neg (show ¬ (p.1 : Int) ≥ 64 by omega),
      if_neg (show ¬ ((p.2 * 2 ^ p.1 : Nat) : Int) ≥ (((p.2 + 1) * 2 ^ p.1 : Nat) : Int) by rw [Nat.add_mul]; omega), if_neg (show ¬ (((p.2 + 1) * 2 ^ p.1 : Nat) : Int) > (l.length : Int) by omega), Log.wrap_nat pre.length (by omega), if_pos (show pre.length < 5864062014805 by omega)]
    exact Ev.bind e2 ih
theorem made_ev (l : List (List Int)) (h1 : l.length ≤ 300) (h2 : ∀ r ∈ l, r.length ≤ 5000) (s : Nat) (h0 : 0 < s) (hs : s ≤ l.length) :
    Ev (fun k => (impl_Consistency.f k (s : Int) (l.length : Int)).bind fun bt377 => (laws_FnConsistencyMade.l0 k l (s : Int) (l.length : Int) bt377.2.2.2.2.2 ([] : List (List Int)) bt377.1 (bt377.1.length : Int) 0 k0 k1 k2 k3 k4 k5)) true := by
  have hP := specProof_ev (k0 := k0) (k1 := k1) (k2 := k2) (k3 := k3) (k4 := k4) (k5 := k5) l h1 h2 s h0 hs
  have hL := proofP_len_le l.length s 0 true h0 hs (by omega)
  rw [Nat.zero_add] at hL
  by_cases he : s = l.length
  · have hE := consAll_ev l.length
    rw [← he] at hE
    have hI := implCons_ev s s (L := []) (by simp) hE
    have hnil : proofP s 0 l.length true = [] := by rw [proofP_end (by omega)]; rfl
    rw [hnil, List.map_nil] at hP
    have hC : Ev (fun k => impl_ConsistencyHashes.f k k0 k1 k2 k3 k4 k5 (s : Int) (l.length : Int) (([] : List (Nat × Nat)).map (nV k0 k2 k5 l))) ([], true) := by
      rw [← he]
      unfold impl_ConsistencyHashes.f
      refine Ev.bind hE ?_
      simp only [Option.isNone_none, if_true, List.map_nil]
      have ht := texts_ev [] (by simp) (fun r hr => by simp at hr)
      refine Ev.bind ht ?_
      refine Ev.congr (fun k => if_pos ⟨rfl, by decide, by decide, by decide, by decide⟩) ?_
      refine Ev.congr (f := fun k => (impl_texts.f k []).bind fun r2 => some (r2, true)) (fun k => ?_) (Ev.bind ht (Ev.now _))
      rw [rhGo_end _ _ _ _ _ _ _ (.inl (by simp)) (by simp), Option.bind_some, List.nil_append]
    rw [← he]
    refine Ev.bind hI ?_
    have := hashes_loop (k0 := k0) (k1 := k1) (k2 := k2) (k3 := k3) (k4 := k4) (k5 := k5) l h1 h2 (s : Int) [] [] (by simp) (fun nd h => by simp at h) hC hP (by simp) [] [] rfl
    rw [← he] at this
    exact this
  · obtain ⟨t, x, d, Nl, Nr, lv, ix, hT, g1, hx, htd, hX, hev, hGl, hGr, hle, hl1, hl2, hE⟩ := consN_ev s l.length h0 (by omega) (by omega)
    have hin := ids_in hx hX hev (by omega) hGl hGr
    have hin2 : ∀ nd ∈ cIDs x t d Nl Nr, (nd.2 + 1) * 2 ^ nd.1 ≤ l.length := by
      intro nd hnd
      refine hin nd ?_
      unfold cIDs hdI at hnd
      unfold pathIDs
      rw [List.mem_append] at hnd
      rcases hnd with h | h
      · split at h
        · simp at h
        · rw [List.mem_singleton] at h
          subst h
          exact List.mem_cons_self
      · exact List.mem_cons_of_mem _ h
    have hlen : (cIDs x t d Nl Nr).length ≤ 1000 := by
      have : cOff x ≤ 1 := by unfold cOff; split <;> omega
      unfold cIDs
      rw [List.length_append, List.length_append, List.length_append, List.length_reverse, List.length_reverse, sf_len, hdI_len]
      omega
    have heq := made_eq (k0 := k0) (k2 := k2) (k5 := k5) l s t x d l.length Nl Nr (by omega) h0 (by omega) hT g1 hx hX hev hGl hGr hle
    have hR : ∀ r ∈ madeV k0 k2 k5 l t x d Nl Nr, r.length ≤ 2000000000 := by
      intro r hr
      rw [← heq] at hr
      obtain ⟨p, hp, rfl⟩ := List.mem_map.1 hr
      have hpi := proofP_in s l.length h0 hs (by omega) p hp
      have := pV_len (k0 := k0) (k2 := k2) (k5 := k5) l h1 h2 p hpi.1 hpi.2
      omega
    have hC := consHashes_ev (k0 := k0) (k1 := k1) (k2 := k2) (k3 := k3) (k4 := k4) (k5 := k5) l h1 h2 s l.length t x d Nl Nr lv ix hin2 htd hl1 hl2 hE hR
    rw [← heq] at hC
    refine Ev.bind (implCons_ev s l.length (by omega) hE) ?_
    exact hashes_loop l h1 h2 (s : Int) _ (cIDs x t d Nl Nr) hlen hin2 hC hP (by rw [List.length_map]; omega) _ [] rfl
theorem consistencyMade_ev (l : List (List Int)) (a2 : Int) (w2 : (Lit.int .u64 a2).wf = true) : Ev (fun k => laws_FnConsistencyMade.f k k0 k1 k2 k3 k4 k5 l a2) true := by
  obtain ⟨s, rfl, hs⟩ := nat_u64 w2
  have hj : ∀ x7, Ev (fun k => laws_FnConsistencyMade.j0 k l (s : Int) x7 true k0 k1 k2 k3 k4 k5) true := fun x7 => by
    refine Ev.step (fun k => laws_FnConsistencyMade.j0.eq_2 _ _ _ _ _ _ _ _ _ _ _) ?_
    simp only [if_true]
    exact Ev.now _
  obtain ⟨r, hr, hrf⟩ := fits_ev l
  unfold laws_FnConsistencyMade.f
  refine Ev.bind hr ?_
  cases r with
  | false => simp only [Bool.false_eq_true, if_false]; exact Ev.now _
  | true =>
  simp only [if_true]
  obtain ⟨t, ht, hts⟩ := small_ev l (hrf rfl).1
  refine Ev.bind ht ?_
  cases t with
  | false => simp only [Bool.false_eq_true, if_false]; exact hj _
  | true =>
  simp only [if_true]
  have hsm := hts rfl
  by_cases h0 : s = 0
  · subst h0
    simp only [Int.natCast_zero, if_true]
    exact hj _
  simp only [if_neg (show ¬ (s : Int) = 0 by omega)]
  have hl := hsm.1
  rw [Log.u64_nat l.length (by omega)]
  by_cases hg : (s : Int) > (l.length : Int)
  · rw [decide_eq_true hg]
    exact hj _
  rw [decide_eq_false hg]
  refine Ev.step (fun k => laws_FnConsistencyMade.j0.eq_2 _ _ _ _ _ _ _ _ _ _ _) ?_
  simp only [Bool.false_eq_true, if_false]
  exact made_ev l hsm.1 hsm.2 s (by omega) (by omega)
end Go.Proofs.YtkmdkmlgahfcpaaDoor.M
