/- FnRangeNodesCover in plain numbers: the printed law answers true. -/
import Derived.Test.YtkkkaegocinkeaaDoorMoved
import Derived.Test.YtkkkaegocinkeaaDoorQF4
namespace Go.Proofs.YtkkkaegocinkeaaDoor.Ranges
open Go.RowKit Go.Proofs.YtkkkaegocinkeaaDoor.Q Go.Proofs.YtkkkaegocinkeaaDoorW.PrintWords Go.Proofs.YtkkkaegocinkeaaDoorW.PrintLast Go.Proofs.YtkkkaegocinkeaaDoorW.PrintMore Go.Proofs.YtkkkaegocinkeaaDoor.Nodes
set_option linter.unusedVariables false
set_option linter.unusedSimpArgs false

theorem land_one (x : Nat) : x &&& 1 = x % 2 := by
  exact Nat.and_two_pow_sub_one_eq_mod x 1

/-- Bits from i on. -/
theorem pop_drop (f m i : Nat) : Lib.popAux (f + 1) (m / 2 ^ i) = m / 2 ^ i % 2 + Lib.popAux f (m / 2 ^ (i + 1)) := by
  simp only [Lib.popAux]
  rw [Nat.div_div_eq_div_mul, ← Nat.pow_succ]

theorem sizes_dn (m : Nat) (hm : m < 2 ^ 64) : ∀ (i : Nat) (acc : List Int), i ≤ 64 → acc.length + i < 1000000 →
    ∃ r : List Int, r.length = acc.length + Lib.popAux i m ∧ Ev (fun k => spec_Sizes.l1 k (m : Int) acc ((i : Int) - 1)) r := by
  intro i
  induction i with
  | zero =>
    intro acc _ _
    refine ⟨acc, by simp [Lib.popAux], Ev.step (fun k => spec_Sizes.l1.eq_2 _ _ _ _) ?_⟩
    simp only [if_neg (show ¬ (((0 : Nat) : Int) - 1 ≥ 0) by omega)]
    exact Ev.now _
  | succ i ih =>
    intro acc h1 h2
    have e1 : (((i + 1 : Nat) : Int) - 1) = (i : Int) := by omega
    have e2 : wrap64 ((i : Int) - 1) = (i : Int) - 1 := by unfold wrap64; omega
    have hq : m / 2 ^ i < 2 ^ 64 := Nat.lt_of_le_of_lt (Nat.div_le_self _ _) hm
    have e3 : Go.bits .and .u64 ((m / 2 ^ i : Nat) : Int) 1 = ((m / 2 ^ i % 2 : Nat) : Int) := by
      rw [show (1 : Int) = ((1 : Nat) : Int) from rfl, and64 _ _ hq (by omega), land_one]
    have e4 : Lib.popAux (i + 1) m = Lib.popAux i m + m / 2 ^ i % 2 := by
      rw [Ones.pop_add i 1 m]; simp [Lib.popAux]
    by_cases hb : m / 2 ^ i % 2 = 1
    · obtain ⟨r, hr, hE⟩ := ih (acc ++ [((2 ^ i : Nat) : Int)]) (by omega) (by simp; omega)
      refine ⟨r, by rw [hr, e4]; simp; omega, Ev.step (fun k => spec_Sizes.l1.eq_2 _ _ _ _) ?_⟩
      simp only [e1, e2, e3, shr_u64 m i (by omega), shl_one i (by omega), if_pos (show (i : Int) ≥ 0 by omega), if_pos (show (0 : Int) ≤ (i : Int) by omega), if_pos (show ((m / 2 ^ i % 2 : Nat) : Int) = 1 by omega), if_pos (show acc.length < 17592186044416 by omega)]
      exact hE
    · obtain ⟨r, hr, hE⟩ := ih acc (by omega) (by omega)
      refine ⟨r, by rw [hr, e4]; omega, Ev.step (fun k => spec_Sizes.l1.eq_2 _ _ _ _) ?_⟩
      simp only [e1, e2, e3, shr_u64 m i (by omega), if_pos (show (i : Int) ≥ 0 by omega), if_pos (show (0 : Int) ≤ (i : Int) by omega), if_neg (show ¬ (((m / 2 ^ i % 2 : Nat) : Int) = 1) by omega)]
      exact hE

theorem sizes_up (m m' : Nat) (hm : m < 2 ^ 64) (hm' : m' < 2 ^ 64) : ∀ (j i : Nat) (acc : List Int), i + j = 64 → acc.length + j < 1000 →
    ∃ r : List Int, r.length = acc.length + Lib.popAux j (m / 2 ^ i) + Lib.onesCount m' ∧ Ev (fun k => spec_Sizes.l0 k (m : Int) (m' : Int) acc (i : Int)) r := by
  intro j
  induction j with
  | zero =>
    intro i acc h1 h2
    obtain ⟨r, hr, hE⟩ := sizes_dn m' hm' 64 acc (by omega) (by omega)
    refine ⟨r, by rw [hr]; simp [Lib.popAux, Lib.onesCount], Ev.step (fun k => spec_Sizes.l0.eq_2 _ _ _ _ _) ?_⟩
    simp only [if_neg (show ¬ ((i : Int) < 64) by omega)]
    exact hE
  | succ j ih =>
    intro i acc h1 h2
    have e2 : wrap64 ((i : Int) + 1) = ((i + 1 : Nat) : Int) := wrap_nat i (by omega)
    have hq : m / 2 ^ i < 2 ^ 64 := Nat.lt_of_le_of_lt (Nat.div_le_self _ _) hm
    have e3 : Go.bits .and .u64 ((m / 2 ^ i : Nat) : Int) 1 = ((m / 2 ^ i % 2 : Nat) : Int) := by
      rw [show (1 : Int) = ((1 : Nat) : Int) from rfl, and64 _ _ hq (by omega), land_one]
    have e4 := pop_drop j m i
    by_cases hb : m / 2 ^ i % 2 = 1
    · obtain ⟨r, hr, hE⟩ := ih (i + 1) (acc ++ [((2 ^ i : Nat) : Int)]) (by omega) (by simp; omega)
      refine ⟨r, by rw [hr, e4]; simp; omega, Ev.step (fun k => spec_Sizes.l0.eq_2 _ _ _ _ _) ?_⟩
      simp only [e2, e3, shr_u64 m i (by omega), shl_one i (by omega), if_pos (show (i : Int) < 64 by omega), if_pos (show (0 : Int) ≤ (i : Int) by omega), if_pos (show ((m / 2 ^ i % 2 : Nat) : Int) = 1 by omega), if_pos (show acc.length < 17592186044416 by omega)]
      exact hE
    · obtain ⟨r, hr, hE⟩ := ih (i + 1) acc (by omega) (by omega)
      refine ⟨r, by rw [hr, e4]; omega, Ev.step (fun k => spec_Sizes.l0.eq_2 _ _ _ _ _) ?_⟩
      simp only [e2, e3, shr_u64 m i (by omega), if_pos (show (i : Int) < 64 by omega), if_pos (show (0 : Int) ≤ (i : Int) by omega), if_neg (show ¬ (((m / 2 ^ i % 2 : Nat) : Int) = 1) by omega)]
      exact hE
theorem sizes (m m' : Nat) (hm : m < 2 ^ 64) (hm' : m' < 2 ^ 64) : ∃ r : List Int, r.length = Lib.onesCount m + Lib.onesCount m' ∧ Ev (fun k => spec_Sizes.f k (m : Int) (m' : Int)) r := by
  obtain ⟨r, hr, hE⟩ := sizes_up m m' hm hm' 64 0 [] (by omega) (by simp)
  refine ⟨r, by rw [hr]; simp [Lib.onesCount], ?_⟩
  unfold spec_Sizes.f
  exact hE

theorem coverage (l i : Nat) (hl : l < 64) (h : i * 2 ^ l + 2 ^ l ≤ 2 ^ 64) (h1 : i + 1 < 2 ^ 64) : impl_Coverage.f (l : Int) (i : Int) = some (((i * 2 ^ l : Nat) : Int), (((i + 1) * 2 ^ l % 2 ^ 64 : Nat) : Int)) := by
  have hp := pow_pos l
  have e1 : IntKind.u64.wrap ((i : Int) + 1) = ((i + 1 : Nat) : Int) := by rw [show ((i : Int) + 1) = ((i + 1 : Nat) : Int) by omega]; exact u64_nat _ (by omega)
  have e2 : shl .u64 ((i + 1 : Nat) : Int) (l : Int) = (((i + 1) * 2 ^ l % 2 ^ 64 : Nat) : Int) := by
    unfold shl
    rw [Int.toNat_natCast, show IntKind.bits .u64 = 64 from rfl, Nat.min_eq_left (by omega), IntKind.wrap_u64]
    have e : (((i + 1 : Nat) : Int) * 2 ^ l) = (((i + 1) * 2 ^ l : Nat) : Int) := by simp
    rw [e]
    generalize (i + 1) * 2 ^ l = z
    omega
  unfold impl_Coverage.f impl_toNode.f compact_NewNodeID.f
  simp only [Option.bind_some]
  unfold compact_NodeID_Coverage.f
  rw [if_pos (by omega), e1, e2, shl_u64 i l (by omega) (by omega)]
  rfl

theorem nodes_count (b e : Nat) (hbe : b ≤ e) (he : e < 2 ^ 64) (L : List (Nat × Nat)) (hG : G b e L) :
    ∃ l r : Nat, compact_Decompose.f (b : Int) (e : Int) = some ((l : Int), (r : Int)) ∧ l < 2 ^ 64 ∧ r < 2 ^ 64 ∧ L.length = Lib.onesCount l + Lib.onesCount r := by
  obtain ⟨mid, d, hd, hdm, hb, hm, h1, h2, hf⟩ := decompose b e hbe he
  obtain ⟨L', hG', hLn, _⟩ := rn_up (mid - b) b d 0 mid e [] (by omega) hdm h1 hd (by simp) (by omega) hm h2 he (by simp; omega)
  obtain rfl := hG.det hG'
  exact ⟨mid - b, e - mid, hf, by omega, by omega, hLn⟩

theorem sibling_even (l i : Nat) (h : i % 2 = 0) (hi : i + 1 < 2 ^ 64) : impl_Sibling.f (l : Int) (i : Int) = some ((l : Int), ((i + 1 : Nat) : Int)) := by
  unfold impl_Sibling.f impl_toNode.f impl_fromNode.f compact_NodeID_Sibling.f compact_NewNodeID.f
  simp only [Option.bind_some]
  rw [show (1 : Int) = ((1 : Nat) : Int) from rfl, xor64 _ _ (by omega) (by omega), even_xor_one i h]

/-- What is known of the node ahead of p. -/
def Prev (p e : Nat) : Option (Nat × Nat) → Prop
  | none => True
  | some n => p = (n.2 + 1) * 2 ^ n.1 ∧ ¬ (2 ^ (n.1 + 1) ∣ n.2 * 2 ^ n.1 ∧ n.2 * 2 ^ n.1 + 2 ^ (n.1 + 1) ≤ e)

theorem prev_snoc (Lp : List (Nat × Nat)) (l p e : Nat) (hpl : p / 2 ^ l * 2 ^ l = p) (hpl1 : (p / 2 ^ l + 1) * 2 ^ l = p + 2 ^ l) (hmax : ¬ (2 ^ (l + 1) ∣ p ∧ p + 2 ^ (l + 1) ≤ e)) :
    Prev (p + 2 ^ l) e (Lp ++ [(l, p / 2 ^ l)]).getLast? := by
  have h : (Lp ++ [(l, p / 2 ^ l)]).getLast? = some (l, p / 2 ^ l) := by simp
  rw [h]
  refine ⟨hpl1.symm, ?_⟩
  simp only [hpl]
  exact hmax
theorem prev_last (Lq : List (Nat × Nat)) (n : Nat × Nat) (p e : Nat) (h : Prev p e (Lq ++ [n]).getLast?) : p = (n.2 + 1) * 2 ^ n.1 ∧ ¬ (2 ^ (n.1 + 1) ∣ n.2 * 2 ^ n.1 ∧ n.2 * 2 ^ n.1 + 2 ^ (n.1 + 1) ≤ e) := by
  have h2 : (Lq ++ [n]).getLast? = some n := by simp
  rw [h2] at h
  exact h

theorem lt_len {a b c : Nat} (h : b = a + c + 1) : (a : Int) < (b : Int) := by omega
theorem not_gt {a b c : Nat} (h : b + a ≤ c) : ¬ ((a : Int) > ((c - b : Nat) : Int)) := by omega
theorem not_ge {a : Nat} (h : a < 64) : ¬ ((a : Int) ≥ 64) := by omega
theorem sub_cast {a b : Nat} (h : b ≤ a) (h2 : a < 2 ^ 64) : IntKind.u64.wrap ((a : Int) - (b : Int)) = ((a - b : Nat) : Int) := by
  rw [show ((a : Int) - (b : Int)) = ((a - b : Nat) : Int) by omega]; exact u64_nat _ (by omega)
theorem add_cast {a b : Nat} (h2 : a + b < 2 ^ 64) : IntKind.u64.wrap ((a : Int) + (b : Int)) = ((a + b : Nat) : Int) := by
  rw [← Int.natCast_add]; exact u64_nat _ (by omega)
theorem pred_cast (n : Nat) (h : n < 1000) : wrap64 (((n + 1 : Nat) : Int) - 1) = (n : Int) := by unfold wrap64; omega
theorem tmod_two (n : Nat) : Int.tmod (n : Int) 2 = ((n % 2 : Nat) : Int) := by
  rw [Int.tmod_eq_emod_of_nonneg (by omega)]; omega
/-- The node behind is not the sibling of the one ahead that comes first. -/
theorem not_sibling (n : Nat × Nat) (l p e : Nat) (hle : p + 2 ^ l ≤ e) (hP : p = (n.2 + 1) * 2 ^ n.1 ∧ ¬ (2 ^ (n.1 + 1) ∣ n.2 * 2 ^ n.1 ∧ n.2 * 2 ^ n.1 + 2 ^ (n.1 + 1) ≤ e)) (hev : n.2 % 2 = 0) (x : Int) :
    (((n.1 : Int) == (l : Int)) && x == x) = false := by
  have hne : ¬ n.1 = l := by
    intro h1
    refine hP.2 ?_
    rw [h1] at hP ⊢
    refine ⟨?_, ?_⟩
    · obtain ⟨q, hq⟩ : ∃ q, n.2 = 2 * q := ⟨n.2 / 2, by omega⟩
      exact ⟨q, by rw [hq, Nat.pow_succ, Nat.mul_comm (2 ^ l * 2) q, Nat.mul_comm 2 q, Nat.mul_comm (2 ^ l) 2, Nat.mul_assoc]⟩
    · have h4 : (n.2 + 1) * 2 ^ l = n.2 * 2 ^ l + 2 ^ l := by rw [Nat.add_mul, Nat.one_mul]
      have h5 : 2 ^ (l + 1) = 2 ^ l + 2 ^ l := by rw [Nat.pow_succ, Nat.mul_two]
      have h6 := hP.1
      rw [h4] at h6
      rw [h6] at hle
      rw [h5, ← Nat.add_assoc]
      exact hle
  have : ((n.1 : Int) == (l : Int)) = false := by rw [beq_eq_false_iff_ne]; omega
  rw [this]; rfl
theorem and_false' {a b : Bool} (h : (a && true) = false) : (a && b) = false := by cases a <;> simp_all

theorem small_len {a b : Nat} (h : a + 1 + b + 1 ≤ 128) : a < 1000 := by omega
theorem cover_loop (b e : Nat) (hbe : b ≤ e) (he : e < 2 ^ 64) (L : List (Nat × Nat)) (hG : G b e L) (hL : L.length ≤ 128) {p : Nat} {rest : List (Nat × Nat)} (hR : G p e rest) :
    ∀ (Lp : List (Nat × Nat)), L = Lp ++ rest → Prev p e Lp.getLast? →
      Ev (fun r => laws_FnRangeNodesCover.l0 r (b : Int) (e : Int) (L.map im) (p : Int) (L.map im) ((L.map im).length : Int) (Lp.length : Int)) true := by
  induction hR with
  | nil e =>
    intro Lp hLp _
    rw [List.append_nil] at hLp
    subst hLp
    obtain ⟨l, r, hf, h1, h2, hc⟩ := nodes_count b e hbe he L hG
    obtain ⟨s, hs, hE⟩ := sizes l r h1 h2
    refine Ev.step (fun r => laws_FnRangeNodesCover.l0.eq_2 _ _ _ _ _ _ _ _) ?_
    have hd : impl_Decompose.f (b : Int) (e : Int) = some ((l : Int), (r : Int)) := by unfold impl_Decompose.f; rw [hf]; rfl
    simp only [List.length_map, if_neg (show ¬ ((L.length : Int) < (L.length : Int)) by omega), hd, Option.bind_some, if_true]
    refine Ev.bind hE ?_
    have : ((s.length : Int) == (L.length : Int)) = true := by rw [hs, hc]; simp
    simp only [this]
    exact Ev.now _
  | cons p e l rest hd hle hmax t ih =>
    intro Lp hLp hP
    have hp := pow_pos l
    have hle64 : 2 ^ l < 2 ^ 64 := by omega
    have hl64 : l < 64 := by
      apply Nat.lt_of_not_le
      intro h
      have := pow_mono h
      omega
    have hpl : p / 2 ^ l * 2 ^ l = p := Nat.div_mul_cancel hd
    have hpl1 : (p / 2 ^ l + 1) * 2 ^ l = p + 2 ^ l := by rw [Nat.add_mul, hpl, Nat.one_mul]
    have hdl : p / 2 ^ l ≤ p := Nat.div_le_self _ _
    have hlen : L.length = Lp.length + rest.length + 1 := by rw [hLp]; simp; omega
    have hE := ih hbe he hG (Lp ++ [(l, p / 2 ^ l)]) (by rw [hLp]; simp) (by
      exact prev_snoc Lp l p e hpl hpl1 hmax)
    have hrd : rd_T28 (L.map im) (Lp.length : Int) = im (l, p / 2 ^ l) := by
      have := rd_mid z28 (Lp.map im) (im (l, p / 2 ^ l)) (rest.map im)
      rw [List.length_map] at this
      rw [hLp, List.map_append, List.map_cons]
      exact this
    have hcov : impl_Coverage.f (l : Int) ((p / 2 ^ l : Nat) : Int) = some ((p : Int), ((p + 2 ^ l : Nat) : Int)) := by
      rw [coverage l (p / 2 ^ l) hl64 (by rw [hpl]; omega) (by omega), hpl, hpl1, Nat.mod_eq_of_lt (by omega)]
    have hpe : p + 2 ^ l < 2 ^ 64 := Nat.lt_of_le_of_lt hle he
    have w1 : IntKind.u64.wrap (((p + 2 ^ l : Nat) : Int) - (p : Int)) = ((2 ^ l : Nat) : Int) := by rw [sub_cast (Nat.le_add_right _ _) hpe, Nat.add_sub_cancel_left]
    have w2 : IntKind.u64.wrap ((e : Int) - (p : Int)) = ((e - p : Nat) : Int) := sub_cast (Nat.le_trans (Nat.le_add_right _ _) hle) he
    have w3 : IntKind.u64.wrap ((p : Int) + ((2 ^ l : Nat) : Int)) = ((p + 2 ^ l : Nat) : Int) := add_cast hpe
    have c1 := lt_len hlen
    have c2 := not_gt hle
    have c3 := not_ge hl64
    have c4 : (0 : Int) ≤ (Lp.length : Int) := Int.natCast_nonneg _
    have w4 := wrap_nat Lp.length (by omega)
    have e3 : ((Lp ++ [(l, p / 2 ^ l)]).length : Int) = ((Lp.length + 1 : Nat) : Int) := by simp
    rw [e3] at hE
    refine Ev.step (fun r => laws_FnRangeNodesCover.l0.eq_2 _ _ _ _ _ _ _ _) ?_
    simp only [List.length_map] at hE ⊢
    simp only [hrd, if_pos c1, if_pos c4, im, hcov, Option.bind_some, w1, w2, if_true, if_neg c2, if_neg c3, w3, w4]
    rcases List.eq_nil_or_concat Lp with h0 | ⟨Lq, n, hn⟩
    · subst h0
      simp only [List.length_nil, if_neg (show ¬ (((0 : Nat) : Int) > 0) by omega)]
      exact hE
    · subst hn
      rw [List.concat_eq_append] at hP hrd hE hLp hlen w4 ⊢
      have hlq : (Lq ++ [n]).length = Lq.length + 1 := by simp
      have hr2 : rd_T28 (L.map im) (Lq.length : Int) = im n := by
        have := rd_mid z28 (Lq.map im) (im n) ((l, p / 2 ^ l) :: rest |>.map im)
        rw [List.length_map] at this
        rw [hLp, List.append_assoc, List.map_append]
        exact this
      replace hP := prev_last Lq n p e hP
      have hlq2 : Lq.length < 1000 := small_len (by rw [hlen, hlq] at hL; exact hL)
      have w5 := pred_cast Lq.length hlq2
      have hn2 : n.2 + 1 ≤ p := by
        rw [hP.1]; exact Nat.le_mul_of_pos_right _ (pow_pos _)
      have hn3 : n.2 + 1 < 2 ^ 64 := Nat.lt_of_le_of_lt hn2 (Nat.lt_of_le_of_lt (Nat.le_add_right p (2 ^ l)) hpe)
      have w6 := tmod_two n.2
      rw [hlq] at hE hlen ⊢
      have c5 : (((Lq.length + 1 : Nat) : Int) > 0) := Int.ofNat_lt.2 (Nat.succ_pos _)
      have c6 : (Lq.length : Int) < (L.length : Int) := lt_len (c := rest.length + 1) (by rw [hlen, Nat.add_right_comm Lq.length 1 rest.length, Nat.add_assoc Lq.length rest.length 1])
      have c7 : (0 : Int) ≤ (Lq.length : Int) := Int.natCast_nonneg _
      simp only [if_pos c5, w5, if_pos c7, if_pos c6, hr2, im, w6]
      by_cases hev : n.2 % 2 = 0
      · have hne : (((n.1 : Int) == (l : Int)) && (((n.2 + 1 : Nat) : Int) == ((p / 2 ^ l : Nat) : Int))) = false := and_false' (by simpa using not_sibling n l p e hle hP hev 0)
        rw [hev]
        simp only [Int.natCast_zero, if_true, sibling_even n.1 n.2 hev hn3, Option.bind_some, hne, Bool.false_eq_true, if_false]
        exact hE
      · have c8 : ¬ (((n.2 % 2 : Nat) : Int) = 0) := by intro h; exact hev (Int.ofNat_eq_zero.1 h)
        simp only [if_neg c8]
        exact hE

theorem cover_ev (a0 a1 : Int) (w0 : (Lit.int .u64 a0).wf = true) (w1 : (Lit.int .u64 a1).wf = true) : Ev (fun r => laws_FnRangeNodesCover.f r a0 a1) true := by
  obtain ⟨b, rfl, h0⟩ := nat_u64 w0
  obtain ⟨e, rfl, h1⟩ := nat_u64 w1
  unfold laws_FnRangeNodesCover.f
  by_cases c : (b : Int) > (e : Int)
  · simp only [if_pos c]; exact Ev.now _
  · simp only [if_neg c]
    obtain ⟨L, hG, hL, hE⟩ := range_nodes b e (by omega) h1
    refine Ev.bind hE ?_
    exact cover_loop b e (by omega) h1 L hG hL hG [] rfl trivial
end Go.Proofs.YtkkkaegocinkeaaDoor.Ranges
