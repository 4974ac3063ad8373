/- FnRangeNodesMoved in plain numbers: the printed law answers true. -/
import Derived.Test.YtkkkaegocinkeaaDoorRanges
import Derived.OpenShut
import Derived.Test.YtkkkaegocinkeaaDoorQF3
namespace Go.Proofs.YtkkkaegocinkeaaDoor.Ranges
open Go.RowKit Go.Proofs.YtkkkaegocinkeaaDoor.Q Go.Proofs.YtkkkaegocinkeaaDoorW.PrintWords Go.Proofs.YtkkkaegocinkeaaDoorW.PrintLast Go.Proofs.YtkkkaegocinkeaaDoorW.PrintMore Go.Proofs.YtkkkaegocinkeaaDoor.Nodes
set_option linter.unusedVariables false

theorem wrap_nat (n : Nat) (h : n < 9223372036854775807) : wrap64 ((n : Int) + 1) = ((n + 1 : Nat) : Int) := by unfold wrap64; omega
theorem wrap_id (n : Nat) (h : n ≤ 9223372036854775807) : wrap64 (n : Int) = (n : Int) := by unfold wrap64; omega
theorem rd_mid {α : Type} (z : α) (pre : List α) (y : α) (rest : List α) : (pre ++ y :: rest).getD ((pre.length : Nat) : Int).toNat z = y := by
  rw [Int.toNat_natCast]
  simp [List.getD_eq_getElem?_getD]

theorem from_nodes (rest : List (Nat × Nat)) : ∀ (pre : List S52) (acc : List S28), pre.length + rest.length < 1000000 → acc.length + rest.length < 1000000 →
    Ev (fun k => impl_fromNodes.l0 k acc (pre ++ rest.map cn) ((pre ++ rest.map cn).length : Int) (pre.length : Int)) (acc ++ rest.map im) := by
  induction rest with
  | nil =>
    intro pre acc h1 h2
    refine Ev.step (fun k => impl_fromNodes.l0.eq_2 _ _ _ _ _) ?_
    simp only [List.map_nil, List.append_nil, if_neg (show ¬ ((pre.length : Int) < (pre.length : Int)) by omega)]
    exact Ev.now _
  | cons n rest ih =>
    intro pre acc h1 h2
    simp only [List.length_cons] at h1 h2
    have hE := ih (pre ++ [cn n]) (acc ++ [im n]) (by simp; omega) (by simp; omega)
    refine Ev.step (fun k => impl_fromNodes.l0.eq_2 _ _ _ _ _) ?_
    have hlen : ((pre ++ (n :: rest).map cn).length : Int) = ((pre.length + rest.length + 1 : Nat) : Int) := by simp; omega
    have hrd : rd_T52 (pre ++ (n :: rest).map cn) (pre.length : Int) = cn n := rd_mid _ pre (cn n) (rest.map cn)
    simp only [hlen, hrd, if_pos (show (pre.length : Int) < ((pre.length + rest.length + 1 : Nat) : Int) by omega), if_pos (show (0 : Int) ≤ (pre.length : Int) by omega), impl_fromNode.f, Option.bind_some,
      if_pos (show acc.length < 8796093022208 by omega), wrap_nat pre.length (by omega)]
    have e1 : pre ++ (n :: rest).map cn = pre ++ [cn n] ++ rest.map cn := by simp
    have e2 : ((pre ++ [cn n] ++ rest.map cn).length : Int) = ((pre.length + rest.length + 1 : Nat) : Int) := by simp; omega
    have e3 : ((pre ++ [cn n]).length : Int) = ((pre.length + 1 : Nat) : Int) := by simp
    rw [e2, e3] at hE
    rw [e1]
    simpa [cn, im] using hE

theorem range_nodes (b e : Nat) (hbe : b ≤ e) (he : e < 2 ^ 64) : ∃ L, G b e L ∧ L.length ≤ 128 ∧ Ev (fun k => impl_RangeNodes.f k (b : Int) (e : Int) []) (L.map im) := by
  obtain ⟨L, hG, hL, hE⟩ := compact_nodes b e hbe he [] (by simp)
  refine ⟨L, hG, hL, ?_⟩
  unfold impl_RangeNodes.f
  refine Ev.step (fun k => impl_RangeNodes.l0.eq_2 _ _ _ _ _ _ _) ?_
  simp only [List.length_nil, if_neg (show ¬ ((0 : Int) < ((0 : Nat) : Int)) by omega)]
  refine Ev.bind hE ?_
  refine Ev.bind (a := L.map im) ?_ (Ev.now _)
  have h := from_nodes L [] [] (by simp; omega) (by simp; omega)
  simpa [impl_fromNodes.f] using h

theorem same_nodes (rest : List S28) : ∀ (pre : List S28), pre.length + rest.length < 1000000 →
    Ev (fun k => spec_SameNodes.l0 k (pre ++ rest) (pre ++ rest) ((pre ++ rest).length : Int) (pre.length : Int)) true := by
  induction rest with
  | nil =>
    intro pre h1
    refine Ev.step (fun k => spec_SameNodes.l0.eq_2 _ _ _ _ _) ?_
    simp only [List.append_nil, if_neg (show ¬ ((pre.length : Int) < (pre.length : Int)) by omega)]
    exact Ev.now _
  | cons n rest ih =>
    intro pre h1
    simp only [List.length_cons] at h1
    have hE := ih (pre ++ [n]) (by simp; omega)
    refine Ev.step (fun k => spec_SameNodes.l0.eq_2 _ _ _ _ _) ?_
    have hlen : ((pre ++ n :: rest).length : Int) = ((pre.length + rest.length + 1 : Nat) : Int) := by simp; omega
    have hrd : rd_T28 (pre ++ n :: rest) (pre.length : Int) = n := rd_mid _ pre n rest
    simp only [hlen, hrd, if_pos (show (pre.length : Int) < ((pre.length + rest.length + 1 : Nat) : Int) by omega), if_pos (show (0 : Int) ≤ (pre.length : Int) by omega), wrap_nat pre.length (by omega)]
    have e1 : pre ++ n :: rest = pre ++ [n] ++ rest := by simp
    have e2 : ((pre ++ [n] ++ rest).length : Int) = ((pre.length + rest.length + 1 : Nat) : Int) := by simp; omega
    have e3 : ((pre ++ [n]).length : Int) = ((pre.length + 1 : Nat) : Int) := by simp
    rw [e2, e3] at hE
    rw [e1]
    simpa using hE
theorem same_self (l : List S28) (h : l.length < 1000000) : Ev (fun k => spec_SameNodes.f k l l) true := by
  have := same_nodes l [] (by simpa using h)
  unfold spec_SameNodes.f
  simpa using this

theorem scalable_out (t k : Nat) (ht : t < 2 ^ 64) (hk : k ≤ 63) (hs : ¬ t * 2 ^ k < 2 ^ 64) : laws_scalable.f (t : Int) (k : Int) = some false := by
  unfold laws_scalable.f
  rw [if_pos (by omega), if_pos (by omega), if_pos (by omega)]
  have e1 : shl .u64 (t : Int) (k : Int) = ((t * 2 ^ k % 2 ^ 64 : Nat) : Int) := by
    unfold shl
    rw [Int.toNat_natCast, show IntKind.bits .u64 = 64 from rfl, Nat.min_eq_left (by omega), IntKind.wrap_u64]
    have e : ((t : Int) * 2 ^ k) = ((t * 2 ^ k : Nat) : Int) := by simp
    rw [e]
    omega
  rw [e1, shr_u64 _ k (by omega)]
  have hp := pow_pos k
  have e2 : 2 ^ 64 = 2 ^ k * 2 ^ (64 - k) := by rw [← Nat.pow_add]; congr 1; omega
  have h1 : t * 2 ^ k % 2 ^ 64 / 2 ^ k < 2 ^ (64 - k) := by
    rw [Nat.div_lt_iff_lt_mul hp, Nat.mul_comm (2 ^ (64 - k)), ← e2]
    exact Nat.mod_lt _ (by omega)
  have h2 : 2 ^ (64 - k) ≤ t := by
    apply Nat.le_of_mul_le_mul_right _ hp
    rw [Nat.mul_comm, ← e2]
    omega
  have h3 : (((t * 2 ^ k % 2 ^ 64 / 2 ^ k : Nat) : Int) == (t : Int)) = false := by
    rw [beq_eq_false_iff_ne]; omega
  rw [h3]
theorem scalable_in (t k : Nat) (hk : k ≤ 63) (hs : t * 2 ^ k < 2 ^ 64) : laws_scalable.f (t : Int) (k : Int) = some true := by
  unfold laws_scalable.f
  rw [if_pos (by omega), if_pos (by omega), if_pos (by omega), shl_u64 t k (by omega) hs, shr_u64 _ k (by omega), Nat.mul_div_cancel _ (pow_pos k)]
  simp

/-- A node, moved by T leaves. -/
def mv (T : Nat) (n : Nat × Nat) : Nat × Nat := (n.1, T / 2 ^ n.1 + n.2)

theorem moved_loop (b e t k T : Nat) (hk : k ≤ 62) (hT : T = t * 2 ^ k) (hTe : T + e < 2 ^ 64) (hbe : b ≤ e) (hek : e ≤ 2 ^ k) (L : List (Nat × Nat)) (hG : G b e L) (hL : L.length ≤ 128) (rest : List (Nat × Nat)) :
    ∀ (Lp : List (Nat × Nat)), L = Lp ++ rest →
      Ev (fun r => laws_FnRangeNodesMoved.l0 r (b : Int) (e : Int) (k : Int) (t : Int) (L.map im) (Lp.map (fun n => im (mv T n))) (L.map im) ((L.map im).length : Int) (Lp.length : Int)) true := by
  have hp := pow_pos k
  have hT64 : t * 2 ^ k < 2 ^ 64 := by omega
  have hsh : shl .u64 (t : Int) (k : Int) = (T : Int) := by rw [shl_u64 t k (by omega) hT64, hT]
  have hwk : IntKind.u64.wrap (k : Int) = (k : Int) := u64_nat k (by omega)
  induction rest with
  | nil =>
    intro Lp hLp
    rw [List.append_nil] at hLp
    subst hLp
    refine Ev.step (fun r => laws_FnRangeNodesMoved.l0.eq_2 _ _ _ _ _ _ _ _ _ _) ?_
    have w1 : IntKind.u64.wrap ((T : Int) + (b : Int)) = ((T + b : Nat) : Int) := by rw [← Int.natCast_add]; exact u64_nat _ (by omega)
    have w2 : IntKind.u64.wrap ((T : Int) + (e : Int)) = ((T + e : Nat) : Int) := by rw [← Int.natCast_add]; exact u64_nat _ (by omega)
    simp only [List.length_map, if_neg (show ¬ ((L.length : Int) < (L.length : Int)) by omega), if_pos (show (0 : Int) ≤ (k : Int) by omega), hsh, w1, w2]
    obtain ⟨L', hG', hL', hE'⟩ := range_nodes (T + b) (T + e) (by omega) hTe
    obtain rfl := hG'.det (hG.shift (show 2 ^ k ∣ T from ⟨t, by rw [hT, Nat.mul_comm]⟩) hek)
    refine Ev.bind hE' ?_
    have e3 : (L.map fun n => (n.1, T / 2 ^ n.1 + n.2)).map im = L.map fun n => im (mv T n) := by rw [List.map_map]; rfl
    rw [e3]
    refine Ev.bind (same_self _ (by simp; omega)) ?_
    have e4 : (decide ((L.length : Int) > 0) == decide ((b : Int) < (e : Int))) = true := by
      have := hG.empty
      by_cases h : b = e
      · rw [this.2 h]; simp [h]
      · have h2 : ¬ L = [] := fun h3 => h (this.1 h3)
        have h3 : 0 < L.length := List.length_pos_iff.2 h2
        rw [decide_eq_true (by omega), decide_eq_true (by omega)]
        rfl
    simp only [if_true, e4]
    exact Ev.now _
  | cons n rest ih =>
    intro Lp hLp
    have hn : n ∈ L := by rw [hLp]; simp
    have hlv := hG.level_le hek n hn
    have hix := hG.index_le n hn
    have hE := ih (Lp ++ [n]) (by rw [hLp]; simp)
    refine Ev.step (fun r => laws_FnRangeNodesMoved.l0.eq_2 _ _ _ _ _ _ _ _ _ _) ?_
    have hlen : L.length = Lp.length + rest.length + 1 := by rw [hLp]; simp; omega
    have hrd : rd_T28 (L.map im) (Lp.length : Int) = im n := by
      have := rd_mid z28 (Lp.map im) (im n) (rest.map im)
      rw [List.length_map] at this
      rw [hLp, List.map_append, List.map_cons]
      exact this
    have hsr : shr .u64 (T : Int) ((n.1 : Nat) : Int) = ((T / 2 ^ n.1 : Nat) : Int) := shr_u64 T n.1 (by omega)
    have hTd : T / 2 ^ n.1 ≤ T := Nat.div_le_self _ _
    have w1 : IntKind.u64.wrap (((n.2 : Nat) : Int) + ((T / 2 ^ n.1 : Nat) : Int)) = ((T / 2 ^ n.1 + n.2 : Nat) : Int) := by
      rw [show (((n.2 : Nat) : Int) + ((T / 2 ^ n.1 : Nat) : Int)) = ((T / 2 ^ n.1 + n.2 : Nat) : Int) by omega]; exact u64_nat _ (by omega)
    simp only [List.length_map, hrd, if_pos (show (Lp.length : Int) < (L.length : Int) by omega), if_pos (show (0 : Int) ≤ (Lp.length : Int) by omega), hwk, im,
      if_neg (show ¬ (((n.1 : Nat) : Int) > (k : Int)) by omega), if_pos (show (0 : Int) ≤ (k : Int) by omega), if_pos (show (0 : Int) ≤ ((n.1 : Nat) : Int) by omega), if_pos (show Lp.length < 8796093022208 by omega), hsh, hsr, w1, wrap_nat Lp.length (by omega)]
    have e3 : ((Lp ++ [n]).length : Int) = ((Lp.length + 1 : Nat) : Int) := by simp
    rw [e3] at hE
    simpa [im, mv] using hE

theorem moved (a0 a1 a3 : Nat) (a2 : Int) (h0 : a0 < 2 ^ 64) (h1 : a1 < 2 ^ 64) (h3 : a3 < 2 ^ 64) (h2 : a2 < 9223372036854775808) : Ev (fun r => laws_FnRangeNodesMoved.f r (a0 : Int) (a1 : Int) a2 (a3 : Int)) true := by
  have out : Ev (fun r => laws_FnRangeNodesMoved.j0 r (a0 : Int) (a1 : Int) a2 (a3 : Int) true) true := by
    refine Ev.step (fun r => laws_FnRangeNodesMoved.j0.eq_2 _ _ _ _ _ _) ?_
    simp only [if_true]
    exact Ev.now _
  unfold laws_FnRangeNodesMoved.f
  by_cases c1 : a2 < 0
  · simp only [if_pos c1]; exact out
  by_cases c2 : a2 > 62
  · simp only [if_neg c1, if_pos c2]; exact out
  by_cases c3 : (a0 : Int) > (a1 : Int)
  · simp only [if_neg c1, if_neg c2, if_pos c3]; exact out
  obtain ⟨k, rfl⟩ : ∃ k : Nat, a2 = (k : Int) := ⟨a2.toNat, by omega⟩
  have hk : k ≤ 62 := by omega
  simp only [if_neg c1, if_neg c2, if_neg c3, if_pos (show (0 : Int) ≤ (k : Int) by omega), shl_one k (by omega)]
  by_cases c4 : (a1 : Int) > ((2 ^ k : Nat) : Int)
  · simp only [if_pos c4]; exact out
  simp only [if_neg c4]
  by_cases c5 : a3 * 2 ^ k < 2 ^ 64
  · rw [scalable_in a3 k (by omega) c5]
    simp only [Option.bind_some, if_true, shl_u64 a3 k (by omega) c5]
    refine Ev.step (fun r => laws_FnRangeNodesMoved.j0.eq_2 _ _ _ _ _ _) ?_
    by_cases c6 : a3 * 2 ^ k + a1 < 2 ^ 64
    · have w : IntKind.u64.wrap (((a3 * 2 ^ k : Nat) : Int) + (a1 : Int)) = ((a3 * 2 ^ k + a1 : Nat) : Int) := by rw [← Int.natCast_add]; exact u64_nat _ (by omega)
      simp only [w, decide_eq_false (show ¬ (((a3 * 2 ^ k + a1 : Nat) : Int) < (a1 : Int)) by omega), Bool.false_eq_true, if_false]
      obtain ⟨L, hG, hL, hE⟩ := range_nodes a0 a1 (by omega) h1
      refine Ev.bind hE ?_
      have h := moved_loop a0 a1 a3 k _ hk rfl (by omega) (by omega) (by omega) L hG hL L [] rfl
      simpa using h
    · have w : IntKind.u64.wrap (((a3 * 2 ^ k : Nat) : Int) + (a1 : Int)) = ((a3 * 2 ^ k + a1 - 2 ^ 64 : Nat) : Int) := by rw [IntKind.wrap_u64]; omega
      simp only [w, decide_eq_true (show (((a3 * 2 ^ k + a1 - 2 ^ 64 : Nat) : Int) < (a1 : Int)) by omega), if_true]
      exact Ev.now _
  · rw [scalable_out a3 k h3 (by omega) c5]
    simp only [Option.bind_some, Bool.false_eq_true, if_false]
    exact out

theorem nat_u64 {a : Int} (h : (Lit.int .u64 a).wf = true) : ∃ n : Nat, a = (n : Int) ∧ n < 2 ^ 64 := by
  have := bounds_u64 h
  exact ⟨a.toNat, by omega, by omega⟩
theorem moved_ev (a0 a1 a2 a3 : Int) (w0 : (Lit.int .u64 a0).wf = true) (w1 : (Lit.int .u64 a1).wf = true) (w2 : (Lit.int .i64 a2).wf = true) (w3 : (Lit.int .u64 a3).wf = true) :
    Ev (fun r => laws_FnRangeNodesMoved.f r a0 a1 a2 a3) true := by
  obtain ⟨a0, rfl, h0⟩ := nat_u64 w0
  obtain ⟨a1, rfl, h1⟩ := nat_u64 w1
  obtain ⟨a3, rfl, h3⟩ := nat_u64 w3
  have := bounds_i64 w2
  exact moved a0 a1 a3 a2 h0 h1 h3 (by omega)
end Go.Proofs.YtkkkaegocinkeaaDoor.Ranges
