/- The answers of FnFieldMultiplies, FnFieldPowers and FnFieldHalves. -/
import Derived.Test.YtipbhclpeogcmaaDoorFieldLaw
namespace Go.Proofs.YtipbhclpeogcmaaDoor.Field
open Go Go.RowKit Go.Proofs.YtipbhclpeogcmaaDoor.Q Go.Proofs.YtipbhclpeogcmaaDoorW.PrintMore Go.Proofs.YtipbhclpeogcmaaDoorW.PrintWords Go.Proofs.YtipbhclpeogcmaaDoorW.PrintLast
set_option linter.unusedVariables false
set_option linter.unusedSimpArgs false

theorem galMultiply_f (a b : Nat) (ha : a < 256) (hb : b < 256) : reedsolomon_galMultiply.f (a : Int) (b : Int) = some ((gm a b : Nat) : Int) := by
  unfold reedsolomon_galMultiply.f
  rw [if_pos (by omega), Int.toNat_natCast, Int.toNat_natCast]
theorem impl_Mul_f (a b : Nat) (ha : a < 256) (hb : b < 256) : impl_Mul.f (a : Int) (b : Int) = some ((gm a b : Nat) : Int) := by
  unfold impl_Mul.f reedsolomon_DoorMultiply.f
  rw [galMultiply_f a b ha hb]
  rfl
theorem impl_Add_f (a b : Int) : impl_Add.f a b = some (bits .xor .u8 a b) := rfl
theorem multiplies (a b : Nat) (ha : a < 256) (hb : b < 256) : Ev (fun k => laws_FnFieldMultiplies.f k (a : Int) (b : Int)) true := by
  unfold laws_FnFieldMultiplies.f
  simp only [impl_Mul_f a b ha hb, impl_Add_f, Option.bind_some]
  refine Ev.bind (mul_ev a b ha hb) ?_
  simp only [if_true]
  rw [beq_self_eq_true]
  exact Ev.now _
theorem nat_u8 {a : Int} (h : (Lit.int .u8 a).wf = true) : ∃ n : Nat, a = (n : Int) ∧ n < 256 := by
  have h1 : 0 ≤ a ∧ a ≤ 255 := by
    simp [Lit.wf, IntKind.min, IntKind.max, IntKind.signed, IntKind.bits] at h
    omega
  exact ⟨a.toNat, by omega, by omega⟩
theorem multiplies_ev (a0 a1 : Int) (w0 : (Lit.int .u8 a0).wf = true) (w1 : (Lit.int .u8 a1).wf = true) : Ev (fun k => laws_FnFieldMultiplies.f k a0 a1) true := by
  obtain ⟨a, rfl, ha⟩ := nat_u8 w0
  obtain ⟨b, rfl, hb⟩ := nat_u8 w1
  exact multiplies a b ha hb

/-! ### powers -/
theorem ex_lt' (q : Nat) (h : q < 256) : ex q < 256 := ex_lt ⟨q, h⟩
theorem ge_lt (a n : Nat) : ge a n < 256 := by
  unfold ge
  split
  · decide
  · split
    · decide
    · exact ex_lt' _ (by omega)
theorem lg_ex : ∀ i : Fin 255, lg (ex i.val) = i.val ∧ ex i.val ≠ 0 := by decide +kernel
theorem ex_lg : ∀ a : Fin 256, a.val = 0 ∨ ex (lg a.val) = a.val := by decide +kernel
theorem one_mul : ∀ a : Fin 256, gm 1 a.val = a.val := by decide +kernel
theorem ge_zero_right (a : Nat) : ge a 0 = 1 := by unfold ge; rw [if_pos rfl]
theorem ge_period (a n : Nat) (h0 : a ≠ 0) (h : a < 256) : ge a n = ge a (n % 255) := by
  have e0 : ex 0 = 1 := by decide +kernel
  unfold ge
  simp only [if_neg h0]
  have e : lg a * n % 255 = lg a * (n % 255) % 255 := by rw [Nat.mul_mod, Nat.mul_mod (lg a) (n % 255), Nat.mod_mod]
  by_cases h1 : n = 0
  · subst h1; rfl
  · rw [if_neg h1]
    by_cases h2 : n % 255 = 0
    · rw [if_pos h2, e, h2, Nat.mul_zero, Nat.zero_mod, e0]
    · rw [if_neg h2, e]
theorem ge_succ (a n : Nat) (ha : a < 256) : ge a (n + 1) = gm (ge a n) a := by
  by_cases h0 : a = 0
  · subst h0
    unfold ge gm
    simp
  · have hl : lg a ≤ 254 := by
      have := lg_le ⟨a, ha⟩
      dsimp only at this
      omega
    by_cases hn : n = 0
    · subst hn
      have h1 : gm 1 a = a := one_mul ⟨a, ha⟩
      rw [ge_zero_right, h1]
      unfold ge
      rw [if_neg (by decide), if_neg h0, Nat.mul_one, Nat.mod_eq_of_lt (by omega)]
      have : a = 0 ∨ ex (lg a) = a := ex_lg ⟨a, ha⟩
      omega
    · unfold ge
      rw [if_neg (by omega), if_neg h0, if_neg hn, if_neg h0]
      have hq : lg a * n % 255 < 255 := Nat.mod_lt _ (by decide)
      have e : lg a * (n + 1) % 255 = (lg a * n % 255 + lg a) % 255 := by rw [Nat.mul_succ, Nat.mod_add_mod]
      rw [e]
      generalize lg a * n % 255 = q at *
      have hx := lg_ex ⟨q, hq⟩
      dsimp only at hx
      unfold gm
      rw [if_neg (by omega), hx.1]
      have e2 : (q + lg a) % 255 = if 255 ≤ q + lg a then q + lg a - 255 else q + lg a := by split <;> omega
      rw [e2]
theorem gm_comm (a b : Nat) : gm a b = gm b a := by
  unfold gm
  rw [Nat.add_comm (lg a) (lg b)]
  by_cases h : a = 0 ∨ b = 0
  · have h2 : b = 0 ∨ a = 0 := by omega
    rw [if_pos h, if_pos h2]
  · have h2 : ¬ (b = 0 ∨ a = 0) := by omega
    simp only [if_neg h, if_neg h2]
theorem pow_loop (a : Nat) (ha : a < 256) : ∀ n m : Nat, n < 300 → Ev (fun k => spec_Pow.l0 k (a : Int) (n : Int) ((ge a m : Nat) : Int)) ((ge a (m + n) : Nat) : Int)
  | 0, m, h => by
    refine Ev.step (fun k => spec_Pow.l0.eq_2 _ _ _ _) ?_
    have c1 : ¬ ((0 : Nat) : Int) > 0 := by decide
    simp only [if_neg c1]
    exact Ev.now _
  | n + 1, m, h => by
    refine Ev.step (fun k => spec_Pow.l0.eq_2 _ _ _ _) ?_
    have c1 : ((n + 1 : Nat) : Int) > 0 := by omega
    simp only [if_pos c1, wrap_pred (n + 1) (by omega) (by omega)]
    refine Ev.bind (mul_ev _ a (ge_lt a m) ha) ?_
    rw [← ge_succ a m ha]
    have := pow_loop a ha n (m + 1) (by omega)
    rw [show m + 1 + n = m + (n + 1) by omega] at this
    exact this
theorem pow_ev (a n : Nat) (ha : a < 256) (hn : n < 300) : Ev (fun k => spec_Pow.f k (a : Int) (n : Int)) ((ge a n : Nat) : Int) := by
  have h := pow_loop a ha n 0 hn
  rw [Nat.zero_add, ge_zero_right] at h
  exact h
theorem galExp_f (a n : Nat) (ha : a < 256) (hn : n ≤ 100000) : reedsolomon_galExp.f (a : Int) (n : Int) = some ((ge a n : Nat) : Int) := by
  unfold reedsolomon_galExp.f
  rw [if_pos (by omega), Int.toNat_natCast, Int.toNat_natCast]
theorem impl_Exp_out (a n : Int) (h : n < 0 ∨ n > 100000) : impl_Exp.f a n = some (0, false) := by
  unfold impl_Exp.f
  split
  · rfl
  · rw [if_pos (by omega)]
theorem impl_Exp_in (a n : Nat) (ha : a < 256) (hn : n ≤ 100000) : impl_Exp.f (a : Int) (n : Int) = some (((ge a n : Nat) : Int), true) := by
  unfold impl_Exp.f reedsolomon_DoorExp.f
  rw [if_neg (by omega), if_neg (by omega), galExp_f a n ha hn]
  rfl
theorem powers_ev (a0 a1 : Int) (w0 : (Lit.int .u8 a0).wf = true) (w1 : (Lit.int .i64 a1).wf = true) : Ev (fun k => laws_FnFieldPowers.f k a0 a1) true := by
  obtain ⟨a, rfl, ha⟩ := nat_u8 w0
  unfold laws_FnFieldPowers.f
  by_cases ho : a1 < 0 ∨ a1 > 100000
  · simp only [impl_Exp_out _ _ ho, Option.bind_some]
    by_cases h0 : a1 < 0
    · simp only [if_pos h0]
      refine Ev.step (fun k => laws_FnFieldPowers.j0.eq_2 _ _ _ _ _ _) ?_
      simp only [if_true, Bool.not_false]
      exact Ev.now _
    · have h1 : decide (a1 > 100000) = true := by rw [decide_eq_true_eq]; omega
      simp only [if_neg h0, h1]
      refine Ev.step (fun k => laws_FnFieldPowers.j0.eq_2 _ _ _ _ _ _) ?_
      simp only [if_true, Bool.not_false]
      exact Ev.now _
  · obtain ⟨n, rfl⟩ : ∃ n : Nat, a1 = (n : Int) := ⟨a1.toNat, by omega⟩
    have h0 : ¬ (n : Int) < 0 := by omega
    have h1 : decide ((n : Int) > 100000) = false := by rw [decide_eq_false_iff_not]; omega
    simp only [impl_Exp_in a n ha (by omega), Option.bind_some, if_neg h0, h1]
    refine Ev.step (fun k => laws_FnFieldPowers.j0.eq_2 _ _ _ _ _ _) ?_
    have hf : ¬ (false = true) := by decide
    simp only [if_neg hf, if_true]
    by_cases hz : a = 0
    · subst hz
      have c : ((0 : Nat) : Int) = 0 := rfl
      simp only [if_pos c]
      have hm : mn (n : Int) 1 = ((if n = 0 then 0 else 1 : Nat) : Int) := by
        unfold mn
        split <;> split <;> omega
      rw [hm]
      refine Ev.bind (pow_ev 0 _ (by decide) (by split <;> decide)) ?_
      have e : ge 0 n = ge 0 (if n = 0 then 0 else 1) := by
        unfold ge
        by_cases hn : n = 0
        · simp [hn]
        · simp [hn]
      rw [← e, beq_self_eq_true]
      exact Ev.now _
    · have c : ¬ (a : Int) = 0 := by omega
      simp only [if_neg c]
      have hm : Int.tmod (n : Int) 255 = ((n % 255 : Nat) : Int) := rfl
      rw [hm]
      refine Ev.bind (pow_ev a _ ha (by omega)) ?_
      rw [← ge_period a n hz ha, beq_self_eq_true]
      exact Ev.now _
end Go.Proofs.YtipbhclpeogcmaaDoor.Field
