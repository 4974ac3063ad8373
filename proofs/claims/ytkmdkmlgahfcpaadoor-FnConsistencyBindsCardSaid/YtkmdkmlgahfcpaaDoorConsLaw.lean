/- FnConsistencyBinds: the printed law answers true. -/
import Derived.Test.YtkmdkmlgahfcpaaDoorConsV
namespace Go.Proofs.YtkmdkmlgahfcpaaDoor.Log
open Go Go.RowKit Go.Proofs.YtkmdkmlgahfcpaaDoor.M Go.Proofs.YtkmdkmlgahfcpaaDoor.Nodes Go.Proofs.YtkmdkmlgahfcpaaDoorW.PrintMore Go.Proofs.YtkmdkmlgahfcpaaDoorW.PrintWords Go.Proofs.YtkmdkmlgahfcpaaDoorW.PrintLast
set_option linter.unusedVariables false
set_option linter.unusedSimpArgs false
section
variable {k0 k2 k5 : Int}
theorem chB_inj (h0 : ¬ k0 = 1) : ∀ (p p' : List (List Int)) (s s' : List Int), p.length = p'.length → tot p < 18446744073709551616 → tot p' < 18446744073709551616 → chB (hc k0 k2 k5) s p = chB (hc k0 k2 k5) s' p' → s = s' ∧ p = p'
  | [], [], s, s', _, _, _, h => ⟨h, rfl⟩
  | [], _ :: _, _, _, hl, _, _, _ => by simp at hl
  | _ :: _, [], _, _, hl, _, _, _ => by simp at hl
  | a :: p, a' :: p', s, s', hl, hb, hb', h => by
    rw [tot_cons] at hb hb'
    simp only [List.length_cons] at hl
    obtain ⟨h1, h2⟩ := chB_inj h0 p p' _ _ (by omega) (by omega) (by omega) h
    obtain ⟨h3, h4⟩ := hc_inj h0 (by omega) (by omega) h1
    exact ⟨h4, by rw [h2, h3]⟩
theorem chI_inj (h0 : ¬ k0 = 1) (i : Nat) : ∀ (p p' : List (List Int)) (j : Nat) (s s' : List Int), p.length = p'.length → s.length + tot p < 18446744073709551616 → s'.length + tot p' < 18446744073709551616 → chI (hc k0 k2 k5) i j s p = chI (hc k0 k2 k5) i j s' p' → s = s' ∧ p = p'
  | [], [], j, s, s', _, _, _, h => ⟨h, rfl⟩
  | [], _ :: _, _, _, _, hl, _, _, _ => by simp at hl
  | _ :: _, [], _, _, _, hl, _, _, _ => by simp at hl
  | a :: p, a' :: p', j, s, s', hl, hb, hb', h => by
    rw [tot_cons] at hb hb'
    simp only [List.length_cons] at hl
    simp only [chI] at h
    by_cases hbit : i / 2 ^ j % 2 = 0
    · rw [if_pos hbit, if_pos hbit] at h
      have l1 := hc_len k0 k2 k5 s a
      have l2 := hc_len k0 k2 k5 s' a'
      obtain ⟨h1, h2⟩ := chI_inj h0 i p p' _ _ _ (by omega) (by omega) (by omega) h
      obtain ⟨h3, h4⟩ := hc_inj h0 (by omega) (by omega) h1
      exact ⟨h3, by rw [h2, h4]⟩
    · rw [if_neg hbit, if_neg hbit] at h
      have l1 := hc_len k0 k2 k5 a s
      have l2 := hc_len k0 k2 k5 a' s'
      obtain ⟨h1, h2⟩ := chI_inj h0 i p p' _ _ _ (by omega) (by omega) (by omega) h
      obtain ⟨h3, h4⟩ := hc_inj h0 (by omega) (by omega) h1
      exact ⟨h4, by rw [h2, h3]⟩
theorem chB_byt : ∀ (p : List (List Int)) (s : List Int), Byt s → (∀ r ∈ p, Byt r) → Byt (chB (hc k0 k2 k5) s p)
  | [], s, hs, _ => hs
  | a :: p, s, hs, hp => chB_byt p _ (hc_byt _ _ (hp a (List.mem_cons_self ..)) hs) (fun r hr => hp r (List.mem_cons_of_mem _ hr))
theorem chI_byt (i : Nat) : ∀ (p : List (List Int)) (j : Nat) (s : List Int), Byt s → (∀ r ∈ p, Byt r) → Byt (chI (hc k0 k2 k5) i j s p)
  | [], j, s, hs, _ => hs
  | a :: p, j, s, hs, hp => by
    simp only [chI]
    refine chI_byt i p _ _ ?_ (fun r hr => hp r (List.mem_cons_of_mem _ hr))
    split
    · exact hc_byt _ _ hs (hp a (List.mem_cons_self ..))
    · exact hc_byt _ _ (hp a (List.mem_cons_self ..)) hs
theorem chR_byt (i : Nat) : ∀ (p : List (List Int)) (j : Nat) (s : List Int), Byt s → (∀ r ∈ p, Byt r) → Byt (chR (hc k0 k2 k5) i j s p)
  | [], j, s, hs, _ => hs
  | a :: p, j, s, hs, hp => by
    simp only [chR]
    refine chR_byt i p _ _ ?_ (fun r hr => hp r (List.mem_cons_of_mem _ hr))
    split
    · exact hc_byt _ _ (hp a (List.mem_cons_self ..)) hs
    · exact hs
theorem sameT_eq {a b : List Int} (ha : Byt a) (hb : Byt b) (h : sameT a b = true) : a = b := str_inj ha hb (by unfold sameT at h; exact eq_of_beq h)
theorem sameT_refl (a : List Int) : sameT a a = true := by unfold sameT; exact beq_self_eq_true _
/-- What is taken beside one second root is the same. -/
theorem vcV_binds (h0 : ¬ k0 = 1) (s n : Nat) (hs0 : 0 < s) (hn : n < 18446744073709551616) (P P' : List (List Int)) (r1 r1' r2 : List Int) (hP : ∀ r ∈ P, Byt r) (hP' : ∀ r ∈ P', Byt r) (hr1 : Byt r1) (hr1' : Byt r1') (hr2 : Byt r2)
    (hb : r1.length + tot P ≤ 70368744177664) (hb' : r1'.length + tot P' ≤ 70368744177664) (h : (vcV k0 k2 k5 s n P r1 r2).1 = 0) (h' : (vcV k0 k2 k5 s n P' r1' r2).1 = 0) : r1 = r1' ∧ P = P' := by
  unfold vcV at h h'
  by_cases c1 : n < s
  · rw [if_pos c1] at h; cases h
  · rw [if_neg c1] at h h'
    by_cases c2 : s = n
    · rw [if_pos c2] at h h'
      by_cases c3 : 0 < P.length
      · rw [if_pos c3] at h; cases h
      · by_cases c4 : 0 < P'.length
        · rw [if_pos c4] at h'; cases h'
        · rw [if_neg c3] at h
          rw [if_neg c4] at h'
          by_cases e1 : sameT r1 r2 = true
          · by_cases e2 : sameT r1' r2 = true
            · refine ⟨(sameT_eq hr1 hr2 e1).trans (sameT_eq hr1' hr2 e2).symm, ?_⟩
              rw [List.length_eq_zero_iff.1 (show P.length = 0 by omega), List.length_eq_zero_iff.1 (show P'.length = 0 by omega)]
            · rw [if_neg e2] at h'; cases h'
          · rw [if_neg e1] at h; cases h
    · rw [if_neg c2] at h h'
      by_cases c3 : P.length = (proofP s 0 n true).length
      · by_cases c4 : P'.length = (proofP s 0 n true).length
        · rw [if_pos c3] at h
          rw [if_pos c4] at h'
          obtain ⟨_, sd, R, hPe, hsd, hRl, hq1, hq2, hX⟩ := parts_of k0 k2 k5 s n hs0 (by omega) hn P r1 c3
          obtain ⟨_, sd', R', hPe', hsd', hRl', hq1', hq2', hX'⟩ := parts_of k0 k2 k5 s n hs0 (by omega) hn P' r1' c4
          rw [hX] at h
          rw [hX'] at h'
          dsimp only at h h'
          have hRb : ∀ r ∈ R, Byt r := fun r hr => hP r (by rw [hPe]; exact List.mem_append_right _ hr)
          have hRb' : ∀ r ∈ R', Byt r := fun r hr => hP' r (by rw [hPe']; exact List.mem_append_right _ hr)
          have hsb : Byt sd := by
            by_cases hp : s = 2 ^ Lib.ctz 64 s
            · rw [hsd hp]; exact hr1
            · refine hP sd ?_
              rw [hPe]
              refine List.mem_append_left _ ?_
              unfold pre
              rw [if_neg (fun h => hp h.2)]
              exact List.mem_singleton_self _
          have hsb' : Byt sd' := by
            by_cases hp : s = 2 ^ Lib.ctz 64 s
            · rw [hsd' hp]; exact hr1'
            · refine hP' sd' ?_
              rw [hPe']
              refine List.mem_append_left _ ?_
              unfold pre
              rw [if_neg (fun h => hp h.2)]
              exact List.mem_singleton_self _
          generalize inner (s - 1) n - Lib.ctz 64 s = a at *
          generalize (s - 1) / 2 ^ Lib.ctz 64 s = m at *
          have tb : ∀ (Q : List (List Int)), (∀ r ∈ Q, Byt r) → (∀ r ∈ Q.take a, Byt r) ∧ ∀ r ∈ Q.drop a, Byt r := fun Q hQ => ⟨fun r hr => hQ r (List.mem_of_mem_take hr), fun r hr => hQ r (List.mem_of_mem_drop hr)⟩
          have ts : ∀ (Q : List (List Int)), tot (Q.take a) + tot (Q.drop a) = tot Q := fun Q => by rw [← tot_append, List.take_append_drop]
          by_cases e1 : sameT (chB (hc k0 k2 k5) (chR (hc k0 k2 k5) m 0 sd (R.take a)) (R.drop a)) r1 = true
          · rw [if_pos e1] at h
            by_cases e2 : sameT (chB (hc k0 k2 k5) (chI (hc k0 k2 k5) m 0 sd (R.take a)) (R.drop a)) r2 = true
            · by_cases e1' : sameT (chB (hc k0 k2 k5) (chR (hc k0 k2 k5) m 0 sd' (R'.take a)) (R'.drop a)) r1' = true
              · rw [if_pos e1'] at h'
                by_cases e2' : sameT (chB (hc k0 k2 k5) (chI (hc k0 k2 k5) m 0 sd' (R'.take a)) (R'.drop a)) r2 = true
                · have q1 := sameT_eq (chB_byt _ _ (chR_byt m _ 0 _ hsb (tb R hRb).1) (tb R hRb).2) hr1 e1
                  have q2 := sameT_eq (chB_byt _ _ (chI_byt m _ 0 _ hsb (tb R hRb).1) (tb R hRb).2) hr2 e2
                  have q1' := sameT_eq (chB_byt _ _ (chR_byt m _ 0 _ hsb' (tb R' hRb').1) (tb R' hRb').2) hr1' e1'
                  have q2' := sameT_eq (chB_byt _ _ (chI_byt m _ 0 _ hsb' (tb R' hRb').1) (tb R' hRb').2) hr2 e2'
                  have t1 := ts R
                  have t2 := ts R'
                  obtain ⟨u1, u2⟩ := chB_inj h0 _ _ _ _ (by rw [List.length_drop, List.length_drop]; omega) (by omega) (by omega) (q2.trans q2'.symm)
                  obtain ⟨u3, u4⟩ := chI_inj h0 m _ _ 0 _ _ (by rw [List.length_take, List.length_take]; omega) (by omega) (by omega) u1
                  have u5 : R = R' := by rw [← List.take_append_drop a R, ← List.take_append_drop a R', u2, u4]
                  subst u3 u5
                  exact ⟨q1.symm.trans q1', hPe.trans hPe'.symm⟩
                · rw [if_neg e2'] at h'; cases h'
              · rw [if_neg e1'] at h'; cases h'
            · rw [if_neg e2] at h; cases h
          · rw [if_neg e1] at h; cases h
        · rw [if_neg c4] at h'; cases h'
      · rw [if_neg c3] at h; cases h
end
variable {k0 k1 k2 k3 k4 k5 : Int}
theorem cb_j0 (a1 a2 : Int) (P : List (List Int)) (r1 : List Int) (P' : List (List Int)) (r1' r2 : List Int) : Ev (fun k => laws_FnConsistencyBinds.j0 k a1 a2 P r1 P' r1' r2 true k0 k1 k2 k3 k4 k5) true := by
  refine Ev.step (fun k => laws_FnConsistencyBinds.j0.eq_2 _ _ _ _ _ _ _ _ _ _ _ _ _ _ _) ?_
  simp only [if_true]
  exact Ev.now _
theorem cb_j1 (a1 a2 : Int) (P : List (List Int)) (r1 : List Int) (P' : List (List Int)) (r1' r2 : List Int) : Ev (fun k => laws_FnConsistencyBinds.j1 k a1 a2 P r1 P' r1' r2 true k0 k1 k2 k3 k4 k5) true := by
  refine Ev.step (fun k => laws_FnConsistencyBinds.j1.eq_2 _ _ _ _ _ _ _ _ _ _ _ _ _ _ _) ?_
  simp only [if_true]
  exact Ev.now _
theorem consBinds_ev (a1 a2 : Int) (w1 : (Lit.int .u64 a1).wf = true) (w2 : (Lit.int .u64 a2).wf = true) (P : List (List Int)) (r1 : List Int) (P' : List (List Int)) (r1' r2 : List Int)
    (hP : ∀ r ∈ P, ∀ y ∈ r, 0 ≤ y ∧ y < 256) (hr1 : ∀ y ∈ r1, 0 ≤ y ∧ y < 256) (hP' : ∀ r ∈ P', ∀ y ∈ r, 0 ≤ y ∧ y < 256) (hr1' : ∀ y ∈ r1', 0 ≤ y ∧ y < 256) (hr2 : ∀ y ∈ r2, 0 ≤ y ∧ y < 256) :
    Ev (fun k => laws_FnConsistencyBinds.f k k0 k1 k2 k3 k4 k5 a1 a2 P r1 P' r1' r2) true := by
  obtain ⟨s, rfl, hs⟩ := nat_u64 w1
  obtain ⟨n, rfl, hn⟩ := nat_u64 w2
  have hf : ¬ (false = true) := by decide
  unfold laws_FnConsistencyBinds.f
  obtain ⟨b1, h1, f1⟩ := fits_ev P
  refine Ev.bind h1 ?_
  cases b1 with
  | false => simp only [if_neg hf]; exact cb_j0 _ _ _ _ _ _ _
  | true =>
  simp only [if_true]
  by_cases g1 : (r1.length : Int) > 2147483647
  · simp only [if_pos g1]; exact cb_j0 _ _ _ _ _ _ _
  simp only [if_neg g1]
  obtain ⟨b2, h2, f2⟩ := fits_ev P'
  refine Ev.bind h2 ?_
  cases b2 with
  | false => simp only [if_neg hf]; exact cb_j0 _ _ _ _ _ _ _
  | true =>
  simp only [if_true]
  by_cases g2 : (r1'.length : Int) > 2147483647
  · simp only [if_pos g2]; exact cb_j0 _ _ _ _ _ _ _
  simp only [if_neg g2]
  by_cases g3 : (r2.length : Int) > 2147483647
  · rw [decide_eq_true g3]; exact cb_j0 _ _ _ _ _ _ _
  rw [decide_eq_false g3]
  refine Ev.step (fun k => laws_FnConsistencyBinds.j0.eq_2 _ _ _ _ _ _ _ _ _ _ _ _ _ _ _) ?_
  unfold spec_Terms.f
  simp only [if_neg hf, Option.bind_some]
  by_cases h0 : k0 = 1
  · simp only [show (k0 != 1) = false by rw [h0]; rfl, if_neg hf]
    exact cb_j1 _ _ _ _ _ _ _
  simp only [show (k0 != 1) = true by rw [bne_iff_ne]; exact h0, if_true]
  obtain ⟨b3, h3, f3⟩ := small_ev P (f1 rfl).1
  refine Ev.bind h3 ?_
  cases b3 with
  | false => simp only [if_neg hf]; exact cb_j1 _ _ _ _ _ _ _
  | true =>
  simp only [if_true]
  obtain ⟨b4, h4, f4⟩ := small_ev P' (f2 rfl).1
  refine Ev.bind h4 ?_
  cases b4 with
  | false => simp only [if_neg hf]; exact cb_j1 _ _ _ _ _ _ _
  | true =>
  simp only [if_true]
  by_cases g4 : (r1.length : Int) > 100000
  · simp only [if_pos g4]; exact cb_j1 _ _ _ _ _ _ _
  simp only [if_neg g4]
  by_cases g5 : (r1'.length : Int) > 100000
  · simp only [if_pos g5]; exact cb_j1 _ _ _ _ _ _ _
  simp only [if_neg g5]
  by_cases g6 : s = 0
  · rw [show ((s : Int) == 0) = true by rw [beq_iff_eq]; omega]
    exact cb_j1 _ _ _ _ _ _ _
  rw [show ((s : Int) == 0) = false by rw [beq_eq_false_iff_ne]; omega]
  refine Ev.step (fun k => laws_FnConsistencyBinds.j1.eq_2 _ _ _ _ _ _ _ _ _ _ _ _ _ _ _) ?_
  simp only [if_neg hf]
  have hs1 := f3 rfl
  have hs2 := f4 rfl
  have t1 := tot_le 5000 P hs1.2
  have t2 : P.length * (5000 + 9) ≤ 300 * (5000 + 9) := Nat.mul_le_mul_right _ hs1.1
  have t3 := tot_le 5000 P' hs2.2
  have t4 : P'.length * (5000 + 9) ≤ 300 * (5000 + 9) := Nat.mul_le_mul_right _ hs2.1
  have E1 := implCons_ev k0 k1 k2 k3 k4 k5 s n (by omega) hs hn P r1 r2 hs1.fit (by omega) (by omega) (by omega)
  have E2 := implCons_ev k0 k1 k2 k3 k4 k5 s n (by omega) hs hn P' r1' r2 hs2.fit (by omega) (by omega) (by omega)
  have E3 := specCons_ev k0 k1 k2 k3 k4 k5 s n (by omega) hs hn P r1 r2 (by omega)
  have hbind := vcV_binds (k2 := k2) (k5 := k5) h0 s n (by omega) hn P P' r1 r1' r2 hP hP' hr1 hr1' hr2 (by omega) (by omega)
  generalize vcV k0 k2 k5 s n P r1 r2 = A at *
  generalize vcV k0 k2 k5 s n P' r1' r2 = B at *
  refine Ev.bind E1 (Ev.bind E2 (Ev.bind E3 ?_))
  simp only [if_true]
  by_cases q1 : A.1 = 0
  · simp only [if_pos q1]
    by_cases q2 : B.1 = 0
    · simp only [if_pos q2]
      obtain ⟨rfl, rfl⟩ := hbind q1 q2
      unfold spec_SameText.f
      simp only [Option.bind_some, beq_self_eq_true, if_true]
      obtain ⟨r, hr, hri⟩ := same_ev P P hP hP (f1 rfl).1
      rw [hri.2 rfl] at hr
      exact Ev.bind hr (Ev.now _)
    · simp only [if_neg q2]; exact Ev.now _
  · simp only [if_neg q1]; exact Ev.now _
end Go.Proofs.YtkmdkmlgahfcpaaDoor.Log
