/- FnCache's plain law: the law answers yes for all arguments. -/
import Derived.Test.YtlfmplhleglibaaDoorLawC
import Derived.Test.YtlfmplhleglibaaDoorLawP
namespace Go.Proofs.YtlfmplhleglibaaDoor.MatC
open Go Go.RowKit Go.Proofs.YtlfmplhleglibaaDoor.M Go.Proofs.YtlfmplhleglibaaDoorW.PrintMore Go.Proofs.YtlfmplhleglibaaDoorW.PrintWords Go.Proofs.YtlfmplhleglibaaDoorW.PrintLast
set_option linter.unusedVariables false
set_option linter.unusedSimpArgs false

theorem want_loop {sh : Int} (x0 : Int) (l : List S27) (A : List S34) (x10 x78 x79 : Int) (s : S27) (Y : List S27) (hY : Y.length ≤ 60) (hfit : FitS s) (h10 : 0 ≤ x10) (hA : x10 < (A.length : Int))
    (hnext : Ev (fun k => laws_FnCache.l1 k x0 l A l x78 (wrap64 (x79 + 1))) true) :
    ∀ (rest pre : List S27) (x : List (List Int)), Y = pre ++ rest → (∀ t ∈ rest, Good sh t) → (rd_T34 A x10).f1 = rest.foldl (wS s) x → Small (rd_T34 A x10).f1 →
    Ev (fun k => laws_FnCache.l2 k x0 l A x10 x l x78 x79 Y (Y.length : Int) (pre.length : Int) s.f0 s.f1 s.f2) true
  | [], pre, x, h, hg, he, hs => by
    refine Ev.step (fun k => laws_FnCache.l2.eq_2 _ _ _ _ _ _ _ _ _ _ _ _ _ _ _) ?_
    rw [List.append_nil] at h
    subst h
    have c1 : ¬ (Y.length : Int) < (Y.length : Int) := by omega
    simp only [if_neg c1, if_pos h10, if_pos hA]
    rw [List.foldl_nil] at he
    have e := eq_self _ hs
    rw [he] at e
    rw [he]
    refine Ev.bind e ?_
    simp only [if_true]
    exact hnext
  | t :: rest, pre, x, h, hg, he, hs => by
    refine Ev.step (fun k => laws_FnCache.l2.eq_2 _ _ _ _ _ _ _ _ _ _ _ _ _ _ _) ?_
    have hlen : Y.length = pre.length + (rest.length + 1) := by rw [h, List.length_append, List.length_cons]
    have c1 : (pre.length : Int) < (Y.length : Int) := by omega
    have c2 : 0 ≤ (pre.length : Int) := by omega
    have hy : Y.getD pre.length z27 = t := by rw [h]; exact getD27 pre t rest
    have gt := hg t (List.mem_cons_self ..)
    have ih := want_loop x0 l A x10 x78 x79 s Y hY hfit h10 hA hnext rest (pre ++ [t]) (wS s x t) (by rw [h, List.append_assoc]; rfl) (fun u hu => hg u (List.mem_cons_of_mem _ hu)) (by rw [he, List.foldl_cons]) hs
    rw [List.length_append, List.length_singleton] at ih
    have er : rd_T27 Y (pre.length : Int) = t := by unfold rd_T27; rw [toNat_cast]; exact hy
    simp only [er, if_pos c1, if_pos c2, wrap_nat pre.length (by omega)]
    have hno : ¬ (t.f0 = true ∧ s.f1 ≠ [] ∧ t.f1 = s.f1 ∧ sqr t.f2 = true) → wS s x t = x := fun h => by unfold wS; rw [if_neg h]
    by_cases h0 : t.f0 = true
    · simp only [if_pos h0]
      by_cases h1 : (s.f1.length : Int) > 0
      · simp only [if_pos h1]
        have h1' : s.f1 ≠ [] := by intro h; rw [h, List.length_nil] at h1; omega
        refine Ev.bind (same_ev t.f1 s.f1 gt.fit.1) ?_
        by_cases h2 : t.f1 = s.f1
        · obtain ⟨m1, m2, m3⟩ := chk_spec (gt.mat h0)
          have d1 : 0 < (t.f2.length : Int) := by omega
          have hd : decide (t.f1 = s.f1) = true := decide_eq_true h2
          simp only [if_pos hd, if_pos d1]
          by_cases h3 : t.f2.length = (t.f2.getD 0 []).length
          · have d2 : (t.f2.length : Int) = ((rd_L1 t.f2 0).length : Int) := by show (t.f2.length : Int) = ((t.f2.getD 0 []).length : Int); omega
            simp only [if_pos d2]
            have ew : wS s x t = t.f2 := by unfold wS sqr; rw [if_pos ⟨h0, h1', h2, decide_eq_true h3⟩]
            rw [ew] at ih
            exact ih
          · have d2 : ¬ (t.f2.length : Int) = ((rd_L1 t.f2 0).length : Int) := by show ¬ (t.f2.length : Int) = ((t.f2.getD 0 []).length : Int); omega
            simp only [if_neg d2]
            rw [hno (fun h => h3 (of_decide_eq_true h.2.2.2))] at ih
            exact ih
        · have hd : ¬ decide (t.f1 = s.f1) = true := by rw [decide_eq_true_eq]; exact h2
          simp only [if_neg hd]
          rw [hno (fun h => h2 h.2.2.1)] at ih
          exact ih
      · simp only [if_neg h1]
        rw [hno (fun h => h.2.1 (by rw [← List.length_eq_zero_iff]; omega))] at ih
        exact ih
    · simp only [if_neg h0]
      rw [hno (fun h => h0 h.1)] at ih
      exact ih
theorem round_ev {sh : Int} (n : Nat) (hn : n ≤ 12) (l pre rest : List S27) (s : S27) (hl : l.length ≤ 60) (h : l = pre ++ s :: rest) (hg : ∀ t ∈ l, Good sh t) (x12 : Bool) (h12 : s.f0 = true → x12 = takes s)
    (hnext : Ev (fun k => laws_FnCache.l1 k (n : Int) l (ans (M0 n) l) l (l.length : Int) (wrap64 ((pre.length : Int) + 1))) true) :
    Ev (fun k => laws_FnCache.j3 k (n : Int) l (ans (M0 n) l) (pre.length : Int) x12 l (l.length : Int) (pre.length : Int) s.f0 s.f1 s.f2) true := by
  refine Ev.step (fun k => laws_FnCache.j3.eq_2 _ _ _ _ _ _ _ _ _ _ _ _) ?_
  have hlen : l.length = pre.length + (rest.length + 1) := by rw [h, List.length_append, List.length_cons]
  have hal := ans_length (M0 n) l
  have c2 : 0 ≤ (pre.length : Int) := by omega
  have c3 : (pre.length : Int) < ((ans (M0 n) l).length : Int) := by omega
  have ea : rd_T34 (ans (M0 n) l) (pre.length : Int) = an (pre.foldl stM (M0 n)) s := by
    unfold rd_T34
    rw [toNat_cast]
    have := ans_at pre s rest (M0 n)
    rw [← h] at this
    exact this
  by_cases h0 : s.f0 = true
  · simp only [if_pos h0, if_pos c2, if_pos c3]
    have e : ((rd_T34 (ans (M0 n) l) (pre.length : Int)).f0 != x12) = false := by
      rw [ea, h12 h0]
      unfold an
      rw [if_pos h0]
      exact bne_self_eq_false _
    have e' : ¬ ((rd_T34 (ans (M0 n) l) (pre.length : Int)).f0 != x12) = true := by rw [e]; exact Bool.false_ne_true
    simp only [if_neg e']
    exact hnext
  · simp only [if_neg h0]
    have hs := hg s (by rw [h]; exact List.mem_append_right _ (List.mem_cons_self ..))
    have hgp : ∀ t ∈ pre, Good sh t := fun t ht => hg t (by rw [h]; exact List.mem_append_left _ ht)
    have hk := fold_kept pre (M0 n) hgp (M0_kept n (by omega))
    have e1 : (rd_T34 (ans (M0 n) l) (pre.length : Int)).f1 = (pre.foldl stM (M0 n)) (toN s.f1) := by
      rw [ea]
      unfold an
      rw [if_neg h0]
    have fin : ∀ x, x = M0 n (toN s.f1) → Ev (fun k => laws_FnCache.j4 k (n : Int) l (ans (M0 n) l) (pre.length : Int) x l (l.length : Int) (pre.length : Int) s.f0 s.f1 s.f2) true := by
      intro x hx
      refine Ev.step (fun k => laws_FnCache.j4.eq_2 _ _ _ _ _ _ _ _ _ _ _ _) ?_
      have c4 : (pre.length : Int) ≤ (l.length : Int) := by omega
      have et : l.take pre.length = pre := by rw [h]; exact List.take_left' rfl
      simp only [if_pos c2, if_pos c4, toNat_cast, et, Option.bind_some]
      have := want_loop (n : Int) l (ans (M0 n) l) (pre.length : Int) (l.length : Int) (pre.length : Int) s pre (by omega) hs.fit c2 c3 hnext pre [] x rfl hgp (by rw [e1, hx, want_eq s hs pre (M0 n) hgp]) (by rw [e1]; exact hk _)
      exact this
    by_cases h1 : (s.f1.length : Int) = 0
    · simp only [if_pos h1]
      refine Ev.bind (unit_ev n (by omega)) (fin _ ?_)
      have h2 : s.f1 = [] := by rw [← List.length_eq_zero_iff]; omega
      rw [h2]
      rfl
    · simp only [if_neg h1]
      refine fin _ ?_
      have h2 : toN s.f1 ≠ [] := (toN_nil _).mpr (by intro h; rw [h, List.length_nil] at h1; exact h1 rfl)
      unfold M0
      rw [if_neg h2]
theorem answers_loop {sh : Int} (n : Nat) (hn : n ≤ 12) (l : List S27) (hl : l.length ≤ 60) (hg : ∀ t ∈ l, Good sh t) : ∀ (rest pre : List S27), l = pre ++ rest → Ev (fun k => laws_FnCache.l1 k (n : Int) l (ans (M0 n) l) l (l.length : Int) (pre.length : Int)) true
  | [], pre, h => by
    refine Ev.step (fun k => laws_FnCache.l1.eq_2 _ _ _ _ _ _ _) ?_
    rw [List.append_nil] at h
    have c1 : ¬ (pre.length : Int) < (l.length : Int) := by rw [h]; omega
    simp only [if_neg c1]
    exact Ev.now _
  | s :: rest, pre, h => by
    have ih := answers_loop n hn l hl hg rest (pre ++ [s]) (by rw [h, List.append_assoc]; rfl)
    rw [List.length_append, List.length_singleton] at ih
    have hlen : l.length = pre.length + (rest.length + 1) := by rw [h, List.length_append, List.length_cons]
    have c1 : (pre.length : Int) < (l.length : Int) := by omega
    have c2 : 0 ≤ (pre.length : Int) := by omega
    have hy : l.getD pre.length z27 = s := by rw [h]; exact getD27 pre s rest
    have er : rd_T27 l (pre.length : Int) = s := by unfold rd_T27; rw [toNat_cast]; exact hy
    rw [← wrap_nat pre.length (by omega)] at ih
    have hr := fun x12 h12 => round_ev n hn l pre rest s hl h hg x12 h12 ih
    have hs := hg s (by rw [h]; exact List.mem_append_right _ (List.mem_cons_self ..))
    refine Ev.step (fun k => laws_FnCache.l1.eq_2 _ _ _ _ _ _ _) ?_
    simp only [er, if_pos c1, if_pos c2]
    by_cases h1 : (s.f1.length : Int) > 0
    · have h1' : s.f1 ≠ [] := by intro h; rw [h, List.length_nil] at h1; omega
      simp only [if_pos h1]
      by_cases h2 : (s.f2.length : Int) > 0
      · have h2' : 0 < (s.f2.length : Int) := h2
        simp only [if_pos h2, if_pos h2']
        refine hr _ (fun h0 => ?_)
        unfold takes sqr
        rw [h0, decide_eq_true h1', Bool.true_and, Bool.true_and, Bool.eq_iff_iff, beq_iff_eq, decide_eq_true_eq]
        show (s.f2.length : Int) = ((s.f2.getD 0 []).length : Int) ↔ _
        omega
      · simp only [if_neg h2]
        refine hr _ (fun h0 => ?_)
        obtain ⟨m1, m2, m3⟩ := chk_spec (hs.mat h0)
        omega
    · simp only [if_neg h1]
      refine hr _ (fun h0 => ?_)
      unfold takes
      have h1' : ¬ s.f1 ≠ [] := by
        intro h
        apply h
        rw [← List.length_eq_zero_iff]
        omega
      rw [decide_eq_false h1', Bool.and_false, Bool.false_and]
theorem steps_loop (n p : Nat) (hn : 1 ≤ n) (hn2 : n ≤ 12) (hp : 1 ≤ p) (hp2 : p ≤ 12) (l : List S27) (hl : l.length ≤ 60) (hf : ∀ s ∈ l, FitS s) : ∀ (rest pre : List S27), l = pre ++ rest → (∀ t ∈ pre, Good ((n : Int) + (p : Int)) t) →
    Ev (fun k => laws_FnCache.l0 k (n : Int) (p : Int) l l (l.length : Int) (pre.length : Int)) true
  | [], pre, h, hg => by
    refine Ev.step (fun k => laws_FnCache.l0.eq_2 _ _ _ _ _ _ _) ?_
    rw [List.append_nil] at h
    subst h
    have c1 : ¬ (l.length : Int) < (l.length : Int) := by omega
    simp only [if_neg c1]
    refine Ev.bind (script_ev n p hn hn2 hp hp2 l hl hg) ?_
    simp only [ans_length, if_true]
    exact answers_loop n hn2 l hl hg l [] rfl
  | s :: rest, pre, h, hg => by
    refine Ev.step (fun k => laws_FnCache.l0.eq_2 _ _ _ _ _ _ _) ?_
    have hlen : l.length = pre.length + (rest.length + 1) := by rw [h, List.length_append, List.length_cons]
    have c1 : (pre.length : Int) < (l.length : Int) := by omega
    have c2 : 0 ≤ (pre.length : Int) := by omega
    have hy : l.getD pre.length z27 = s := by rw [h]; exact getD27 pre s rest
    have er : rd_T27 l (pre.length : Int) = s := by unfold rd_T27; rw [toNat_cast]; exact hy
    have ew : wrap64 ((n : Int) + (p : Int)) = (n : Int) + (p : Int) := by unfold wrap64; omega
    have fs := hf s (by rw [h]; exact List.mem_append_right _ (List.mem_cons_self ..))
    have ih : Good ((n : Int) + (p : Int)) s → Ev (fun k => laws_FnCache.l0 k (n : Int) (p : Int) l l (l.length : Int) ((pre.length + 1 : Nat) : Int)) true := by
      intro hs
      have := steps_loop n p hn hn2 hp hp2 l hl hf rest (pre ++ [s]) (by rw [h, List.append_assoc]; rfl) (fun t ht => by
        rcases List.mem_append.mp ht with ht | ht
        · exact hg t ht
        · rw [List.mem_singleton.mp ht]; exact hs)
      rw [List.length_append, List.length_singleton] at this
      exact this
    simp only [er, if_pos c1, if_pos c2, ew, wrap_nat pre.length (by omega)]
    obtain ⟨r, hr, hR⟩ := distinct_ev (L := s.f1) (sh := (n : Int) + (p : Int)) fs.1
    refine Ev.bind hr ?_
    cases r with
    | false =>
      simp only [if_neg Bool.false_ne_true]
      exact Ev.now _
    | true =>
      simp only [if_true]
      by_cases h1 : (s.f2.length : Int) > 12
      · simp only [if_pos h1]
        exact Ev.now _
      · simp only [if_neg h1]
        by_cases h0 : s.f0 = true
        · simp only [if_pos h0]
          refine Ev.bind (rect_ev s.f2 (by omega)) ?_
          by_cases hc : chk s.f2 = true
          · simp only [if_pos hc]
            exact ih ⟨fs, hR rfl, by omega, fun _ => hc⟩
          · simp only [if_neg hc]
            exact Ev.now _
        · simp only [if_neg h0]
          exact ih ⟨fs, hR rfl, by omega, fun h => absurd h h0⟩
theorem cache_ev (a0 a1 : Int) (l : List S27) : Ev (fun k => laws_FnCache.f k a0 a1 l) true := by
  have jt : Ev (fun k => laws_FnCache.j0 k a0 a1 l true) true := by
    refine Ev.step (fun k => laws_FnCache.j0.eq_2 _ _ _ _ _) ?_
    simp only [if_true]
    exact Ev.now _
  unfold laws_FnCache.f
  obtain ⟨r, hr, hf⟩ := fits9_ev l
  refine Ev.bind hr ?_
  cases r with
  | false =>
    simp only [if_neg Bool.false_ne_true]
    exact Ev.now _
  | true =>
    simp only [if_true]
    by_cases c1 : a0 < 1
    · simp only [if_pos c1]; exact jt
    · by_cases c2 : a0 > 12
      · simp only [if_neg c1, if_pos c2]; exact jt
      · by_cases c3 : a1 < 1
        · simp only [if_neg c1, if_neg c2, if_pos c3]; exact jt
        · by_cases c4 : a1 > 12
          · simp only [if_neg c1, if_neg c2, if_neg c3, if_pos c4]; exact jt
          · simp only [if_neg c1, if_neg c2, if_neg c3, if_neg c4]
            by_cases c5 : (l.length : Int) > 60
            · rw [decide_eq_true c5]; exact jt
            · rw [decide_eq_false c5]
              refine Ev.step (fun k => laws_FnCache.j0.eq_2 _ _ _ _ _) ?_
              simp only [if_neg Bool.false_ne_true]
              have h := steps_loop a0.toNat a1.toNat (by omega) (by omega) (by omega) (by omega) l (by omega) (hf rfl) l [] rfl (fun t ht => by cases ht)
              have e0 : ((a0.toNat : Nat) : Int) = a0 := by omega
              have e1 : ((a1.toNat : Nat) : Int) = a1 := by omega
              rw [e0, e1] at h
              exact h
end Go.Proofs.YtlfmplhleglibaaDoor.MatC
