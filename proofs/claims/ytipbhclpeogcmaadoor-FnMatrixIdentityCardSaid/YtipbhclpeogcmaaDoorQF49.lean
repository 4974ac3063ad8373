-- Written by a program of ours (wip/xp) out of the translation; Lean checks it.
import Derived.Test.YtipbhclpeogcmaaDoorQ0
import Derived.Test.YtipbhclpeogcmaaDoorQF57
namespace Go.Proofs.YtipbhclpeogcmaaDoor.Q
open Go.RowKit Go.Proofs.YtipbhclpeogcmaaDoorW.PrintWords Go.Proofs.YtipbhclpeogcmaaDoorW.PrintLast Go.Proofs.YtipbhclpeogcmaaDoorW.PrintMore
attribute [local go_sem] max2_int min2_int max_two min_two max_three min_three max_four min_four   -- for this text's walks alone
set_option linter.unusedVariables false
set_option linter.unusedSimpArgs false

/-! ### reedsolomon_identityMatrix: function 49 -/
def reedsolomon_identityMatrix.l0 : Nat → List (List Int) → Int → Int → Option ((List (List Int)) × Option Int)
  | 0, _, _, _ => none
  | k + 1, x4, x17, x18 => if x18 < x17 then (if 0 ≤ x18 then (if x18 < (x4.length : Int) then (if x18 < ((rd_L1 x4 x18).length : Int) then (reedsolomon_identityMatrix.l0 k (x4.set (x18 : Int).toNat ((rd_L1 x4 x18).set (x18 : Int).toNat 1)) x17 (wrap64 (x18 + 1))) else (none)) else (none)) else (none)) else (some (x4, none))
def reedsolomon_identityMatrix.f (k : Nat) (a0 : Int) : Option ((List (List Int)) × Option Int) := (reedsolomon_newMatrix.f k a0 a0).bind fun bt136 => (if bt136.2.isNone = true then (reedsolomon_identityMatrix.l0 k bt136.1 (bt136.1.length : Int) 0) else (some (([] : List (List Int)), some (bt136.2.getD 0))))
theorem reedsolomon_identityMatrix.mono_l : ∀ k, (∀ y0 y1 y2, LeO (reedsolomon_identityMatrix.l0 k y0 y1 y2) (reedsolomon_identityMatrix.l0 (k + 1) y0 y1 y2))
  | 0 => fun _ _ _ r h => by simp [reedsolomon_identityMatrix.l0] at h
  | k + 1 => by
    have ih0 := reedsolomon_identityMatrix.mono_l k
    · intro y0 y1 y2
      unfold reedsolomon_identityMatrix.l0
      repeat' first
      | (with_reducible exact ih0 _ _ _)
      | (with_reducible exact reedsolomon_newMatrix.mono _ _ _)
      | (with_reducible exact LeO.refl _)
      | (with_reducible exact LeO.none _)
      | (with_reducible refine LeO.ite ?_ ?_)
      | (with_reducible refine LeO.bind ?_ (fun _ => ?_))
      | exact ih0 _ _ _
      | exact reedsolomon_newMatrix.mono _ _ _
      | exact LeO.none _
      | refine LeO.ite ?_ ?_
      | refine LeO.bind ?_ (fun _ => ?_)
theorem reedsolomon_identityMatrix.mono : ∀ a0 k, LeO (reedsolomon_identityMatrix.f k a0) (reedsolomon_identityMatrix.f (k + 1) a0) := by
  intro a0 k
  have ih0 := reedsolomon_identityMatrix.mono_l k
  unfold reedsolomon_identityMatrix.f
  repeat' first
      | (with_reducible exact ih0 _ _ _)
      | (with_reducible exact reedsolomon_newMatrix.mono _ _ _)
      | (with_reducible exact LeO.refl _)
      | (with_reducible exact LeO.none _)
      | (with_reducible refine LeO.ite ?_ ?_)
      | (with_reducible refine LeO.bind ?_ (fun _ => ?_))
      | exact ih0 _ _ _
      | exact reedsolomon_newMatrix.mono _ _ _
      | exact LeO.none _
      | refine LeO.ite ?_ ?_
      | refine LeO.bind ?_ (fun _ => ?_)
set_option maxHeartbeats 8000000 in
set_option maxRecDepth 100000 in
theorem reedsolomon_identityMatrix.calls (k : Nat) (a0 : Int) (r1 : List (List Int)) (r2 : Option Int) (w : World) (h : reedsolomon_identityMatrix.f k a0 = some (r1, r2)) :
    Calls Tryd.prog 49 #[.int .i64 a0] w fun e w' => ∃ v0_ : Value, e = .returned (.tuple #[v0_, errW r2]) ∧ Kd.S (Kd.slice 5 (Kd.int .u8)) 22 w' w.heap.size (fun _ => True) v0_ r1 ∧ Below w.heap.size w w' := by
  have hu60 := Tryd.underlying60
  have HB := Aside0.mk (Below.refl w.heap.size w)
  have H : ((reedsolomon_newMatrix.f k a0 a0).bind fun bt136 => (if bt136.2.isNone = true then (reedsolomon_identityMatrix.l0 k bt136.1 (bt136.1.length : Int) 0) else (some (([] : List (List Int)), some (bt136.2.getD 0))))) = some (r1, r2) := h
  clear h
  replace H := Option.bind_eq_some_iff.mp H
  obtain ⟨⟨t136, t137⟩, A20, H⟩ := H
  replace H : (if t137.isNone = true then (reedsolomon_identityMatrix.l0 k t136 (t136.length : Int) 0) else (some (([] : List (List Int)), some (t137.getD 0)))) = some (r1, r2) := H
  have A2 := Aside0.mk A20
  clear A20
  rcases t137 with _ | q140
  · have H1 : (reedsolomon_identityMatrix.l0 k t136 (t136.length : Int) 0) = some (r1, r2) := by rw [if_pos (show (none : Option Int).isNone = true by rfl)] at H; exact H
    clear H
    have H := H1
    clear H1
    try simp only [errW_none, errW_some]
    have H' := Aside0.mk H
    clear H
    go_enter Tryd.func49, Tryd.ntmps49
    go_wp2_with (first | ((with_reducible refine gate_callee (f := 57) rfl ?_); refine goesL_ (some 10) rfl rfl Tryd.func57 (by kernel_rfl) rfl #[.int .i64 a0, .int .i64 a0] rfl (by (try simp only [List.map_toArray, List.map_cons, List.map_nil]); first | done | rfl | (simp only [List.length_drop, List.length_take]; rfl)) ?_; (with_reducible refine (reedsolomon_newMatrix.calls k a0 a0 t136 none _ A2.out).mono ?_); rintro e w3 ⟨v138, rfl, ho0, hb⟩; refine ⟨_, rfl, ?_⟩; have n0_ := Aside0.mk (Kd.S_lower ho0 (below_size (by repeat (first | (with_reducible first | exact HB.out | apply below_alloc | apply pw_below_drewN | apply below_drew1) | exact HB.out)))); have n1_ := Aside0.mk (below_step (by repeat (first | (with_reducible first | exact HB.out | apply below_alloc | apply pw_below_drewN | apply below_drew1) | exact HB.out)) hb); clear HB; have HO139 := n0_; have HB := n1_; clear n0_ n1_; (try clear hb); (try clear hb2); (try clear hk); (try clear hi); (try clear ho0); (try simp only [errW_none, errW_some]); obtain ⟨Ao4, co4, eo4⟩ := Kd.S_slice HO139.out; subst eo4))
    go_loopg [18] k (fun kq v18 w' => ∃ (x4_1 : List (List Int)) (x18_1 : Int), v18 = .int .i64 x18_1 ∧ Aside0 (reedsolomon_identityMatrix.l0 kq x4_1 (t136.length : Int) x18_1 = some (r1, r2)) ∧ Aside0 (kq ≤ k) ∧ Aside0 (Kd.S (Kd.slice 5 (Kd.int .u8)) 22 w' w.heap.size (fun _ => True) (.slice Ao4 t136.length co4) x4_1) ∧ Aside0 (Below w.heap.size w w'))
    case atStart => exact ⟨(t136), (0), (by first | rfl | (simp; done) | (simp [*]; done)), H', ⟨Nat.le_refl _⟩, ⟨by (with_reducible repeat (first | apply Kd.S_alloc | apply Kd.S_drewN | apply Kd.S_drew)); exact HO139.out⟩, ⟨by repeat (first | (with_reducible first | exact HB.out | apply below_alloc | apply pw_below_drewN | apply below_drew1) | exact HB.out)⟩⟩
    case round =>
      clear H'
      try clear q1
      try clear p2
      try clear c4
      try clear q140
      obtain ⟨x4_1, x18_1, rfl, HA, HK1, HO_4, HB⟩ := hrel
      have hl4_1 := (Kd.S_reads' HO_4.out).1
      rw [hl4_1] at HO_4
      (try simp only [hl4_1])
      cases gk with
      | zero => exact absurd HA.out (by simp [reedsolomon_identityMatrix.l0])
      | succ k1 =>
        have H := HA.out
        clear HA
        simp only [reedsolomon_identityMatrix.l0] at H
        by_cases c5 : x18_1 < (t136.length : Int)
        · rw [if_pos c5] at H
          have c5b0 : decide (x18_1 < (t136.length : Int)) = true := decide_eq_true c5
          (try (have c5b0hl4_1 := c5b0; rw [hl4_1] at c5b0hl4_1))
          clear c5
          by_cases c6 : 0 ≤ x18_1
          · rw [if_pos c6] at H
            have c6b0 : decide (0 ≤ x18_1) = true := decide_eq_true c6
            clear c6
            by_cases c7 : x18_1 < (x4_1.length : Int)
            · rw [if_pos c7] at H
              have c7b0 : decide (x18_1 < (x4_1.length : Int)) = true := decide_eq_true c7
              (try (have c7b0hl4_1 := c7b0; rw [hl4_1] at c7b0hl4_1))
              clear c7
              by_cases c8 : x18_1 < ((rd_L1 x4_1 x18_1).length : Int)
              · rw [if_pos c8] at H
                have c8b0 : decide (x18_1 < ((rd_L1 x4_1 x18_1).length : Int)) = true := decide_eq_true c8
                (try (have c8b0hl4_1 := c8b0; rw [hl4_1] at c8b0hl4_1))
                clear c8
                obtain ⟨y142, hy142⟩ : ∃ y_ : List Int, y_ = ((rd_L1 x4_1 x18_1).set (x18_1 : Int).toNat 1) := ⟨_, rfl⟩
                replace H : (reedsolomon_identityMatrix.l0 k1 (x4_1.set (x18_1 : Int).toNat y142) (t136.length : Int) (wrap64 (x18_1 + 1))) = some (r1, r2) := by first | (rw [hy142]; with_reducible exact H) | (have H2_ := (Option.bind_some _ _).symm.trans H; rw [hy142]; with_reducible exact H2_) | (have H2_ := (Option.bind_some _ _).symm.trans H; with_reducible exact H2_) | with_reducible exact H | (rw [hy142]; exact H) | exact H
                have Ny142 := Aside0.mk hy142
                clear hy142
                obtain ⟨y144, hy144⟩ : ∃ y_ : List (List Int), y_ = (x4_1.set (x18_1 : Int).toNat y142) := ⟨_, rfl⟩
                replace H : (reedsolomon_identityMatrix.l0 k1 y144 (t136.length : Int) (wrap64 (x18_1 + 1))) = some (r1, r2) := by first | (rw [hy144]; with_reducible exact H) | (have H2_ := (Option.bind_some _ _).symm.trans H; rw [hy144]; with_reducible exact H2_) | (have H2_ := (Option.bind_some _ _).symm.trans H; with_reducible exact H2_) | with_reducible exact H | (rw [hy144]; exact H) | exact H
                have Ny144 := Aside0.mk hy144
                clear hy144
                have H' := Aside0.mk H
                clear H
                have p141 : 0 ≤ (x18_1 : Int) := of_decide_eq_true (by first | (with_reducible assumption) | assumption)
                have q141 : x18_1 < (x4_1.length : Int) := of_decide_eq_true (by first | (with_reducible assumption) | assumption)
                obtain ⟨ad141, A141_0, c141_0, e141, hx141_0, hl141_0, hi141_0⟩ := at_L1 (Kd.S_reads' HO_4.out).2.2 x18_1 p141 q141
                cases e141
                obtain ⟨ce141, hce141, hMe141, hcc141⟩ := Kd.S_get HO_4.out [] x18_1 p141 (by first | exact q141 | exact of_decide_eq_true (by first | (with_reducible assumption) | assumption) | (have e_ := (Kd.S_reads' HO_4.out).1; omega))
                obtain ⟨ve141_0, rfl, ge141_0⟩ := hMe141
                have hv141_0 := hcc141 0 _ rfl
                rw [Nat.add_zero, show ((Kd.slice 5 (Kd.int .u8))).sz = 1 from rfl, Nat.mul_one] at hv141_0
                replace hv141_0 := Option.some.inj (hv141_0.symm.trans hx141_0)
                rw [hv141_0] at ge141_0
                have HL141_0 := Aside0.mk (show Kd.R (Kd.int .u8) 5 _ _ _ _ (rd_L1 x4_1 x18_1) from ge141_0)
                clear hv141_0 ge141_0
                have HX141_0 := Aside0.mk hx141_0
                clear hcc141 hce141
                have HR141_0 := Aside0.mk hi141_0
                have HC141_0 := Aside0.mk hl141_0
                clear hi141_0 hl141_0
                replace p141 := eq_true p141
                replace q141 := eq_true q141
                have p9 : 0 ≤ (x18_1 : Int) := of_decide_eq_true (by first | (with_reducible assumption) | assumption)
                have q9 : (x18_1 : Int) < (((rd_L1 x4_1 x18_1).length : Int) : Int) := of_decide_eq_true (by first | (with_reducible assumption) | assumption)
                obtain ⟨go9, co9, eo9, gb9, gl9, cl9, HG9⟩ := Kd.R_form HL141_0.out (by omega)
                (first | cases eo9 | (injection eo9 with ea_ en_ ec_; (first | subst ea_ | (injection ea_ with ea_; subst ea_)); subst ec_; clear en_))
                have GB9 := Aside0.mk gb9
                have GG9 := Aside0.mk HG9
                clear gb9 gl9 HG9
                obtain ⟨hx9_0, hf9_0⟩ := Kd.R_celln 0 HL141_0.out (x18_1 : Int) p9 q9
                replace p9 := eq_true p9
                replace q9 := eq_true q9
                have hq10 : (x18_1 : Int) < (x4_1.length : Int) := (by have h_ : (x18_1 : Int) < ((x4_1.length : Int) : Int) := of_decide_eq_true (by first | (with_reducible assumption) | assumption); first | exact h_ | (have e_ := (Kd.S_reads' HO_4.out).1; omega) | simpa only [List.length_set, List.length_set] using h_)
                obtain ⟨oki10, ce10, hcl10, hM10, hcc10, hok10, hbk10⟩ := Kd.S_borrow HO_4.out [] (x18_1 : Int) (of_decide_eq_true (by first | (with_reducible assumption) | assumption)) hq10
                obtain ⟨ve10_0, rfl, ge10_0⟩ := hM10
                have hv10 := hcc10 0 _ rfl
                rw [Nat.add_zero, show ((Kd.slice 5 (Kd.int .u8))).sz = 1 from rfl, Nat.mul_one] at hv10
                replace hv10 := Option.some.inj (hv10.symm.trans HX141_0.out)
                subst hv10
                clear hcc10 hcl10
                replace ge10_0 := (show Kd.R (Kd.int .u8) 5 _ _ _ _ (rd_L1 x4_1 x18_1) from ge10_0)
                have HP10 := Kd.R_putg ge10_0 (x18_1 : Int) 1
                go_wp2_with (first | ((with_reducible refine gate_store (t := 5) (p := 26) rfl ?_); refine store_event (t := 5) (p := 26) (v := ?vo_w11) (w1 := (wr.setCell ⟨go9, (x18_1 : Int).toNat, none⟩ (.int .u8 1))) ?hg ?ho ?hn ?hr ?_; (case ho => rfl); (case hg => rfl); (case hn => rfl); (case hr => first | (go_simp; done) | (go_simp; rfl)); intro w11 hw; have hg : wr.grownBy w11 (some go9) := (by rw [hw]; exact HP10.2); have hz_ : Kd.R (Kd.int .u8) 5 w11 w.heap.size oki10 (.slice (some ⟨go9, 0, none⟩) (rd_L1 x4_1 x18_1).length c141_0) y142 := (by rw [hw, Ny142.out]; exact HP10.1); have hp_ : Kd.S (Kd.slice 5 (Kd.int .u8)) 22 w11 w.heap.size (fun _ => True) (.slice (some ad141) x4_1.length co4) y144 := (by rw [Ny144.out]; exact hbk10 hg (fun k_ e_ => by injection e_ with e_; subst e_; exact ge10_0.1 _ rfl) (Kd.M_row hz_)); have hm_ := Kd.R_mono hz_ hok10; clear HP10 hbk10; have n0_ := Aside0.mk (hp_); have n1_ := Aside0.mk ((by rw [hw]; exact below_set (HB.out) GB9.out : Below w.heap.size w w11)); have n2_ := Aside0.mk (hm_); have n3_ := Aside0.mk ((Kd.R_reads' hm_).2.1); clear HO_4; clear HB; clear HL141_0; have HO_4 := n0_; have HB := n1_; have HL145 := n2_; have HC143 := n3_; clear n0_ n1_ n2_ n3_; clear hg hw hp_ hz_ hm_ hok10))
                (try simp only [← hl4_1])
                go_roundg k1
                case measure => have := HK1.out; omega
                case rel => exact ⟨(y144), (wrap64 (x18_1 + 1)), (by first | rfl | (simp; done) | (simp [*]; done)), H', ⟨by have := HK1.out; omega⟩, ⟨by (try simp only [hl4_1]); (with_reducible repeat (first | apply Kd.S_alloc | apply Kd.S_drewN | apply Kd.S_drew)); exact HO_4.out⟩, ⟨by repeat (first | (with_reducible first | exact HB.out | apply below_alloc | apply pw_below_drewN | apply below_drew1) | exact HB.out)⟩⟩
              · rw [if_neg c8] at H
                exact absurd H (by simp)
            · rw [if_neg c7] at H
              exact absurd H (by simp)
          · rw [if_neg c6] at H
            exact absurd H (by simp)
        · rw [if_neg c5] at H
          have c5b0 : decide (x18_1 < (t136.length : Int)) = false := decide_eq_false c5
          (try (have c5b0hl4_1 := c5b0; rw [hl4_1] at c5b0hl4_1))
          clear c5
          simp only [Option.some.injEq, Prod.mk.injEq] at H
          obtain ⟨rfl, rfl⟩ := H
          go_wp2
          go_ret2
          exact ⟨_, by first | rfl | (simp [errW_none, errW_some] <;> rfl) | (simp [*, errW_none, errW_some] <;> rfl), by (with_reducible repeat (first | apply Kd.S_alloc | apply Kd.S_drewN | apply Kd.S_drew)); exact HO_4.out, by repeat (first | (with_reducible first | exact HB.out | apply below_alloc | apply pw_below_drewN | apply below_drew1) | exact HB.out)⟩
  · have H1 : (some (([] : List (List Int)), some q140)) = some (r1, r2) := by rw [if_neg (show ¬ (some q140).isNone = true by simp)] at H; exact H
    clear H
    have H := H1
    clear H1
    try simp only [errW_none, errW_some]
    simp only [Option.some.injEq, Prod.mk.injEq] at H
    obtain ⟨rfl, rfl⟩ := H
    go_enter Tryd.func49, Tryd.ntmps49
    go_wp2_with (first | ((with_reducible refine gate_callee (f := 57) rfl ?_); refine goesL_ (some 10) rfl rfl Tryd.func57 (by kernel_rfl) rfl #[.int .i64 a0, .int .i64 a0] rfl (by (try simp only [List.map_toArray, List.map_cons, List.map_nil]); first | done | rfl | (simp only [List.length_drop, List.length_take]; rfl)) ?_; (with_reducible refine (reedsolomon_newMatrix.calls k a0 a0 t136 (some q140) _ A2.out).mono ?_); rintro e w12 ⟨v138, rfl, ho0, hb⟩; refine ⟨_, rfl, ?_⟩; have n0_ := Aside0.mk (Kd.S_lower ho0 (below_size (by repeat (first | (with_reducible first | exact HB.out | apply below_alloc | apply pw_below_drewN | apply below_drew1) | exact HB.out)))); have n1_ := Aside0.mk (below_step (by repeat (first | (with_reducible first | exact HB.out | apply below_alloc | apply pw_below_drewN | apply below_drew1) | exact HB.out)) hb); clear HB; have HO139 := n0_; have HB := n1_; clear n0_ n1_; (try clear hb); (try clear hb2); (try clear hk); (try clear hi); (try clear ho0); (try simp only [errW_none, errW_some])))
    go_ret2
    exact ⟨_, by first | rfl | (simp [errW_none, errW_some] <;> rfl) | (simp [*, errW_none, errW_some] <;> rfl), by first | exact Kd.S_nil _ _ _ _ _ | exact Kd.N_nil _ _ _ _ _ | exact Kd.V_nil _ _ _ _ _ | exact Kd.Q_nil _ _ _ _ _ | exact Kd.R_nil _ _ _ _ _, by repeat (first | (with_reducible first | exact HB.out | apply below_alloc | apply pw_below_drewN | apply below_drew1) | exact HB.out)⟩

end Go.Proofs.YtipbhclpeogcmaaDoor.Q
