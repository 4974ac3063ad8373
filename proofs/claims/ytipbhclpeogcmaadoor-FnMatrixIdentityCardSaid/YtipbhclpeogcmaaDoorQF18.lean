-- Written by a program of ours (wip/xp) out of the translation; Lean checks it.
import Derived.Test.YtipbhclpeogcmaaDoorQ0
import Derived.Test.YtipbhclpeogcmaaDoorQF37
namespace Go.Proofs.YtipbhclpeogcmaaDoor.Q
open Go.RowKit Go.Proofs.YtipbhclpeogcmaaDoorW.PrintWords Go.Proofs.YtipbhclpeogcmaaDoorW.PrintLast Go.Proofs.YtipbhclpeogcmaaDoorW.PrintMore
attribute [local go_sem] max2_int min2_int max_two min_two max_three min_three max_four min_four   -- for this text's walks alone
set_option linter.unusedVariables false
set_option linter.unusedSimpArgs false

/-! ### spec_Unit: function 18 -/
def spec_Unit.l0 : Nat → List (List Int) → Int → Int → Option ((List (List Int)))
  | 0, _, _, _ => none
  | k + 1, x3, x9, x10 => if x10 < x9 then (if 0 ≤ x10 then (if x10 < (x3.length : Int) then (if x10 < ((rd_L1 x3 x10).length : Int) then (spec_Unit.l0 k (x3.set (x10 : Int).toNat ((rd_L1 x3 x10).set (x10 : Int).toNat 1)) x9 (wrap64 (x10 + 1))) else (none)) else (none)) else (none)) else (some x3)
def spec_Unit.f (k : Nat) (a0 : Int) : Option ((List (List Int))) := (spec_Zeros.f k a0 a0).bind fun t179 => (spec_Unit.l0 k t179 (t179.length : Int) 0)
theorem spec_Unit.mono_l : ∀ k, (∀ y0 y1 y2, LeO (spec_Unit.l0 k y0 y1 y2) (spec_Unit.l0 (k + 1) y0 y1 y2))
  | 0 => fun _ _ _ r h => by simp [spec_Unit.l0] at h
  | k + 1 => by
    have ih0 := spec_Unit.mono_l k
    · intro y0 y1 y2
      unfold spec_Unit.l0
      repeat' first
      | (with_reducible exact ih0 _ _ _)
      | (with_reducible exact spec_Zeros.mono _ _ _)
      | (with_reducible exact LeO.refl _)
      | (with_reducible exact LeO.none _)
      | (with_reducible refine LeO.ite ?_ ?_)
      | (with_reducible refine LeO.bind ?_ (fun _ => ?_))
      | exact ih0 _ _ _
      | exact spec_Zeros.mono _ _ _
      | exact LeO.none _
      | refine LeO.ite ?_ ?_
      | refine LeO.bind ?_ (fun _ => ?_)
theorem spec_Unit.mono : ∀ a0 k, LeO (spec_Unit.f k a0) (spec_Unit.f (k + 1) a0) := by
  intro a0 k
  have ih0 := spec_Unit.mono_l k
  unfold spec_Unit.f
  repeat' first
      | (with_reducible exact ih0 _ _ _)
      | (with_reducible exact spec_Zeros.mono _ _ _)
      | (with_reducible exact LeO.refl _)
      | (with_reducible exact LeO.none _)
      | (with_reducible refine LeO.ite ?_ ?_)
      | (with_reducible refine LeO.bind ?_ (fun _ => ?_))
      | exact ih0 _ _ _
      | exact spec_Zeros.mono _ _ _
      | exact LeO.none _
      | refine LeO.ite ?_ ?_
      | refine LeO.bind ?_ (fun _ => ?_)
set_option maxHeartbeats 8000000 in
set_option maxRecDepth 100000 in
theorem spec_Unit.calls (k : Nat) (a0 : Int) (r : List (List Int)) (w : World) (h : spec_Unit.f k a0 = some r) :
    Calls Tryd.prog 18 #[.int .i64 a0] w fun e w' => ∃ v0_ : Value, e = .returned (v0_) ∧ Kd.S (Kd.slice 5 (Kd.int .u8)) 22 w' w.heap.size (fun _ => True) v0_ r ∧ Below w.heap.size w w' := by
  have HB := Aside0.mk (Below.refl w.heap.size w)
  have H : ((spec_Zeros.f k a0 a0).bind fun t179 => (spec_Unit.l0 k t179 (t179.length : Int) 0)) = some r := h
  clear h
  replace H := Option.bind_eq_some_iff.mp H
  obtain ⟨t179, A20, H⟩ := H
  replace H : (spec_Unit.l0 k t179 (t179.length : Int) 0) = some r := H
  have A2 := Aside0.mk A20
  clear A20
  have H' := Aside0.mk H
  clear H
  go_enter Tryd.func18, Tryd.ntmps18
  go_wp2_with (first | ((with_reducible refine gate_callee (f := 37) rfl ?_); refine goesL_ (some 7) rfl rfl Tryd.func37 (by kernel_rfl) rfl #[.int .i64 a0, .int .i64 a0] rfl (by (try simp only [List.map_toArray, List.map_cons, List.map_nil]); first | done | rfl | (simp only [List.length_drop, List.length_take]; rfl)) ?_; (with_reducible refine (spec_Zeros.calls k a0 a0 t179 _ A2.out).mono ?_); rintro e w3 ⟨v180, rfl, ho0, hb⟩; refine ⟨_, rfl, ?_⟩; have n0_ := Aside0.mk (Kd.S_lower ho0 (below_size (by repeat (first | (with_reducible first | exact HB.out | apply below_alloc | apply pw_below_drewN | apply below_drew1) | exact HB.out)))); have n1_ := Aside0.mk (below_step (by repeat (first | (with_reducible first | exact HB.out | apply below_alloc | apply pw_below_drewN | apply below_drew1) | exact HB.out)) hb); clear HB; have HO181 := n0_; have HB := n1_; clear n0_ n1_; (try clear hb); (try clear hb2); (try clear hk); (try clear hi); (try clear ho0); obtain ⟨Ao4, co4, eo4⟩ := Kd.S_slice HO181.out; subst eo4))
  go_loopg [10] k (fun kq v10 w' => ∃ (x3_1 : List (List Int)) (x10_1 : Int), v10 = .int .i64 x10_1 ∧ Aside0 (spec_Unit.l0 kq x3_1 (t179.length : Int) x10_1 = some r) ∧ Aside0 (kq ≤ k) ∧ Aside0 (Kd.S (Kd.slice 5 (Kd.int .u8)) 22 w' w.heap.size (fun _ => True) (.slice Ao4 t179.length co4) x3_1) ∧ Aside0 (Below w.heap.size w w'))
  case atStart => exact ⟨(t179), (0), (by first | rfl | (simp; done) | (simp [*]; done)), H', ⟨Nat.le_refl _⟩, ⟨by (with_reducible repeat (first | apply Kd.S_alloc | apply Kd.S_drewN | apply Kd.S_drew)); exact HO181.out⟩, ⟨by repeat (first | (with_reducible first | exact HB.out | apply below_alloc | apply pw_below_drewN | apply below_drew1) | exact HB.out)⟩⟩
  case round =>
    clear H'
    try clear c1
    try clear p2
    try clear c3
    obtain ⟨x3_1, x10_1, rfl, HA, HK1, HO_3, HB⟩ := hrel
    have hl3_1 := (Kd.S_reads' HO_3.out).1
    rw [hl3_1] at HO_3
    (try simp only [hl3_1])
    cases gk with
    | zero => exact absurd HA.out (by simp [spec_Unit.l0])
    | succ k1 =>
      have H := HA.out
      clear HA
      simp only [spec_Unit.l0] at H
      by_cases c5 : x10_1 < (t179.length : Int)
      · rw [if_pos c5] at H
        have c5b0 : decide (x10_1 < (t179.length : Int)) = true := decide_eq_true c5
        (try (have c5b0hl3_1 := c5b0; rw [hl3_1] at c5b0hl3_1))
        clear c5
        by_cases c6 : 0 ≤ x10_1
        · rw [if_pos c6] at H
          have c6b0 : decide (0 ≤ x10_1) = true := decide_eq_true c6
          clear c6
          by_cases c7 : x10_1 < (x3_1.length : Int)
          · rw [if_pos c7] at H
            have c7b0 : decide (x10_1 < (x3_1.length : Int)) = true := decide_eq_true c7
            (try (have c7b0hl3_1 := c7b0; rw [hl3_1] at c7b0hl3_1))
            clear c7
            by_cases c8 : x10_1 < ((rd_L1 x3_1 x10_1).length : Int)
            · rw [if_pos c8] at H
              have c8b0 : decide (x10_1 < ((rd_L1 x3_1 x10_1).length : Int)) = true := decide_eq_true c8
              (try (have c8b0hl3_1 := c8b0; rw [hl3_1] at c8b0hl3_1))
              clear c8
              obtain ⟨y183, hy183⟩ : ∃ y_ : List Int, y_ = ((rd_L1 x3_1 x10_1).set (x10_1 : Int).toNat 1) := ⟨_, rfl⟩
              replace H : (spec_Unit.l0 k1 (x3_1.set (x10_1 : Int).toNat y183) (t179.length : Int) (wrap64 (x10_1 + 1))) = some r := by first | (rw [hy183]; with_reducible exact H) | (have H2_ := (Option.bind_some _ _).symm.trans H; rw [hy183]; with_reducible exact H2_) | (have H2_ := (Option.bind_some _ _).symm.trans H; with_reducible exact H2_) | with_reducible exact H | (rw [hy183]; exact H) | exact H
              have Ny183 := Aside0.mk hy183
              clear hy183
              obtain ⟨y185, hy185⟩ : ∃ y_ : List (List Int), y_ = (x3_1.set (x10_1 : Int).toNat y183) := ⟨_, rfl⟩
              replace H : (spec_Unit.l0 k1 y185 (t179.length : Int) (wrap64 (x10_1 + 1))) = some r := by first | (rw [hy185]; with_reducible exact H) | (have H2_ := (Option.bind_some _ _).symm.trans H; rw [hy185]; with_reducible exact H2_) | (have H2_ := (Option.bind_some _ _).symm.trans H; with_reducible exact H2_) | with_reducible exact H | (rw [hy185]; exact H) | exact H
              have Ny185 := Aside0.mk hy185
              clear hy185
              have H' := Aside0.mk H
              clear H
              have p182 : 0 ≤ (x10_1 : Int) := of_decide_eq_true (by first | (with_reducible assumption) | assumption)
              have q182 : x10_1 < (x3_1.length : Int) := of_decide_eq_true (by first | (with_reducible assumption) | assumption)
              obtain ⟨ad182, A182_0, c182_0, e182, hx182_0, hl182_0, hi182_0⟩ := at_L1 (Kd.S_reads' HO_3.out).2.2 x10_1 p182 q182
              cases e182
              obtain ⟨ce182, hce182, hMe182, hcc182⟩ := Kd.S_get HO_3.out [] x10_1 p182 (by first | exact q182 | exact of_decide_eq_true (by first | (with_reducible assumption) | assumption) | (have e_ := (Kd.S_reads' HO_3.out).1; omega))
              obtain ⟨ve182_0, rfl, ge182_0⟩ := hMe182
              have hv182_0 := hcc182 0 _ rfl
              rw [Nat.add_zero, show ((Kd.slice 5 (Kd.int .u8))).sz = 1 from rfl, Nat.mul_one] at hv182_0
              replace hv182_0 := Option.some.inj (hv182_0.symm.trans hx182_0)
              rw [hv182_0] at ge182_0
              have HL182_0 := Aside0.mk (show Kd.R (Kd.int .u8) 5 _ _ _ _ (rd_L1 x3_1 x10_1) from ge182_0)
              clear hv182_0 ge182_0
              have HX182_0 := Aside0.mk hx182_0
              clear hcc182 hce182
              have HR182_0 := Aside0.mk hi182_0
              have HC182_0 := Aside0.mk hl182_0
              clear hi182_0 hl182_0
              replace p182 := eq_true p182
              replace q182 := eq_true q182
              have p9 : 0 ≤ (x10_1 : Int) := of_decide_eq_true (by first | (with_reducible assumption) | assumption)
              have q9 : (x10_1 : Int) < (((rd_L1 x3_1 x10_1).length : Int) : Int) := of_decide_eq_true (by first | (with_reducible assumption) | assumption)
              obtain ⟨go9, co9, eo9, gb9, gl9, cl9, HG9⟩ := Kd.R_form HL182_0.out (by omega)
              (first | cases eo9 | (injection eo9 with ea_ en_ ec_; (first | subst ea_ | (injection ea_ with ea_; subst ea_)); subst ec_; clear en_))
              have GB9 := Aside0.mk gb9
              have GG9 := Aside0.mk HG9
              clear gb9 gl9 HG9
              obtain ⟨hx9_0, hf9_0⟩ := Kd.R_celln 0 HL182_0.out (x10_1 : Int) p9 q9
              replace p9 := eq_true p9
              replace q9 := eq_true q9
              have hq10 : (x10_1 : Int) < (x3_1.length : Int) := (by have h_ : (x10_1 : Int) < ((x3_1.length : Int) : Int) := of_decide_eq_true (by first | (with_reducible assumption) | assumption); first | exact h_ | (have e_ := (Kd.S_reads' HO_3.out).1; omega) | simpa only [List.length_set, List.length_set] using h_)
              obtain ⟨oki10, ce10, hcl10, hM10, hcc10, hok10, hbk10⟩ := Kd.S_borrow HO_3.out [] (x10_1 : Int) (of_decide_eq_true (by first | (with_reducible assumption) | assumption)) hq10
              obtain ⟨ve10_0, rfl, ge10_0⟩ := hM10
              have hv10 := hcc10 0 _ rfl
              rw [Nat.add_zero, show ((Kd.slice 5 (Kd.int .u8))).sz = 1 from rfl, Nat.mul_one] at hv10
              replace hv10 := Option.some.inj (hv10.symm.trans HX182_0.out)
              subst hv10
              clear hcc10 hcl10
              replace ge10_0 := (show Kd.R (Kd.int .u8) 5 _ _ _ _ (rd_L1 x3_1 x10_1) from ge10_0)
              have HP10 := Kd.R_putg ge10_0 (x10_1 : Int) 1
              go_wp2_with (first | ((with_reducible refine gate_store (t := 5) (p := 18) rfl ?_); refine store_event (t := 5) (p := 18) (v := ?vo_w11) (w1 := (wr.setCell ⟨go9, (x10_1 : Int).toNat, none⟩ (.int .u8 1))) ?hg ?ho ?hn ?hr ?_; (case ho => rfl); (case hg => rfl); (case hn => rfl); (case hr => first | (go_simp; done) | (go_simp; rfl)); intro w11 hw; have hg : wr.grownBy w11 (some go9) := (by rw [hw]; exact HP10.2); have hz_ : Kd.R (Kd.int .u8) 5 w11 w.heap.size oki10 (.slice (some ⟨go9, 0, none⟩) (rd_L1 x3_1 x10_1).length c182_0) y183 := (by rw [hw, Ny183.out]; exact HP10.1); have hp_ : Kd.S (Kd.slice 5 (Kd.int .u8)) 22 w11 w.heap.size (fun _ => True) (.slice (some ad182) x3_1.length co4) y185 := (by rw [Ny185.out]; exact hbk10 hg (fun k_ e_ => by injection e_ with e_; subst e_; exact ge10_0.1 _ rfl) (Kd.M_row hz_)); have hm_ := Kd.R_mono hz_ hok10; clear HP10 hbk10; have n0_ := Aside0.mk (hp_); have n1_ := Aside0.mk ((by rw [hw]; exact below_set (HB.out) GB9.out : Below w.heap.size w w11)); have n2_ := Aside0.mk (hm_); have n3_ := Aside0.mk ((Kd.R_reads' hm_).2.1); clear HO_3; clear HB; clear HL182_0; have HO_3 := n0_; have HB := n1_; have HL186 := n2_; have HC184 := n3_; clear n0_ n1_ n2_ n3_; clear hg hw hp_ hz_ hm_ hok10))
              (try simp only [← hl3_1])
              go_roundg k1
              case measure => have := HK1.out; omega
              case rel => exact ⟨(y185), (wrap64 (x10_1 + 1)), (by first | rfl | (simp; done) | (simp [*]; done)), H', ⟨by have := HK1.out; omega⟩, ⟨by (try simp only [hl3_1]); (with_reducible repeat (first | apply Kd.S_alloc | apply Kd.S_drewN | apply Kd.S_drew)); exact HO_3.out⟩, ⟨by repeat (first | (with_reducible first | exact HB.out | apply below_alloc | apply pw_below_drewN | apply below_drew1) | exact HB.out)⟩⟩
            · rw [if_neg c8] at H
              exact absurd H (by simp)
          · rw [if_neg c7] at H
            exact absurd H (by simp)
        · rw [if_neg c6] at H
          exact absurd H (by simp)
      · rw [if_neg c5] at H
        have c5b0 : decide (x10_1 < (t179.length : Int)) = false := decide_eq_false c5
        (try (have c5b0hl3_1 := c5b0; rw [hl3_1] at c5b0hl3_1))
        clear c5
        obtain rfl := Option.some.inj H
        go_wp2
        go_ret
        exact ⟨_, by first | rfl | (simp [errW_none, errW_some] <;> rfl) | (simp [*, errW_none, errW_some] <;> rfl), by (with_reducible repeat (first | apply Kd.S_alloc | apply Kd.S_drewN | apply Kd.S_drew)); exact HO_3.out, by repeat (first | (with_reducible first | exact HB.out | apply below_alloc | apply pw_below_drewN | apply below_drew1) | exact HB.out)⟩

end Go.Proofs.YtipbhclpeogcmaaDoor.Q
