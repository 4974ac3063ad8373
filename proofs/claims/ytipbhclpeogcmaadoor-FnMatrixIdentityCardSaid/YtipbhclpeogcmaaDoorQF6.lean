-- Written by a program of ours (wip/xp) out of the translation; Lean checks it.
import Derived.Test.YtipbhclpeogcmaaDoorQ0
import Derived.Test.YtipbhclpeogcmaaDoorQF16
import Derived.Test.YtipbhclpeogcmaaDoorQF17
import Derived.Test.YtipbhclpeogcmaaDoorQF18
namespace Go.Proofs.YtipbhclpeogcmaaDoor.Q
open Go.RowKit Go.Proofs.YtipbhclpeogcmaaDoorW.PrintWords Go.Proofs.YtipbhclpeogcmaaDoorW.PrintLast Go.Proofs.YtipbhclpeogcmaaDoorW.PrintMore
attribute [local go_sem] max2_int min2_int max_two min_two max_three min_three max_four min_four   -- for this text's walks alone
set_option linter.unusedVariables false
set_option linter.unusedSimpArgs false

/-! ### laws_FnMatrixIdentity: function 6 -/
def laws_FnMatrixIdentity.j0 : Nat → Int → List (List Int) → Bool → Bool → Option (Bool)
  | 0, _, _, _, _ => none
  | k + 1, x0, x3, x4, x15 => if x15 = true then (some (!x4)) else (if x4 = true then ((spec_Unit.f k x0).bind fun t191 => ((spec_EqualMatrices.f k x3 t191).bind fun t194 => (some t194))) else (some false))
def laws_FnMatrixIdentity.f (k : Nat) (a0 : Int) : Option (Bool) := (impl_Identity.f k a0).bind fun bt187 => (if a0 < 1 then (laws_FnMatrixIdentity.j0 k a0 bt187.1 bt187.2 true) else (laws_FnMatrixIdentity.j0 k a0 bt187.1 bt187.2 (decide (a0 > 256))))
theorem laws_FnMatrixIdentity.mono_l : ∀ k, (∀ y0 y1 y2 y3, LeO (laws_FnMatrixIdentity.j0 k y0 y1 y2 y3) (laws_FnMatrixIdentity.j0 (k + 1) y0 y1 y2 y3))
  | 0 => fun _ _ _ _ r h => by simp [laws_FnMatrixIdentity.j0] at h
  | k + 1 => by
    have ih0 := laws_FnMatrixIdentity.mono_l k
    · intro y0 y1 y2 y3
      unfold laws_FnMatrixIdentity.j0
      repeat' first
      | (with_reducible exact ih0 _ _ _ _)
      | (with_reducible exact impl_Identity.mono _ _)
      | (with_reducible exact spec_EqualMatrices.mono _ _ _)
      | (with_reducible exact spec_Unit.mono _ _)
      | (with_reducible exact LeO.refl _)
      | (with_reducible exact LeO.none _)
      | (with_reducible refine LeO.ite ?_ ?_)
      | (with_reducible refine LeO.bind ?_ (fun _ => ?_))
      | exact ih0 _ _ _ _
      | exact impl_Identity.mono _ _
      | exact spec_EqualMatrices.mono _ _ _
      | exact spec_Unit.mono _ _
      | exact LeO.none _
      | refine LeO.ite ?_ ?_
      | refine LeO.bind ?_ (fun _ => ?_)
theorem laws_FnMatrixIdentity.mono : ∀ a0 k, LeO (laws_FnMatrixIdentity.f k a0) (laws_FnMatrixIdentity.f (k + 1) a0) := by
  intro a0 k
  have ih0 := laws_FnMatrixIdentity.mono_l k
  unfold laws_FnMatrixIdentity.f
  repeat' first
      | (with_reducible exact ih0 _ _ _ _)
      | (with_reducible exact impl_Identity.mono _ _)
      | (with_reducible exact spec_EqualMatrices.mono _ _ _)
      | (with_reducible exact spec_Unit.mono _ _)
      | (with_reducible exact LeO.refl _)
      | (with_reducible exact LeO.none _)
      | (with_reducible refine LeO.ite ?_ ?_)
      | (with_reducible refine LeO.bind ?_ (fun _ => ?_))
      | exact ih0 _ _ _ _
      | exact impl_Identity.mono _ _
      | exact spec_EqualMatrices.mono _ _ _
      | exact spec_Unit.mono _ _
      | exact LeO.none _
      | refine LeO.ite ?_ ?_
      | refine LeO.bind ?_ (fun _ => ?_)
set_option maxHeartbeats 8000000 in
set_option maxRecDepth 100000 in
theorem laws_FnMatrixIdentity.calls (k : Nat) (a0 : Int) (r : Bool) (w : World) (h : laws_FnMatrixIdentity.f k a0 = some r) :
    Calls Tryd.prog 6 #[.int .i64 a0] w fun e w' => e = .returned (.bool r) ∧ Below w.heap.size w w' := by
  have HB := Aside0.mk (Below.refl w.heap.size w)
  have H : ((impl_Identity.f k a0).bind fun bt187 => (if a0 < 1 then (laws_FnMatrixIdentity.j0 k a0 bt187.1 bt187.2 true) else (laws_FnMatrixIdentity.j0 k a0 bt187.1 bt187.2 (decide (a0 > 256))))) = some r := h
  clear h
  replace H := Option.bind_eq_some_iff.mp H
  obtain ⟨⟨t187, t188⟩, A20, H⟩ := H
  replace H : (if a0 < 1 then (laws_FnMatrixIdentity.j0 k a0 t187 t188 true) else (laws_FnMatrixIdentity.j0 k a0 t187 t188 (decide (a0 > 256)))) = some r := H
  have A2 := Aside0.mk A20
  clear A20
  have HC3 := Aside0.mk H
  clear H
  go_enter Tryd.func6, Tryd.ntmps6
  go_upto_region 2 with (first | ((with_reducible refine gate_callee (f := 16) rfl ?_); refine goesL_ (some 7) rfl rfl Tryd.func16 (by kernel_rfl) rfl #[.int .i64 a0] rfl (by (try simp only [List.map_toArray, List.map_cons, List.map_nil]); first | done | rfl | (simp only [List.length_drop, List.length_take]; rfl)) ?_; (with_reducible refine (impl_Identity.calls k a0 t187 t188 _ A2.out).mono ?_); rintro e w4 ⟨v189, rfl, ho0, hb⟩; refine ⟨_, rfl, ?_⟩; have n0_ := Aside0.mk (Kd.S_lower ho0 (below_size (by repeat (first | (with_reducible first | exact HB.out | apply below_alloc | apply pw_below_drewN | apply below_drew1) | exact HB.out)))); have n1_ := Aside0.mk (below_step (by repeat (first | (with_reducible first | exact HB.out | apply below_alloc | apply pw_below_drewN | apply below_drew1) | exact HB.out)) hb); clear HB; have HO190 := n0_; have HB := n1_; clear n0_ n1_; (try clear hb); (try clear hb2); (try clear hk); (try clear hi); (try clear ho0)))
  (try simp only [Act.put, List.setIfInBounds_toArray, List.set_cons_zero, List.set_cons_succ])
  go_cut [15] (fun v15 wc => ∃ (kq : Nat) (x15_2 : Bool), v15 = .bool x15_2 ∧ Aside0 (laws_FnMatrixIdentity.j0 kq a0 t187 t188 x15_2 = some r) ∧ Aside0 (kq ≤ k) ∧ Aside0 (Kd.S (Kd.slice 5 (Kd.int .u8)) 22 wc w.heap.size (fun _ => True) v189 t187) ∧ Aside0 (Below w.heap.size w wc))
  case first =>
    have H := HC3.out
    clear HC3
    by_cases c5 : a0 < 1
    · rw [if_pos c5] at H
      have c5b0 : decide (a0 < 1) = true := decide_eq_true c5
      clear c5
      (first | rw [c5b0] | (simp only [i64_w, i32_w]; rw [c5b0]) | skip)
      have H' := Aside0.mk H
      clear H
      go_wp2
      go_meet
      case rel => exact ⟨_, (true), (by first | rfl | (simp; done) | (simp [*]; done)), H', ⟨by first | omega | exact Nat.le_refl _⟩, ⟨by (with_reducible repeat (first | apply Kd.S_alloc | apply Kd.S_drewN | apply Kd.S_drew)); exact HO190.out⟩, ⟨by repeat (first | (with_reducible first | exact HB.out | apply below_alloc | apply pw_below_drewN | apply below_drew1) | exact HB.out)⟩⟩
    · rw [if_neg c5] at H
      have c5b0 : decide (a0 < 1) = false := decide_eq_false c5
      clear c5
      (first | rw [c5b0] | (simp only [i64_w, i32_w]; rw [c5b0]) | skip)
      have H' := Aside0.mk H
      clear H
      go_wp2
      go_meet
      case rel => exact ⟨_, (decide (a0 > 256)), (by first | rfl | (simp; done) | (simp [*]; done)), H', ⟨by first | omega | exact Nat.le_refl _⟩, ⟨by (with_reducible repeat (first | apply Kd.S_alloc | apply Kd.S_drewN | apply Kd.S_drew)); exact HO190.out⟩, ⟨by repeat (first | (with_reducible first | exact HB.out | apply below_alloc | apply pw_below_drewN | apply below_drew1) | exact HB.out)⟩⟩
  case rest =>
    clear HC3
    try clear c1
    try clear p2
    try clear c5
    try clear c5b0
    obtain ⟨kq, x15_2, rfl, HA, HJ2, HO_3, HB⟩ := hcut
    cases kq with
    | zero => exact absurd HA.out (by simp [laws_FnMatrixIdentity.j0])
    | succ kj2 =>
      have H := HA.out
      clear HA
      simp only [laws_FnMatrixIdentity.j0] at H
      by_cases c6 : x15_2 = true
      · subst c6
        have H1 : (some (!t188)) = some r := by rw [if_pos rfl] at H; exact H
        clear H
        have H := H1
        clear H1
        obtain rfl := Option.some.inj H
        go_wp2
        go_ret
        exact ⟨by first | rfl | (simp [errW_none, errW_some] <;> rfl) | (simp [*, errW_none, errW_some] <;> rfl), by repeat (first | (with_reducible first | exact HB.out | apply below_alloc | apply pw_below_drewN | apply below_drew1) | exact HB.out)⟩
      · replace c6 := Bool.eq_false_iff.mpr c6
        subst c6
        have H1 : (if t188 = true then ((spec_Unit.f kj2 a0).bind fun t191 => ((spec_EqualMatrices.f kj2 t187 t191).bind fun t194 => (some t194))) else (some false)) = some r := by rw [if_neg (show ¬ (false = true) by decide)] at H; exact H
        clear H
        have H := H1
        clear H1
        by_cases c7 : t188 = true
        · subst c7
          have H1 : ((spec_Unit.f kj2 a0).bind fun t191 => ((spec_EqualMatrices.f kj2 t187 t191).bind fun t194 => (some t194))) = some r := by rw [if_pos rfl] at H; exact H
          clear H
          have H := H1
          clear H1
          replace H := Option.bind_eq_some_iff.mp H
          obtain ⟨t191, A80, H⟩ := H
          replace H : ((spec_EqualMatrices.f kj2 t187 t191).bind fun t194 => (some t194)) = some r := H
          have A8 := Aside0.mk A80
          clear A80
          replace H := Option.bind_eq_some_iff.mp H
          obtain ⟨t194, A90, H⟩ := H
          replace H : (some t194) = some r := H
          have A9 := Aside0.mk A90
          clear A90
          obtain rfl := Option.some.inj H
          go_wp2_with (first | (go_at_call 18; (with_reducible refine (spec_Unit.calls kj2 a0 t191 _ A8.out).mono ?_); rintro e w10 ⟨v192, rfl, ho0, hb⟩; have n0_ := Aside0.mk (Kd.S_elder' (by (with_reducible repeat (first | apply Kd.S_alloc | apply Kd.S_drewN | apply Kd.S_drew)); exact HO_3.out) (Kd.S_base ho0) hb); have n1_ := Aside0.mk (Kd.S_lower (Kd.S_new' ho0 (Kd.S_lt (by (with_reducible repeat (first | apply Kd.S_alloc | apply Kd.S_drewN | apply Kd.S_drew)); exact HO_3.out))) (below_size (by repeat (first | (with_reducible first | exact HB.out | apply below_alloc | apply pw_below_drewN | apply below_drew1) | exact HB.out)))); have n2_ := Aside0.mk (below_step (by repeat (first | (with_reducible first | exact HB.out | apply below_alloc | apply pw_below_drewN | apply below_drew1) | exact HB.out)) hb); clear HO_3; clear HB; have HO_3 := n0_; have HO193 := n1_; have HB := n2_; clear n0_ n1_ n2_; (try clear hb); (try clear hb2); (try clear hk); (try clear hi); (try clear ho0); obtain ⟨Ao11, co11, eo11⟩ := Kd.S_slice HO_3.out; subst eo11; obtain ⟨Ao12, co12, eo12⟩ := Kd.S_slice HO193.out; subst eo12) | (go_at_call 17; (with_reducible refine (spec_EqualMatrices.calls kj2 _ _ t187 _ _ t191 t194 _ ?side1 ?side2 ?side3 ?side4 A9.out).mono ?_); (case side1 => repeat (first | exact (Kd.S_reads' HO_3.out).2.2 | (with_reducible refine Kd.C_alloc ?_ _) | (with_reducible refine Kd.C_drewN ?_ _) | (with_reducible refine Kd.C_drew ?_))); (case side2 => exact (Kd.S_reads' HO_3.out).2.1); (case side3 => repeat (first | exact (Kd.S_reads' HO193.out).2.2 | (with_reducible refine Kd.C_alloc ?_ _) | (with_reducible refine Kd.C_drewN ?_ _) | (with_reducible refine Kd.C_drew ?_))); (case side4 => exact (Kd.S_reads' HO193.out).2.1); rintro e w' ⟨rfl, ⟨nd, rfl⟩⟩))
          go_ret
          exact ⟨by first | rfl | (simp [errW_none, errW_some] <;> rfl) | (simp [*, errW_none, errW_some] <;> rfl), by repeat (first | (with_reducible first | exact HB.out | apply below_alloc | apply pw_below_drewN | apply below_drew1) | exact HB.out)⟩
        · replace c7 := Bool.eq_false_iff.mpr c7
          subst c7
          have H1 : (some false) = some r := by rw [if_neg (show ¬ (false = true) by decide)] at H; exact H
          clear H
          have H := H1
          clear H1
          obtain rfl := Option.some.inj H
          go_wp2
          go_ret
          exact ⟨by first | rfl | (simp [errW_none, errW_some] <;> rfl) | (simp [*, errW_none, errW_some] <;> rfl), by repeat (first | (with_reducible first | exact HB.out | apply below_alloc | apply pw_below_drewN | apply below_drew1) | exact HB.out)⟩

end Go.Proofs.YtipbhclpeogcmaaDoor.Q
