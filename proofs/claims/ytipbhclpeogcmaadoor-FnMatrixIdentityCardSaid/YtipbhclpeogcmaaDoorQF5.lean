-- Written by a program of ours (wip/xp) out of the translation; Lean checks it.
import Derived.Test.YtipbhclpeogcmaaDoorQ0
import Derived.Test.YtipbhclpeogcmaaDoorQF14
import Derived.Test.YtipbhclpeogcmaaDoorQF15
namespace Go.Proofs.YtipbhclpeogcmaaDoor.Q
open Go.RowKit Go.Proofs.YtipbhclpeogcmaaDoorW.PrintWords Go.Proofs.YtipbhclpeogcmaaDoorW.PrintLast Go.Proofs.YtipbhclpeogcmaaDoorW.PrintMore
attribute [local go_sem] max2_int min2_int max_two min_two max_three min_three max_four min_four   -- for this text's walks alone
set_option linter.unusedVariables false
set_option linter.unusedSimpArgs false

/-! ### laws_FnFieldPowers: function 5 -/
def laws_FnFieldPowers.j0 : Nat → Int → Int → Int → Bool → Bool → Option (Bool)
  | 0, _, _, _, _, _ => none
  | k + 1, x0, x1, x5, x6, x18 => if x18 = true then (some (!x6)) else (if x0 = 0 then (if x6 = true then ((spec_Pow.f k x0 (mn x1 1)).bind fun t127 => (some (x5 == t127))) else (some false)) else (if x6 = true then ((spec_Pow.f k x0 (Int.tmod x1 255)).bind fun t128 => (some (x5 == t128))) else (some false)))
def laws_FnFieldPowers.f (k : Nat) (a0 : Int) (a1 : Int) : Option (Bool) := (impl_Exp.f a0 a1).bind fun bt125 => (if a1 < 0 then (laws_FnFieldPowers.j0 k a0 a1 bt125.1 bt125.2 true) else (laws_FnFieldPowers.j0 k a0 a1 bt125.1 bt125.2 (decide (a1 > 100000))))
theorem laws_FnFieldPowers.mono_l : ∀ k, (∀ y0 y1 y2 y3 y4, LeO (laws_FnFieldPowers.j0 k y0 y1 y2 y3 y4) (laws_FnFieldPowers.j0 (k + 1) y0 y1 y2 y3 y4))
  | 0 => fun _ _ _ _ _ r h => by simp [laws_FnFieldPowers.j0] at h
  | k + 1 => by
    have ih0 := laws_FnFieldPowers.mono_l k
    · intro y0 y1 y2 y3 y4
      unfold laws_FnFieldPowers.j0
      repeat' first
      | (with_reducible exact ih0 _ _ _ _ _)
      | (with_reducible exact spec_Pow.mono _ _ _)
      | (with_reducible exact LeO.refl _)
      | (with_reducible exact LeO.none _)
      | (with_reducible refine LeO.ite ?_ ?_)
      | (with_reducible refine LeO.bind ?_ (fun _ => ?_))
      | exact ih0 _ _ _ _ _
      | exact spec_Pow.mono _ _ _
      | exact LeO.none _
      | refine LeO.ite ?_ ?_
      | refine LeO.bind ?_ (fun _ => ?_)
theorem laws_FnFieldPowers.mono : ∀ a0 a1 k, LeO (laws_FnFieldPowers.f k a0 a1) (laws_FnFieldPowers.f (k + 1) a0 a1) := by
  intro a0 a1 k
  have ih0 := laws_FnFieldPowers.mono_l k
  unfold laws_FnFieldPowers.f
  repeat' first
      | (with_reducible exact ih0 _ _ _ _ _)
      | (with_reducible exact spec_Pow.mono _ _ _)
      | (with_reducible exact LeO.refl _)
      | (with_reducible exact LeO.none _)
      | (with_reducible refine LeO.ite ?_ ?_)
      | (with_reducible refine LeO.bind ?_ (fun _ => ?_))
      | exact ih0 _ _ _ _ _
      | exact spec_Pow.mono _ _ _
      | exact LeO.none _
      | refine LeO.ite ?_ ?_
      | refine LeO.bind ?_ (fun _ => ?_)
set_option maxHeartbeats 8000000 in
set_option maxRecDepth 100000 in
theorem laws_FnFieldPowers.calls (k : Nat) (a0 : Int) (a1 : Int) (r : Bool) (w : World) (hT : TabOK w) (h : laws_FnFieldPowers.f k a0 a1 = some r) :
    Calls Tryd.prog 5 #[.int .u8 a0, .int .i64 a1] w fun e w' => e = .returned (.bool r) ∧ Below w.heap.size w w' := by
  have HT := Aside0.mk hT
  clear hT
  have HB := Aside0.mk (Below.refl w.heap.size w)
  have H : ((impl_Exp.f a0 a1).bind fun bt125 => (if a1 < 0 then (laws_FnFieldPowers.j0 k a0 a1 bt125.1 bt125.2 true) else (laws_FnFieldPowers.j0 k a0 a1 bt125.1 bt125.2 (decide (a1 > 100000))))) = some r := h
  clear h
  replace H := Option.bind_eq_some_iff.mp H
  obtain ⟨⟨t125, t126⟩, A30, H⟩ := H
  replace H : (if a1 < 0 then (laws_FnFieldPowers.j0 k a0 a1 t125 t126 true) else (laws_FnFieldPowers.j0 k a0 a1 t125 t126 (decide (a1 > 100000)))) = some r := H
  have A3 := Aside0.mk A30
  clear A30
  have HC4 := Aside0.mk H
  clear H
  go_enter Tryd.func5, Tryd.ntmps5
  go_upto_region 2 with (first | ((with_reducible refine gate_callee (f := 14) rfl ?_); refine goesL_ (some 10) rfl rfl Tryd.func14 (by kernel_rfl) rfl #[.int .u8 a0, .int .i64 a1] rfl (by (try simp only [List.map_toArray, List.map_cons, List.map_nil]); first | done | rfl | (simp only [List.length_drop, List.length_take]; rfl)) ?_; (with_reducible refine (impl_Exp.calls a0 a1 t125 t126 _ ?side1 A3.out).mono ?_); (case side1 => exact TabOK.below HT.out (by repeat (first | (with_reducible first | exact HB.out | apply below_alloc | apply pw_below_drewN | apply below_drew1) | exact HB.out))); rintro e w' ⟨rfl, ⟨nd, rfl⟩⟩; refine ⟨_, rfl, ?_⟩))
  (try simp only [Act.put, List.setIfInBounds_toArray, List.set_cons_zero, List.set_cons_succ])
  go_cut [18] (fun v18 wc => ∃ (kq : Nat) (x18_3 : Bool), v18 = .bool x18_3 ∧ Aside0 (laws_FnFieldPowers.j0 kq a0 a1 t125 t126 x18_3 = some r) ∧ Aside0 (kq ≤ k) ∧ Aside0 (Below w.heap.size w wc))
  case first =>
    have H := HC4.out
    clear HC4
    by_cases c5 : a1 < 0
    · rw [if_pos c5] at H
      have c5b0 : decide (a1 < 0) = true := decide_eq_true c5
      clear c5
      (first | rw [c5b0] | (simp only [i64_w, i32_w]; rw [c5b0]) | skip)
      have H' := Aside0.mk H
      clear H
      go_wp2
      go_meet
      case rel => exact ⟨_, (true), (by first | rfl | (simp; done) | (simp [*]; done)), H', ⟨by first | omega | exact Nat.le_refl _⟩, ⟨by repeat (first | (with_reducible first | exact HB.out | apply below_alloc | apply pw_below_drewN | apply below_drew1) | exact HB.out)⟩⟩
    · rw [if_neg c5] at H
      have c5b0 : decide (a1 < 0) = false := decide_eq_false c5
      clear c5
      (first | rw [c5b0] | (simp only [i64_w, i32_w]; rw [c5b0]) | skip)
      have H' := Aside0.mk H
      clear H
      go_wp2
      go_meet
      case rel => exact ⟨_, (decide (a1 > 100000)), (by first | rfl | (simp; done) | (simp [*]; done)), H', ⟨by first | omega | exact Nat.le_refl _⟩, ⟨by repeat (first | (with_reducible first | exact HB.out | apply below_alloc | apply pw_below_drewN | apply below_drew1) | exact HB.out)⟩⟩
  case rest =>
    clear HC4
    try clear c1
    try clear p2
    try clear c5
    try clear c5b0
    obtain ⟨kq, x18_3, rfl, HA, HJ3, HB⟩ := hcut
    cases kq with
    | zero => exact absurd HA.out (by simp [laws_FnFieldPowers.j0])
    | succ kj3 =>
      have H := HA.out
      clear HA
      simp only [laws_FnFieldPowers.j0] at H
      by_cases c6 : x18_3 = true
      · subst c6
        have H1 : (some (!t126)) = some r := by rw [if_pos rfl] at H; exact H
        clear H
        have H := H1
        clear H1
        obtain rfl := Option.some.inj H
        go_wp2
        go_ret
        exact ⟨by first | rfl | (simp [errW_none, errW_some] <;> rfl) | (simp [*, errW_none, errW_some] <;> rfl), by repeat (first | (with_reducible first | exact HB.out | apply below_alloc | apply pw_below_drewN | apply below_drew1) | exact HB.out)⟩
      · replace c6 := Bool.eq_false_iff.mpr c6
        subst c6
        have H1 : (if a0 = 0 then (if t126 = true then ((spec_Pow.f kj3 a0 (mn a1 1)).bind fun t127 => (some (t125 == t127))) else (some false)) else (if t126 = true then ((spec_Pow.f kj3 a0 (Int.tmod a1 255)).bind fun t128 => (some (t125 == t128))) else (some false))) = some r := by rw [if_neg (show ¬ (false = true) by decide)] at H; exact H
        clear H
        have H := H1
        clear H1
        by_cases c7 : a0 = 0
        · rw [if_pos c7] at H
          have c7b0 : (a0 == 0) = true := beq_iff_eq.mpr c7
          have c7b1 : (a0 != 0) = false := bne_eq_false_iff_eq.mpr c7
          clear c7
          by_cases c8 : t126 = true
          · subst c8
            have H1 : ((spec_Pow.f kj3 a0 (mn a1 1)).bind fun t127 => (some (t125 == t127))) = some r := by rw [if_pos rfl] at H; exact H
            clear H
            have H := H1
            clear H1
            obtain ⟨ji9, hji9⟩ : ∃ j_ : Int, (mn a1 1) = j_ := ⟨_, rfl⟩
            replace H : ((spec_Pow.f kj3 a0 (ji9)).bind fun t127 => (some (t125 == t127))) = some r := by first | (rw [hji9] at H; exact H) | (simp only [hji9] at H ⊢; exact H)
            have hji9_ : (if 1 < a1 then 1 else a1) = ji9 := hji9
            replace H := Option.bind_eq_some_iff.mp H
            obtain ⟨t127, A100, H⟩ := H
            replace H : (some (t125 == t127)) = some r := H
            have A10 := Aside0.mk A100
            clear A100
            obtain rfl := Option.some.inj H
            go_wp2_with (first | (go_at_call 15; (with_reducible refine (spec_Pow.calls kj3 a0 ji9 t127 _ A10.out).mono ?_); rintro e w' ⟨rfl, ⟨nd, rfl⟩⟩))
            go_ret
            exact ⟨by first | rfl | (simp [errW_none, errW_some] <;> rfl) | (simp only [← hji9]; first | rfl | (simp [errW_none, errW_some] <;> rfl)) | (simp [*, errW_none, errW_some] <;> rfl), by repeat (first | (with_reducible first | exact HB.out | apply below_alloc | apply pw_below_drewN | apply below_drew1) | exact HB.out)⟩
          · replace c8 := Bool.eq_false_iff.mpr c8
            subst c8
            have H1 : (some false) = some r := by rw [if_neg (show ¬ (false = true) by decide)] at H; exact H
            clear H
            have H := H1
            clear H1
            obtain rfl := Option.some.inj H
            go_wp2
            go_ret
            exact ⟨by first | rfl | (simp [errW_none, errW_some] <;> rfl) | (simp [*, errW_none, errW_some] <;> rfl), by repeat (first | (with_reducible first | exact HB.out | apply below_alloc | apply pw_below_drewN | apply below_drew1) | exact HB.out)⟩
        · rw [if_neg c7] at H
          have c7b0 : (a0 == 0) = false := beq_eq_false_iff_ne.mpr c7
          have c7b1 : (a0 != 0) = true := bne_iff_ne.mpr c7
          by_cases c11 : t126 = true
          · subst c11
            have H1 : ((spec_Pow.f kj3 a0 (Int.tmod a1 255)).bind fun t128 => (some (t125 == t128))) = some r := by rw [if_pos rfl] at H; exact H
            clear H
            have H := H1
            clear H1
            replace H := Option.bind_eq_some_iff.mp H
            obtain ⟨t128, A120, H⟩ := H
            replace H : (some (t125 == t128)) = some r := H
            have A12 := Aside0.mk A120
            clear A120
            obtain rfl := Option.some.inj H
            go_wp2_with (first | (go_at_call 15; (with_reducible refine (spec_Pow.calls kj3 a0 (Int.tmod a1 255) t128 _ A12.out).mono ?_); rintro e w' ⟨rfl, ⟨nd, rfl⟩⟩))
            go_ret
            exact ⟨by first | rfl | (simp [errW_none, errW_some] <;> rfl) | (simp [*, errW_none, errW_some] <;> rfl), by repeat (first | (with_reducible first | exact HB.out | apply below_alloc | apply pw_below_drewN | apply below_drew1) | exact HB.out)⟩
          · replace c11 := Bool.eq_false_iff.mpr c11
            subst c11
            have H1 : (some false) = some r := by rw [if_neg (show ¬ (false = true) by decide)] at H; exact H
            clear H
            have H := H1
            clear H1
            obtain rfl := Option.some.inj H
            go_wp2
            go_ret
            exact ⟨by first | rfl | (simp [errW_none, errW_some] <;> rfl) | (simp [*, errW_none, errW_some] <;> rfl), by repeat (first | (with_reducible first | exact HB.out | apply below_alloc | apply pw_below_drewN | apply below_drew1) | exact HB.out)⟩

end Go.Proofs.YtipbhclpeogcmaaDoor.Q
