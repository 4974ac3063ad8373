-- Written by a program of ours (wip/xp) out of the translation; Lean checks it.
import Derived.Test.YtipbhclpeogcmaaDoorQ0
import Derived.Test.YtipbhclpeogcmaaDoorQF10
import Derived.Test.YtipbhclpeogcmaaDoorQF11
import Derived.Test.YtipbhclpeogcmaaDoorQF13
namespace Go.Proofs.YtipbhclpeogcmaaDoor.Q
open Go.RowKit Go.Proofs.YtipbhclpeogcmaaDoorW.PrintWords Go.Proofs.YtipbhclpeogcmaaDoorW.PrintLast Go.Proofs.YtipbhclpeogcmaaDoorW.PrintMore
attribute [local go_sem] max2_int min2_int max_two min_two max_three min_three max_four min_four   -- for this text's walks alone
set_option linter.unusedVariables false
set_option linter.unusedSimpArgs false

/-! ### laws_FnFieldMultiplies: function 4 -/
def laws_FnFieldMultiplies.f (k : Nat) (a0 : Int) (a1 : Int) : Option (Bool) := (impl_Mul.f a0 a1).bind fun t119 => ((spec_Mul.f k a0 a1).bind fun t120 => (if t119 = t120 then ((impl_Add.f a0 a1).bind fun t121 => (some (t121 == (Go.bits .xor .u8 a0 a1)))) else (some false)))
theorem laws_FnFieldMultiplies.mono : ∀ a0 a1 k, LeO (laws_FnFieldMultiplies.f k a0 a1) (laws_FnFieldMultiplies.f (k + 1) a0 a1) := by
  intro a0 a1 k
  unfold laws_FnFieldMultiplies.f
  repeat' first
      | (with_reducible exact spec_Mul.mono _ _ _)
      | (with_reducible exact LeO.refl _)
      | (with_reducible exact LeO.none _)
      | (with_reducible refine LeO.ite ?_ ?_)
      | (with_reducible refine LeO.bind ?_ (fun _ => ?_))
      | exact spec_Mul.mono _ _ _
      | exact LeO.none _
      | refine LeO.ite ?_ ?_
      | refine LeO.bind ?_ (fun _ => ?_)
set_option maxHeartbeats 8000000 in
set_option maxRecDepth 100000 in
theorem laws_FnFieldMultiplies.calls (k : Nat) (a0 : Int) (a1 : Int) (r : Bool) (w : World) (hT : TabOK w) (h : laws_FnFieldMultiplies.f k a0 a1 = some r) :
    Calls Tryd.prog 4 #[.int .u8 a0, .int .u8 a1] w fun e w' => e = .returned (.bool r) ∧ Drawn0 w w' := by
  have HT := Aside0.mk hT
  clear hT
  have H : ((impl_Mul.f a0 a1).bind fun t119 => ((spec_Mul.f k a0 a1).bind fun t120 => (if t119 = t120 then ((impl_Add.f a0 a1).bind fun t121 => (some (t121 == (Go.bits .xor .u8 a0 a1)))) else (some false)))) = some r := h
  clear h
  replace H := Option.bind_eq_some_iff.mp H
  obtain ⟨t119, A30, H⟩ := H
  replace H : ((spec_Mul.f k a0 a1).bind fun t120 => (if t119 = t120 then ((impl_Add.f a0 a1).bind fun t121 => (some (t121 == (Go.bits .xor .u8 a0 a1)))) else (some false))) = some r := H
  have A3 := Aside0.mk A30
  clear A30
  replace H := Option.bind_eq_some_iff.mp H
  obtain ⟨t120, A40, H⟩ := H
  replace H : (if t119 = t120 then ((impl_Add.f a0 a1).bind fun t121 => (some (t121 == (Go.bits .xor .u8 a0 a1)))) else (some false)) = some r := H
  have A4 := Aside0.mk A40
  clear A40
  by_cases c5 : t119 = t120
  · rw [if_pos c5] at H
    have c5b0 : (t119 == t120) = true := beq_iff_eq.mpr c5
    have c5b1 : (t119 != t120) = false := bne_eq_false_iff_eq.mpr c5
    clear c5
    replace H := Option.bind_eq_some_iff.mp H
    obtain ⟨t121, A60, H⟩ := H
    replace H : (some (t121 == (Go.bits .xor .u8 a0 a1))) = some r := H
    have A6 := Aside0.mk A60
    clear A60
    obtain rfl := Option.some.inj H
    go_enter Tryd.func4, Tryd.ntmps4
    go_wp2_with (first | ((with_reducible refine gate_callee (f := 11) rfl ?_); refine goesL_ (some 7) rfl rfl Tryd.func11 (by kernel_rfl) rfl #[.int .u8 a0, .int .u8 a1] rfl (by (try simp only [List.map_toArray, List.map_cons, List.map_nil]); first | done | rfl | (simp only [List.length_drop, List.length_take]; rfl)) ?_; (with_reducible refine (impl_Mul.calls a0 a1 t119 _ ?side1 A3.out).mono ?_); (case side1 => exact HT.out); rintro e w' ⟨rfl, ⟨nd, rfl⟩⟩; refine ⟨_, rfl, ?_⟩) | ((with_reducible refine gate_callee (f := 13) rfl ?_); refine goesL_ (some 10) rfl rfl Tryd.func13 (by kernel_rfl) rfl #[.int .u8 a0, .int .u8 a1] rfl (by (try simp only [List.map_toArray, List.map_cons, List.map_nil]); first | done | rfl | (simp only [List.length_drop, List.length_take]; rfl)) ?_; (with_reducible refine (spec_Mul.calls k a0 a1 t120 _ A4.out).mono ?_); rintro e w' ⟨rfl, ⟨nd, rfl⟩⟩; refine ⟨_, rfl, ?_⟩) | (go_at_call 10; (with_reducible refine (impl_Add.calls a0 a1 t121 _ A6.out).mono ?_); rintro e w' ⟨rfl, ⟨nd, rfl⟩⟩))
    go_ret
    exact ⟨by first | rfl | (simp; done) | (simp [*]; done), by repeat (first | exact Drawn0.refl _ | apply Drawn0.step)⟩
  · rw [if_neg c5] at H
    have c5b0 : (t119 == t120) = false := beq_eq_false_iff_ne.mpr c5
    have c5b1 : (t119 != t120) = true := bne_iff_ne.mpr c5
    obtain rfl := Option.some.inj H
    go_enter Tryd.func4, Tryd.ntmps4
    go_wp2_with (first | ((with_reducible refine gate_callee (f := 11) rfl ?_); refine goesL_ (some 7) rfl rfl Tryd.func11 (by kernel_rfl) rfl #[.int .u8 a0, .int .u8 a1] rfl (by (try simp only [List.map_toArray, List.map_cons, List.map_nil]); first | done | rfl | (simp only [List.length_drop, List.length_take]; rfl)) ?_; (with_reducible refine (impl_Mul.calls a0 a1 t119 _ ?side1 A3.out).mono ?_); (case side1 => exact HT.out); rintro e w' ⟨rfl, ⟨nd, rfl⟩⟩; refine ⟨_, rfl, ?_⟩) | ((with_reducible refine gate_callee (f := 13) rfl ?_); refine goesL_ (some 10) rfl rfl Tryd.func13 (by kernel_rfl) rfl #[.int .u8 a0, .int .u8 a1] rfl (by (try simp only [List.map_toArray, List.map_cons, List.map_nil]); first | done | rfl | (simp only [List.length_drop, List.length_take]; rfl)) ?_; (with_reducible refine (spec_Mul.calls k a0 a1 t120 _ A4.out).mono ?_); rintro e w' ⟨rfl, ⟨nd, rfl⟩⟩; refine ⟨_, rfl, ?_⟩))
    go_ret
    exact ⟨by first | rfl | (simp; done) | (simp [*]; done), by repeat (first | exact Drawn0.refl _ | apply Drawn0.step)⟩

end Go.Proofs.YtipbhclpeogcmaaDoor.Q
