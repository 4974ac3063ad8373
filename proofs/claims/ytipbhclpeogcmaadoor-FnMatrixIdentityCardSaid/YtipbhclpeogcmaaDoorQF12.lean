-- Written by a program of ours (wip/xp) out of the translation; Lean checks it.
import Derived.Test.YtipbhclpeogcmaaDoorQ0
import Derived.Test.YtipbhclpeogcmaaDoorQF13
namespace Go.Proofs.YtipbhclpeogcmaaDoor.Q
open Go.RowKit Go.Proofs.YtipbhclpeogcmaaDoorW.PrintWords Go.Proofs.YtipbhclpeogcmaaDoorW.PrintLast Go.Proofs.YtipbhclpeogcmaaDoorW.PrintMore
attribute [local go_sem] max2_int min2_int max_two min_two max_three min_three max_four min_four   -- for this text's walks alone
set_option linter.unusedVariables false
set_option linter.unusedSimpArgs false

/-! ### spec_Trace: function 12 -/
def spec_Trace.l0 : Nat → Int → Int → Int → Option (Int)
  | 0, _, _, _ => none
  | k + 1, x0, x3, x4 => if x4 < 8 then ((spec_Mul.f k x0 x0).bind fun t107 => (spec_Trace.l0 k t107 (Go.bits .xor .u8 x3 x0) (wrap64 (x4 + 1)))) else (some x3)
def spec_Trace.f (k : Nat) (a0 : Int) : Option (Int) := spec_Trace.l0 k a0 0 0
theorem spec_Trace.mono_l : ∀ k, (∀ y0 y1 y2, LeO (spec_Trace.l0 k y0 y1 y2) (spec_Trace.l0 (k + 1) y0 y1 y2))
  | 0 => fun _ _ _ r h => by simp [spec_Trace.l0] at h
  | k + 1 => by
    have ih0 := spec_Trace.mono_l k
    · intro y0 y1 y2
      unfold spec_Trace.l0
      repeat' first
      | (with_reducible exact ih0 _ _ _)
      | (with_reducible exact spec_Mul.mono _ _ _)
      | (with_reducible exact LeO.refl _)
      | (with_reducible exact LeO.none _)
      | (with_reducible refine LeO.ite ?_ ?_)
      | (with_reducible refine LeO.bind ?_ (fun _ => ?_))
      | exact ih0 _ _ _
      | exact spec_Mul.mono _ _ _
      | exact LeO.none _
      | refine LeO.ite ?_ ?_
      | refine LeO.bind ?_ (fun _ => ?_)
theorem spec_Trace.mono : ∀ a0 k, LeO (spec_Trace.f k a0) (spec_Trace.f (k + 1) a0) := by
  intro a0 k
  have ih0 := spec_Trace.mono_l k
  unfold spec_Trace.f
  repeat' first
      | (with_reducible exact ih0 _ _ _)
      | (with_reducible exact spec_Mul.mono _ _ _)
      | (with_reducible exact LeO.refl _)
      | (with_reducible exact LeO.none _)
      | (with_reducible refine LeO.ite ?_ ?_)
      | (with_reducible refine LeO.bind ?_ (fun _ => ?_))
      | exact ih0 _ _ _
      | exact spec_Mul.mono _ _ _
      | exact LeO.none _
      | refine LeO.ite ?_ ?_
      | refine LeO.bind ?_ (fun _ => ?_)
set_option maxHeartbeats 8000000 in
set_option maxRecDepth 100000 in
theorem spec_Trace.calls (k : Nat) (a0 : Int) (r : Int) (w : World) (h : spec_Trace.f k a0 = some r) :
    Calls Tryd.prog 12 #[.int .u8 a0] w fun e w' => e = .returned (.int .u8 r) ∧ Drawn0 w w' := by
  have H : (spec_Trace.l0 k a0 0 0) = some r := h
  clear h
  have H' := Aside0.mk H
  clear H
  go_enter Tryd.func12, Tryd.ntmps12
  go_wp2
  go_loopg [0, 3, 4] k (fun kq v0 v3 v4 w' => ∃ (x0_1 : Int) (x3_1 : Int) (x4_1 : Int), v0 = .int .u8 x0_1 ∧ v3 = .int .u8 x3_1 ∧ v4 = .int .i64 x4_1 ∧ Aside0 (spec_Trace.l0 kq x0_1 x3_1 x4_1 = some r) ∧ Aside0 (kq ≤ k) ∧ Drawn0 w w')
  case atStart => exact ⟨(a0), (0), (0), (by first | rfl | (simp; done) | (simp [*]; done)), (by first | rfl | (simp; done) | (simp [*]; done)), (by first | rfl | (simp; done) | (simp [*]; done)), H', ⟨Nat.le_refl _⟩, by repeat (first | exact Drawn0.refl _ | apply Drawn0.step)⟩
  case round =>
    clear H'
    try clear c1
    obtain ⟨x0_1, x3_1, x4_1, rfl, rfl, rfl, HA, HK1, ⟨m1, rfl⟩⟩ := hrel
    cases gk with
    | zero => exact absurd HA.out (by simp [spec_Trace.l0])
    | succ k1 =>
      have H := HA.out
      clear HA
      simp only [spec_Trace.l0] at H
      by_cases c2 : x4_1 < 8
      · rw [if_pos c2] at H
        have c2b0 : decide (x4_1 < 8) = true := decide_eq_true c2
        clear c2
        replace H := Option.bind_eq_some_iff.mp H
        obtain ⟨t107, A30, H⟩ := H
        replace H : (spec_Trace.l0 k1 t107 (Go.bits .xor .u8 x3_1 x0_1) (wrap64 (x4_1 + 1))) = some r := H
        have A3 := Aside0.mk A30
        clear A30
        have H' := Aside0.mk H
        clear H
        go_wp2_with (first | ((with_reducible refine gate_callee (f := 13) rfl ?_); refine goesL_ (some 14) rfl rfl Tryd.func13 (by kernel_rfl) rfl #[.int .u8 x0_1, .int .u8 x0_1] rfl (by (try simp only [List.map_toArray, List.map_cons, List.map_nil]); first | done | rfl | (simp only [List.length_drop, List.length_take]; rfl)) ?_; (with_reducible refine (spec_Mul.calls k1 x0_1 x0_1 t107 _ A3.out).mono ?_); rintro e w' ⟨rfl, ⟨nd, rfl⟩⟩; refine ⟨_, rfl, ?_⟩))
        go_roundg k1
        case measure => have := HK1.out; omega
        case rel => exact ⟨(t107), (Go.bits .xor .u8 x3_1 x0_1), (wrap64 (x4_1 + 1)), (by first | rfl | (simp; done) | (simp [*]; done)), (by first | rfl | (simp; done) | (simp [*]; done)), (by first | rfl | (simp; done) | (simp [*]; done)), H', ⟨by have := HK1.out; omega⟩, by repeat (first | exact Drawn0.refl _ | apply Drawn0.step)⟩
      · rw [if_neg c2] at H
        have c2b0 : decide (x4_1 < 8) = false := decide_eq_false c2
        clear c2
        obtain rfl := Option.some.inj H
        go_wp2
        go_ret
        exact ⟨by first | rfl | (simp; done) | (simp [*]; done), by repeat (first | exact Drawn0.refl _ | apply Drawn0.step)⟩

end Go.Proofs.YtipbhclpeogcmaaDoor.Q
