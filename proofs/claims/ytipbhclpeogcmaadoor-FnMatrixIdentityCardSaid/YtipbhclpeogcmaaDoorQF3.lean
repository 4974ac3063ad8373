-- Written by a program of ours (wip/xp) out of the translation; Lean checks it.
import Derived.Test.YtipbhclpeogcmaaDoorQ0
import Derived.Test.YtipbhclpeogcmaaDoorQF10
import Derived.Test.YtipbhclpeogcmaaDoorQF11
import Derived.Test.YtipbhclpeogcmaaDoorQF12
namespace Go.Proofs.YtipbhclpeogcmaaDoor.Q
open Go.RowKit Go.Proofs.YtipbhclpeogcmaaDoorW.PrintWords Go.Proofs.YtipbhclpeogcmaaDoorW.PrintLast Go.Proofs.YtipbhclpeogcmaaDoorW.PrintMore
attribute [local go_sem] max2_int min2_int max_two min_two max_three min_three max_four min_four   -- for this text's walks alone
set_option linter.unusedVariables false
set_option linter.unusedSimpArgs false

/-! ### laws_FnFieldHalves: function 3 -/
def laws_FnFieldHalves.l0 : Nat → Int → List Int → Int → Option (Bool)
  | 0, _, _, _ => none
  | k + 1, x0, x3, x4 => if x4 < 256 then ((impl_Mul.f ((x4) % 256) ((x4) % 256)).bind fun t114 => ((impl_Add.f t114 ((x4) % 256)).bind fun t115 => (if t115 = x0 then (if x3.length < 140737488355328 then (laws_FnFieldHalves.l0 k x0 (x3 ++ [(x4) % 256]) (wrap64 (x4 + 1))) else (none)) else (laws_FnFieldHalves.l0 k x0 x3 (wrap64 (x4 + 1)))))) else ((spec_Trace.f k x0).bind fun t111 => (if t111 = 0 then (if (x3.length : Int) = 2 then (if 0 < (x3.length : Int) then (if 1 < (x3.length : Int) then (some ((Go.bits .xor .u8 (rd x3 0) (rd x3 1)) == 1)) else (none)) else (none)) else (some false)) else (some ((x3.length : Int) == 0))))
def laws_FnFieldHalves.f (k : Nat) (a0 : Int) : Option (Bool) := laws_FnFieldHalves.l0 k a0 (([] : List Int)) 0
theorem laws_FnFieldHalves.mono_l : ∀ k, (∀ y0 y1 y2, LeO (laws_FnFieldHalves.l0 k y0 y1 y2) (laws_FnFieldHalves.l0 (k + 1) y0 y1 y2))
  | 0 => fun _ _ _ r h => by simp [laws_FnFieldHalves.l0] at h
  | k + 1 => by
    have ih0 := laws_FnFieldHalves.mono_l k
    · intro y0 y1 y2
      unfold laws_FnFieldHalves.l0
      repeat' first
      | (with_reducible exact ih0 _ _ _)
      | (with_reducible exact spec_Trace.mono _ _)
      | (with_reducible exact LeO.refl _)
      | (with_reducible exact LeO.none _)
      | (with_reducible refine LeO.ite ?_ ?_)
      | (with_reducible refine LeO.bind ?_ (fun _ => ?_))
      | exact ih0 _ _ _
      | exact spec_Trace.mono _ _
      | exact LeO.none _
      | refine LeO.ite ?_ ?_
      | refine LeO.bind ?_ (fun _ => ?_)
theorem laws_FnFieldHalves.mono : ∀ a0 k, LeO (laws_FnFieldHalves.f k a0) (laws_FnFieldHalves.f (k + 1) a0) := by
  intro a0 k
  have ih0 := laws_FnFieldHalves.mono_l k
  unfold laws_FnFieldHalves.f
  repeat' first
      | (with_reducible exact ih0 _ _ _)
      | (with_reducible exact spec_Trace.mono _ _)
      | (with_reducible exact LeO.refl _)
      | (with_reducible exact LeO.none _)
      | (with_reducible refine LeO.ite ?_ ?_)
      | (with_reducible refine LeO.bind ?_ (fun _ => ?_))
      | exact ih0 _ _ _
      | exact spec_Trace.mono _ _
      | exact LeO.none _
      | refine LeO.ite ?_ ?_
      | refine LeO.bind ?_ (fun _ => ?_)
set_option maxHeartbeats 8000000 in
set_option maxRecDepth 100000 in
theorem laws_FnFieldHalves.calls (k : Nat) (a0 : Int) (r : Bool) (w : World) (hT : TabOK w) (h : laws_FnFieldHalves.f k a0 = some r) :
    Calls Tryd.prog 3 #[.int .u8 a0] w fun e w' => e = .returned (.bool r) ∧ Below w.heap.size w w' := by
  have HT := Aside0.mk hT
  clear hT
  have HB := Aside0.mk (Below.refl w.heap.size w)
  have H : (laws_FnFieldHalves.l0 k a0 (([] : List Int)) 0) = some r := h
  clear h
  obtain ⟨y108, hy108⟩ : ∃ y_ : List Int, y_ = (([] : List Int)) := ⟨_, rfl⟩
  replace H : (laws_FnFieldHalves.l0 k a0 y108 0) = some r := by first | (rw [hy108]; with_reducible exact H) | (have H2_ := (Option.bind_some _ _).symm.trans H; rw [hy108]; with_reducible exact H2_) | (have H2_ := (Option.bind_some _ _).symm.trans H; with_reducible exact H2_) | with_reducible exact H | (rw [hy108]; exact H) | exact H
  have Ny108 := Aside0.mk hy108
  clear hy108
  have H' := Aside0.mk H
  clear H
  go_enter Tryd.func3, Tryd.ntmps3
  go_wp2_with (first | ((with_reducible refine gate_dst (N := 5) rfl ?_); refine Kd.R_lit (Kd.int .u8) _ 5 ?hg (N := 5) ?hd (xs := ([] : List Int)) (inner := []) (ok := fun _ => True) (okp := fun _ => True) ?hr ?hp (fun _ hk => hk) trivial (Below.refl _ _) (Nat.le_refl _) (by simp) ?_; (case hd => rfl); (case hg => rfl); (case hr => first | (go_simp; done) | (go_simp; rfl)); (case hp => exact (Reps.none _ _)); intro v109 w2 ho3 hb hg_ hnew_; clear hg_ hnew_; (first | rw [← Ny108.out] at ho3 | (simp only [Int.reduceToNat] at ho3; rw [← Ny108.out] at ho3)); have n0_ := Aside0.mk (Kd.R_lower ho3 (below_size (by repeat (first | (with_reducible first | exact HB.out | apply below_alloc | apply pw_below_drewN | apply below_drew1) | exact HB.out)))); have n1_ := Aside0.mk (below_step (by repeat (first | (with_reducible first | exact HB.out | apply below_alloc | apply pw_below_drewN | apply below_drew1) | exact HB.out)) hb); clear HB; have HO110 := n0_; have HB := n1_; clear n0_ n1_; clear hb ho3))
  repeat (go_quiet (first | ((with_reducible refine gate_dst (N := 5) rfl ?_); refine Kd.R_lit (Kd.int .u8) _ 5 ?hg (N := 5) ?hd (xs := ([] : List Int)) (inner := []) (ok := fun _ => True) (okp := fun _ => True) ?hr ?hp (fun _ hk => hk) trivial (Below.refl _ _) (Nat.le_refl _) (by simp) ?_; (case hd => rfl); (case hg => rfl); (case hr => first | (go_simp; done) | (go_simp; rfl)); (case hp => exact (Reps.none _ _)); intro v109 w2 ho3 hb hg_ hnew_; clear hg_ hnew_; (first | rw [← Ny108.out] at ho3 | (simp only [Int.reduceToNat] at ho3; rw [← Ny108.out] at ho3)); have n0_ := Aside0.mk (Kd.R_lower ho3 (below_size (by repeat (first | (with_reducible first | exact HB.out | apply below_alloc | apply pw_below_drewN | apply below_drew1) | exact HB.out)))); have n1_ := Aside0.mk (below_step (by repeat (first | (with_reducible first | exact HB.out | apply below_alloc | apply pw_below_drewN | apply below_drew1) | exact HB.out)) hb); clear HB; have HO110 := n0_; have HB := n1_; clear n0_ n1_; clear hb ho3)); try go_wp2_with (first | ((with_reducible refine gate_dst (N := 5) rfl ?_); refine Kd.R_lit (Kd.int .u8) _ 5 ?hg (N := 5) ?hd (xs := ([] : List Int)) (inner := []) (ok := fun _ => True) (okp := fun _ => True) ?hr ?hp (fun _ hk => hk) trivial (Below.refl _ _) (Nat.le_refl _) (by simp) ?_; (case hd => rfl); (case hg => rfl); (case hr => first | (go_simp; done) | (go_simp; rfl)); (case hp => exact (Reps.none _ _)); intro v109 w2 ho3 hb hg_ hnew_; clear hg_ hnew_; (first | rw [← Ny108.out] at ho3 | (simp only [Int.reduceToNat] at ho3; rw [← Ny108.out] at ho3)); have n0_ := Aside0.mk (Kd.R_lower ho3 (below_size (by repeat (first | (with_reducible first | exact HB.out | apply below_alloc | apply pw_below_drewN | apply below_drew1) | exact HB.out)))); have n1_ := Aside0.mk (below_step (by repeat (first | (with_reducible first | exact HB.out | apply below_alloc | apply pw_below_drewN | apply below_drew1) | exact HB.out)) hb); clear HB; have HO110 := n0_; have HB := n1_; clear n0_ n1_; clear hb ho3)))
  go_loopg [3, 4] k (fun kq v3 v4 w' => ∃ (x3_1 : List Int) (x4_1 : Int), v4 = .int .i64 x4_1 ∧ Aside0 (laws_FnFieldHalves.l0 kq a0 x3_1 x4_1 = some r) ∧ Aside0 (kq ≤ k) ∧ Aside0 (Kd.R (Kd.int .u8) 5 w' w.heap.size (fun _ => True) v3 x3_1) ∧ Aside0 (Below w.heap.size w w'))
  case atStart => exact ⟨(y108), (0), (by first | rfl | (simp; done) | (simp [*]; done)), H', ⟨Nat.le_refl _⟩, ⟨by (with_reducible repeat (first | apply Kd.R_alloc | apply Kd.R_drewN | apply Kd.R_drew)); exact HO110.out⟩, ⟨by repeat (first | (with_reducible first | exact HB.out | apply below_alloc | apply pw_below_drewN | apply below_drew1) | exact HB.out)⟩⟩
  case round =>
    clear H'
    try clear p2
    try clear c3
    obtain ⟨x3_1, x4_1, rfl, HA, HK1, HO_3, HB⟩ := hrel
    cases gk with
    | zero => exact absurd HA.out (by simp [laws_FnFieldHalves.l0])
    | succ k1 =>
      have H := HA.out
      clear HA
      simp only [laws_FnFieldHalves.l0] at H
      by_cases c4 : x4_1 < 256
      · rw [if_pos c4] at H
        have c4b0 : decide (x4_1 < 256) = true := decide_eq_true c4
        clear c4
        replace H := Option.bind_eq_some_iff.mp H
        obtain ⟨t114, A50, H⟩ := H
        replace H : ((impl_Add.f t114 ((x4_1) % 256)).bind fun t115 => (if t115 = a0 then (if x3_1.length < 140737488355328 then (laws_FnFieldHalves.l0 k1 a0 (x3_1 ++ [(x4_1) % 256]) (wrap64 (x4_1 + 1))) else (none)) else (laws_FnFieldHalves.l0 k1 a0 x3_1 (wrap64 (x4_1 + 1))))) = some r := H
        have A5 := Aside0.mk A50
        clear A50
        replace H := Option.bind_eq_some_iff.mp H
        obtain ⟨t115, A60, H⟩ := H
        replace H : (if t115 = a0 then (if x3_1.length < 140737488355328 then (laws_FnFieldHalves.l0 k1 a0 (x3_1 ++ [(x4_1) % 256]) (wrap64 (x4_1 + 1))) else (none)) else (laws_FnFieldHalves.l0 k1 a0 x3_1 (wrap64 (x4_1 + 1)))) = some r := H
        have A6 := Aside0.mk A60
        clear A60
        by_cases c7 : t115 = a0
        · rw [if_pos c7] at H
          have c7b0 : (t115 == a0) = true := beq_iff_eq.mpr c7
          have c7b1 : (t115 != a0) = false := bne_eq_false_iff_eq.mpr c7
          clear c7
          by_cases c8 : x3_1.length < 140737488355328
          · rw [if_pos c8] at H
            have LMc8 := Aside0.mk c8
            clear c8
            obtain ⟨y116, hy116⟩ : ∃ y_ : List Int, y_ = (x3_1 ++ [(x4_1) % 256]) := ⟨_, rfl⟩
            replace H : (laws_FnFieldHalves.l0 k1 a0 y116 (wrap64 (x4_1 + 1))) = some r := by first | (rw [hy116]; with_reducible exact H) | (have H2_ := (Option.bind_some _ _).symm.trans H; rw [hy116]; with_reducible exact H2_) | (have H2_ := (Option.bind_some _ _).symm.trans H; with_reducible exact H2_) | with_reducible exact H | (rw [hy116]; exact H) | exact H
            have Ny116 := Aside0.mk hy116
            clear hy116
            have H' := Aside0.mk H
            clear H
            go_wp2_with (first | (go_at_call 11; (with_reducible refine (impl_Mul.calls ((x4_1) % 256) ((x4_1) % 256) t114 _ ?side1 A5.out).mono ?_); (case side1 => exact TabOK.below HT.out (by repeat (first | (with_reducible first | exact HB.out | apply below_alloc | apply pw_below_drewN | apply below_drew1) | exact HB.out))); rintro e w' ⟨rfl, ⟨nd, rfl⟩⟩; (try first | exact ⟨rfl, _, World.drewN_drewN _ _ _⟩ | exact ⟨rfl, _, Eq.trans (World.drewN_drewN _ _ _) (congrArg (World.drewN _) (Nat.add_assoc _ _ _))⟩)) | (go_at_call 10; (with_reducible refine (impl_Add.calls t114 ((x4_1) % 256) t115 _ A6.out).mono ?_); rintro e w' ⟨rfl, ⟨nd, rfl⟩⟩; (try first | exact ⟨rfl, _, World.drewN_drewN _ _ _⟩ | exact ⟨rfl, _, Eq.trans (World.drewN_drewN _ _ _) (congrArg (World.drewN _) (Nat.add_assoc _ _ _))⟩)) | ((with_reducible refine gate_builtin (b := .append) (xs := #[.tmp 20, .tmp 23]) rfl ?_); at_builtin; refine Kd.R_append (Kd.int .u8) (w0 := w) w.heap.size rfl (.tmp 20) (.tmp 23) 22 5 (.int .u8 0) 1 rfl Tryd.underlying22 info5 rfl (by decide) (by omega) u3 x3_1 ((x4_1) % 256) [.int .u8 ((x4_1) % 256)] (fun _ => True) (fun _ => False) rfl rfl ?aP (fun _ hk => hk.elim) ?aF ?aO ?aB ?aS ?aL ?_; (case aP => exact rfl); (case aB => exact (by repeat (first | (with_reducible first | exact HB.out | apply below_alloc | apply pw_below_drewN | apply below_drew1) | exact HB.out))); (case aF => exact (fun _ _ => trivial)); (case aO => exact (by (with_reducible repeat (first | apply Kd.R_alloc | apply Kd.R_drewN | apply Kd.R_drew)); exact HO_3.out)); (case aS => exact (below_size (by repeat (first | (with_reducible first | exact HB.out | apply below_alloc | apply pw_below_drewN | apply below_drew1) | exact HB.out)))); (case aL => have := LMc8.out; omega); intro v117 w9 ho hb hg hat; rw [← Ny116.out] at ho; have n0_ := Aside0.mk (hb); have n1_ := Aside0.mk (ho); clear HB; clear HO_3; have HB := n0_; have HO118 := n1_; clear n0_ n1_; clear ho hb hg hat))
            repeat (go_quiet (first | (go_at_call 11; (with_reducible refine (impl_Mul.calls ((x4_1) % 256) ((x4_1) % 256) t114 _ ?side1 A5.out).mono ?_); (case side1 => exact TabOK.below HT.out (by repeat (first | (with_reducible first | exact HB.out | apply below_alloc | apply pw_below_drewN | apply below_drew1) | exact HB.out))); rintro e w' ⟨rfl, ⟨nd, rfl⟩⟩; (try first | exact ⟨rfl, _, World.drewN_drewN _ _ _⟩ | exact ⟨rfl, _, Eq.trans (World.drewN_drewN _ _ _) (congrArg (World.drewN _) (Nat.add_assoc _ _ _))⟩)) | (go_at_call 10; (with_reducible refine (impl_Add.calls t114 ((x4_1) % 256) t115 _ A6.out).mono ?_); rintro e w' ⟨rfl, ⟨nd, rfl⟩⟩; (try first | exact ⟨rfl, _, World.drewN_drewN _ _ _⟩ | exact ⟨rfl, _, Eq.trans (World.drewN_drewN _ _ _) (congrArg (World.drewN _) (Nat.add_assoc _ _ _))⟩)) | ((with_reducible refine gate_builtin (b := .append) (xs := #[.tmp 20, .tmp 23]) rfl ?_); at_builtin; refine Kd.R_append (Kd.int .u8) (w0 := w) w.heap.size rfl (.tmp 20) (.tmp 23) 22 5 (.int .u8 0) 1 rfl Tryd.underlying22 info5 rfl (by decide) (by omega) u3 x3_1 ((x4_1) % 256) [.int .u8 ((x4_1) % 256)] (fun _ => True) (fun _ => False) rfl rfl ?aP (fun _ hk => hk.elim) ?aF ?aO ?aB ?aS ?aL ?_; (case aP => exact rfl); (case aB => exact (by repeat (first | (with_reducible first | exact HB.out | apply below_alloc | apply pw_below_drewN | apply below_drew1) | exact HB.out))); (case aF => exact (fun _ _ => trivial)); (case aO => exact (by (with_reducible repeat (first | apply Kd.R_alloc | apply Kd.R_drewN | apply Kd.R_drew)); exact HO_3.out)); (case aS => exact (below_size (by repeat (first | (with_reducible first | exact HB.out | apply below_alloc | apply pw_below_drewN | apply below_drew1) | exact HB.out)))); (case aL => have := LMc8.out; omega); intro v117 w9 ho hb hg hat; rw [← Ny116.out] at ho; have n0_ := Aside0.mk (hb); have n1_ := Aside0.mk (ho); clear HB; clear HO_3; have HB := n0_; have HO118 := n1_; clear n0_ n1_; clear ho hb hg hat)); try go_wp2_with (first | (go_at_call 11; (with_reducible refine (impl_Mul.calls ((x4_1) % 256) ((x4_1) % 256) t114 _ ?side1 A5.out).mono ?_); (case side1 => exact TabOK.below HT.out (by repeat (first | (with_reducible first | exact HB.out | apply below_alloc | apply pw_below_drewN | apply below_drew1) | exact HB.out))); rintro e w' ⟨rfl, ⟨nd, rfl⟩⟩; (try first | exact ⟨rfl, _, World.drewN_drewN _ _ _⟩ | exact ⟨rfl, _, Eq.trans (World.drewN_drewN _ _ _) (congrArg (World.drewN _) (Nat.add_assoc _ _ _))⟩)) | (go_at_call 10; (with_reducible refine (impl_Add.calls t114 ((x4_1) % 256) t115 _ A6.out).mono ?_); rintro e w' ⟨rfl, ⟨nd, rfl⟩⟩; (try first | exact ⟨rfl, _, World.drewN_drewN _ _ _⟩ | exact ⟨rfl, _, Eq.trans (World.drewN_drewN _ _ _) (congrArg (World.drewN _) (Nat.add_assoc _ _ _))⟩)) | ((with_reducible refine gate_builtin (b := .append) (xs := #[.tmp 20, .tmp 23]) rfl ?_); at_builtin; refine Kd.R_append (Kd.int .u8) (w0 := w) w.heap.size rfl (.tmp 20) (.tmp 23) 22 5 (.int .u8 0) 1 rfl Tryd.underlying22 info5 rfl (by decide) (by omega) u3 x3_1 ((x4_1) % 256) [.int .u8 ((x4_1) % 256)] (fun _ => True) (fun _ => False) rfl rfl ?aP (fun _ hk => hk.elim) ?aF ?aO ?aB ?aS ?aL ?_; (case aP => exact rfl); (case aB => exact (by repeat (first | (with_reducible first | exact HB.out | apply below_alloc | apply pw_below_drewN | apply below_drew1) | exact HB.out))); (case aF => exact (fun _ _ => trivial)); (case aO => exact (by (with_reducible repeat (first | apply Kd.R_alloc | apply Kd.R_drewN | apply Kd.R_drew)); exact HO_3.out)); (case aS => exact (below_size (by repeat (first | (with_reducible first | exact HB.out | apply below_alloc | apply pw_below_drewN | apply below_drew1) | exact HB.out)))); (case aL => have := LMc8.out; omega); intro v117 w9 ho hb hg hat; rw [← Ny116.out] at ho; have n0_ := Aside0.mk (hb); have n1_ := Aside0.mk (ho); clear HB; clear HO_3; have HB := n0_; have HO118 := n1_; clear n0_ n1_; clear ho hb hg hat)))
            go_roundg k1
            case measure => have := HK1.out; omega
            case rel => exact ⟨(y116), (wrap64 (x4_1 + 1)), (by first | rfl | (simp; done) | (simp [*]; done)), H', ⟨by have := HK1.out; omega⟩, ⟨by (with_reducible repeat (first | apply Kd.R_alloc | apply Kd.R_drewN | apply Kd.R_drew)); exact HO118.out⟩, ⟨by repeat (first | (with_reducible first | exact HB.out | apply below_alloc | apply pw_below_drewN | apply below_drew1) | exact HB.out)⟩⟩
          · rw [if_neg c8] at H
            exact absurd H (by simp)
        · rw [if_neg c7] at H
          have c7b0 : (t115 == a0) = false := beq_eq_false_iff_ne.mpr c7
          have c7b1 : (t115 != a0) = true := bne_iff_ne.mpr c7
          have H' := Aside0.mk H
          clear H
          go_wp2_with (first | (go_at_call 11; (with_reducible refine (impl_Mul.calls ((x4_1) % 256) ((x4_1) % 256) t114 _ ?side1 A5.out).mono ?_); (case side1 => exact TabOK.below HT.out (by repeat (first | (with_reducible first | exact HB.out | apply below_alloc | apply pw_below_drewN | apply below_drew1) | exact HB.out))); rintro e w' ⟨rfl, ⟨nd, rfl⟩⟩; (try first | exact ⟨rfl, _, World.drewN_drewN _ _ _⟩ | exact ⟨rfl, _, Eq.trans (World.drewN_drewN _ _ _) (congrArg (World.drewN _) (Nat.add_assoc _ _ _))⟩)) | (go_at_call 10; (with_reducible refine (impl_Add.calls t114 ((x4_1) % 256) t115 _ A6.out).mono ?_); rintro e w' ⟨rfl, ⟨nd, rfl⟩⟩; (try first | exact ⟨rfl, _, World.drewN_drewN _ _ _⟩ | exact ⟨rfl, _, Eq.trans (World.drewN_drewN _ _ _) (congrArg (World.drewN _) (Nat.add_assoc _ _ _))⟩)))
          repeat (go_quiet (first | (go_at_call 11; (with_reducible refine (impl_Mul.calls ((x4_1) % 256) ((x4_1) % 256) t114 _ ?side1 A5.out).mono ?_); (case side1 => exact TabOK.below HT.out (by repeat (first | (with_reducible first | exact HB.out | apply below_alloc | apply pw_below_drewN | apply below_drew1) | exact HB.out))); rintro e w' ⟨rfl, ⟨nd, rfl⟩⟩; (try first | exact ⟨rfl, _, World.drewN_drewN _ _ _⟩ | exact ⟨rfl, _, Eq.trans (World.drewN_drewN _ _ _) (congrArg (World.drewN _) (Nat.add_assoc _ _ _))⟩)) | (go_at_call 10; (with_reducible refine (impl_Add.calls t114 ((x4_1) % 256) t115 _ A6.out).mono ?_); rintro e w' ⟨rfl, ⟨nd, rfl⟩⟩; (try first | exact ⟨rfl, _, World.drewN_drewN _ _ _⟩ | exact ⟨rfl, _, Eq.trans (World.drewN_drewN _ _ _) (congrArg (World.drewN _) (Nat.add_assoc _ _ _))⟩))); try go_wp2_with (first | (go_at_call 11; (with_reducible refine (impl_Mul.calls ((x4_1) % 256) ((x4_1) % 256) t114 _ ?side1 A5.out).mono ?_); (case side1 => exact TabOK.below HT.out (by repeat (first | (with_reducible first | exact HB.out | apply below_alloc | apply pw_below_drewN | apply below_drew1) | exact HB.out))); rintro e w' ⟨rfl, ⟨nd, rfl⟩⟩; (try first | exact ⟨rfl, _, World.drewN_drewN _ _ _⟩ | exact ⟨rfl, _, Eq.trans (World.drewN_drewN _ _ _) (congrArg (World.drewN _) (Nat.add_assoc _ _ _))⟩)) | (go_at_call 10; (with_reducible refine (impl_Add.calls t114 ((x4_1) % 256) t115 _ A6.out).mono ?_); rintro e w' ⟨rfl, ⟨nd, rfl⟩⟩; (try first | exact ⟨rfl, _, World.drewN_drewN _ _ _⟩ | exact ⟨rfl, _, Eq.trans (World.drewN_drewN _ _ _) (congrArg (World.drewN _) (Nat.add_assoc _ _ _))⟩))))
          go_roundg k1
          case measure => have := HK1.out; omega
          case rel => exact ⟨(x3_1), (wrap64 (x4_1 + 1)), (by first | rfl | (simp; done) | (simp [*]; done)), H', ⟨by have := HK1.out; omega⟩, ⟨by (with_reducible repeat (first | apply Kd.R_alloc | apply Kd.R_drewN | apply Kd.R_drew)); exact HO_3.out⟩, ⟨by repeat (first | (with_reducible first | exact HB.out | apply below_alloc | apply pw_below_drewN | apply below_drew1) | exact HB.out)⟩⟩
      · rw [if_neg c4] at H
        have c4b0 : decide (x4_1 < 256) = false := decide_eq_false c4
        clear c4
        replace H := Option.bind_eq_some_iff.mp H
        obtain ⟨t111, A100, H⟩ := H
        replace H : (if t111 = 0 then (if (x3_1.length : Int) = 2 then (if 0 < (x3_1.length : Int) then (if 1 < (x3_1.length : Int) then (some ((Go.bits .xor .u8 (rd x3_1 0) (rd x3_1 1)) == 1)) else (none)) else (none)) else (some false)) else (some ((x3_1.length : Int) == 0))) = some r := H
        have A10 := Aside0.mk A100
        clear A100
        by_cases c11 : t111 = 0
        · rw [if_pos c11] at H
          have c11b0 : (t111 == 0) = true := beq_iff_eq.mpr c11
          have c11b1 : (t111 != 0) = false := bne_eq_false_iff_eq.mpr c11
          clear c11
          by_cases c12 : (x3_1.length : Int) = 2
          · rw [if_pos c12] at H
            have c12b0 : ((x3_1.length : Int) == 2) = true := beq_iff_eq.mpr c12
            have c12b1 : ((x3_1.length : Int) != 2) = false := bne_eq_false_iff_eq.mpr c12
            clear c12
            by_cases c13 : 0 < (x3_1.length : Int)
            · rw [if_pos c13] at H
              have c13b0 : decide (0 < (x3_1.length : Int)) = true := decide_eq_true c13
              have c13b1 : decide (0 < x3_1.length) = true := decide_eq_true (by omega)
              clear c13
              by_cases c14 : 1 < (x3_1.length : Int)
              · rw [if_pos c14] at H
                have c14b0 : decide (1 < (x3_1.length : Int)) = true := decide_eq_true c14
                have c14b1 : decide (1 < x3_1.length) = true := decide_eq_true (by omega)
                clear c14
                obtain rfl := Option.some.inj H
                go_wp2_with (first | (go_at_call 12; (with_reducible refine (spec_Trace.calls k1 a0 t111 _ A10.out).mono ?_); rintro e w' ⟨rfl, ⟨nd, rfl⟩⟩; (try first | exact ⟨rfl, _, World.drewN_drewN _ _ _⟩ | exact ⟨rfl, _, Eq.trans (World.drewN_drewN _ _ _) (congrArg (World.drewN _) (Nat.add_assoc _ _ _))⟩); obtain ⟨Ao15, co15, eo15⟩ := Kd.R_slice HO_3.out; subst eo15; have p112 : 0 ≤ (0 : Int) := (by omega); have q112 : 0 < (x3_1.length : Int) := of_decide_eq_true (by first | (with_reducible assumption) | assumption); obtain ⟨ad112, e112, hx112_0⟩ := Kd.at_int (Kd.R_reads' HO_3.out).2.2 0 p112 q112; cases e112; have qi112 : (0 < x3_1.length) = True := eq_true (by omega); (try rw [show ((0 : Int)).toNat = 0 from rfl] at hx112_0); (try rw [Addr.add_zero'] at hx112_0); replace p112 := eq_true p112; replace q112 := eq_true q112; have p113 : 0 ≤ (1 : Int) := (by omega); have q113 : 1 < (x3_1.length : Int) := of_decide_eq_true (by first | (with_reducible assumption) | assumption); obtain ⟨ad113, e113, hx113_0⟩ := Kd.at_int (Kd.R_reads' HO_3.out).2.2 1 p113 q113; obtain rfl : ad112 = ad113 := (by injection e113); (try simp only [show (1 : Int).toNat = 1 from rfl, Nat.reduceMul, Nat.reduceEqDiff, Go.Addr.add, ↓reduceIte] at hx113_0); have qi113 : (1 < x3_1.length) = True := eq_true (by omega); (try rw [show ((1 : Int)).toNat = 1 from rfl] at hx113_0); replace p113 := eq_true p113; replace q113 := eq_true q113))
                repeat (go_quiet (first | (go_at_call 12; (with_reducible refine (spec_Trace.calls k1 a0 t111 _ A10.out).mono ?_); rintro e w' ⟨rfl, ⟨nd, rfl⟩⟩; (try first | exact ⟨rfl, _, World.drewN_drewN _ _ _⟩ | exact ⟨rfl, _, Eq.trans (World.drewN_drewN _ _ _) (congrArg (World.drewN _) (Nat.add_assoc _ _ _))⟩); obtain ⟨Ao15, co15, eo15⟩ := Kd.R_slice HO_3.out; subst eo15; have p112 : 0 ≤ (0 : Int) := (by omega); have q112 : 0 < (x3_1.length : Int) := of_decide_eq_true (by first | (with_reducible assumption) | assumption); obtain ⟨ad112, e112, hx112_0⟩ := Kd.at_int (Kd.R_reads' HO_3.out).2.2 0 p112 q112; cases e112; have qi112 : (0 < x3_1.length) = True := eq_true (by omega); (try rw [show ((0 : Int)).toNat = 0 from rfl] at hx112_0); (try rw [Addr.add_zero'] at hx112_0); replace p112 := eq_true p112; replace q112 := eq_true q112; have p113 : 0 ≤ (1 : Int) := (by omega); have q113 : 1 < (x3_1.length : Int) := of_decide_eq_true (by first | (with_reducible assumption) | assumption); obtain ⟨ad113, e113, hx113_0⟩ := Kd.at_int (Kd.R_reads' HO_3.out).2.2 1 p113 q113; obtain rfl : ad112 = ad113 := (by injection e113); (try simp only [show (1 : Int).toNat = 1 from rfl, Nat.reduceMul, Nat.reduceEqDiff, Go.Addr.add, ↓reduceIte] at hx113_0); have qi113 : (1 < x3_1.length) = True := eq_true (by omega); (try rw [show ((1 : Int)).toNat = 1 from rfl] at hx113_0); replace p113 := eq_true p113; replace q113 := eq_true q113)); try go_wp2_with (first | (go_at_call 12; (with_reducible refine (spec_Trace.calls k1 a0 t111 _ A10.out).mono ?_); rintro e w' ⟨rfl, ⟨nd, rfl⟩⟩; (try first | exact ⟨rfl, _, World.drewN_drewN _ _ _⟩ | exact ⟨rfl, _, Eq.trans (World.drewN_drewN _ _ _) (congrArg (World.drewN _) (Nat.add_assoc _ _ _))⟩); obtain ⟨Ao15, co15, eo15⟩ := Kd.R_slice HO_3.out; subst eo15; have p112 : 0 ≤ (0 : Int) := (by omega); have q112 : 0 < (x3_1.length : Int) := of_decide_eq_true (by first | (with_reducible assumption) | assumption); obtain ⟨ad112, e112, hx112_0⟩ := Kd.at_int (Kd.R_reads' HO_3.out).2.2 0 p112 q112; cases e112; have qi112 : (0 < x3_1.length) = True := eq_true (by omega); (try rw [show ((0 : Int)).toNat = 0 from rfl] at hx112_0); (try rw [Addr.add_zero'] at hx112_0); replace p112 := eq_true p112; replace q112 := eq_true q112; have p113 : 0 ≤ (1 : Int) := (by omega); have q113 : 1 < (x3_1.length : Int) := of_decide_eq_true (by first | (with_reducible assumption) | assumption); obtain ⟨ad113, e113, hx113_0⟩ := Kd.at_int (Kd.R_reads' HO_3.out).2.2 1 p113 q113; obtain rfl : ad112 = ad113 := (by injection e113); (try simp only [show (1 : Int).toNat = 1 from rfl, Nat.reduceMul, Nat.reduceEqDiff, Go.Addr.add, ↓reduceIte] at hx113_0); have qi113 : (1 < x3_1.length) = True := eq_true (by omega); (try rw [show ((1 : Int)).toNat = 1 from rfl] at hx113_0); replace p113 := eq_true p113; replace q113 := eq_true q113)))
                go_ret
                exact ⟨by first | rfl | (simp [errW_none, errW_some] <;> rfl) | (simp [*, errW_none, errW_some] <;> rfl), by repeat (first | (with_reducible first | exact HB.out | apply below_alloc | apply pw_below_drewN | apply below_drew1) | exact HB.out)⟩
              · rw [if_neg c14] at H
                exact absurd H (by simp)
            · rw [if_neg c13] at H
              exact absurd H (by simp)
          · rw [if_neg c12] at H
            have c12b0 : ((x3_1.length : Int) == 2) = false := beq_eq_false_iff_ne.mpr c12
            have c12b1 : ((x3_1.length : Int) != 2) = true := bne_iff_ne.mpr c12
            obtain rfl := Option.some.inj H
            go_wp2_with (first | (go_at_call 12; (with_reducible refine (spec_Trace.calls k1 a0 t111 _ A10.out).mono ?_); rintro e w' ⟨rfl, ⟨nd, rfl⟩⟩; (try first | exact ⟨rfl, _, World.drewN_drewN _ _ _⟩ | exact ⟨rfl, _, Eq.trans (World.drewN_drewN _ _ _) (congrArg (World.drewN _) (Nat.add_assoc _ _ _))⟩); obtain ⟨Ao16, co16, eo16⟩ := Kd.R_slice HO_3.out; subst eo16))
            repeat (go_quiet (first | (go_at_call 12; (with_reducible refine (spec_Trace.calls k1 a0 t111 _ A10.out).mono ?_); rintro e w' ⟨rfl, ⟨nd, rfl⟩⟩; (try first | exact ⟨rfl, _, World.drewN_drewN _ _ _⟩ | exact ⟨rfl, _, Eq.trans (World.drewN_drewN _ _ _) (congrArg (World.drewN _) (Nat.add_assoc _ _ _))⟩); obtain ⟨Ao16, co16, eo16⟩ := Kd.R_slice HO_3.out; subst eo16)); try go_wp2_with (first | (go_at_call 12; (with_reducible refine (spec_Trace.calls k1 a0 t111 _ A10.out).mono ?_); rintro e w' ⟨rfl, ⟨nd, rfl⟩⟩; (try first | exact ⟨rfl, _, World.drewN_drewN _ _ _⟩ | exact ⟨rfl, _, Eq.trans (World.drewN_drewN _ _ _) (congrArg (World.drewN _) (Nat.add_assoc _ _ _))⟩); obtain ⟨Ao16, co16, eo16⟩ := Kd.R_slice HO_3.out; subst eo16)))
            go_ret
            exact ⟨by first | rfl | (simp [errW_none, errW_some] <;> rfl) | (simp [*, errW_none, errW_some] <;> rfl), by repeat (first | (with_reducible first | exact HB.out | apply below_alloc | apply pw_below_drewN | apply below_drew1) | exact HB.out)⟩
        · rw [if_neg c11] at H
          have c11b0 : (t111 == 0) = false := beq_eq_false_iff_ne.mpr c11
          have c11b1 : (t111 != 0) = true := bne_iff_ne.mpr c11
          obtain rfl := Option.some.inj H
          go_wp2_with (first | (go_at_call 12; (with_reducible refine (spec_Trace.calls k1 a0 t111 _ A10.out).mono ?_); rintro e w' ⟨rfl, ⟨nd, rfl⟩⟩; (try first | exact ⟨rfl, _, World.drewN_drewN _ _ _⟩ | exact ⟨rfl, _, Eq.trans (World.drewN_drewN _ _ _) (congrArg (World.drewN _) (Nat.add_assoc _ _ _))⟩); obtain ⟨Ao17, co17, eo17⟩ := Kd.R_slice HO_3.out; subst eo17))
          repeat (go_quiet (first | (go_at_call 12; (with_reducible refine (spec_Trace.calls k1 a0 t111 _ A10.out).mono ?_); rintro e w' ⟨rfl, ⟨nd, rfl⟩⟩; (try first | exact ⟨rfl, _, World.drewN_drewN _ _ _⟩ | exact ⟨rfl, _, Eq.trans (World.drewN_drewN _ _ _) (congrArg (World.drewN _) (Nat.add_assoc _ _ _))⟩); obtain ⟨Ao17, co17, eo17⟩ := Kd.R_slice HO_3.out; subst eo17)); try go_wp2_with (first | (go_at_call 12; (with_reducible refine (spec_Trace.calls k1 a0 t111 _ A10.out).mono ?_); rintro e w' ⟨rfl, ⟨nd, rfl⟩⟩; (try first | exact ⟨rfl, _, World.drewN_drewN _ _ _⟩ | exact ⟨rfl, _, Eq.trans (World.drewN_drewN _ _ _) (congrArg (World.drewN _) (Nat.add_assoc _ _ _))⟩); obtain ⟨Ao17, co17, eo17⟩ := Kd.R_slice HO_3.out; subst eo17)))
          go_ret
          exact ⟨by first | rfl | (simp [errW_none, errW_some] <;> rfl) | (simp [*, errW_none, errW_some] <;> rfl), by repeat (first | (with_reducible first | exact HB.out | apply below_alloc | apply pw_below_drewN | apply below_drew1) | exact HB.out)⟩

end Go.Proofs.YtipbhclpeogcmaaDoor.Q
