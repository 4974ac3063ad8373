-- Written by a program of ours (wip/xp) out of the translation; Lean checks it.
import Derived.Test.YtkmdkmlgahfcpaaMm1
import Derived.Test.YtkmdkmlgahfcpaaMm2
namespace Go.Proofs.Ytkmdkmlgahfcpaa.M
open Go.RowKit Go.Proofs.YtkmdkmlgahfcpaaW.PrintWords Go.Proofs.YtkmdkmlgahfcpaaW.PrintLast Go.Proofs.YtkmdkmlgahfcpaaW.PrintMore
attribute [local go_sem] max2_int min2_int max_two min_two max_three min_three max_four min_four   -- for this text's walks alone
set_option linter.unusedVariables false
set_option linter.unusedSimpArgs false

/-! ### laws_FnRootByChains: function 4 -/
mutual
def laws_FnRootByChains.j0 : Nat → Int → Int → List Int → List (List Int) → Bool → Int → Int → Int → Int → Int → Int → Option (Bool)
  | 0, _, _, _, _, _, _, _, _, _, _, _ => none
  | k + 1, x1, x2, x3, x4, x22, x253000, x253001, x253002, x253003, x253004, x253005 => if x22 = true then (some true) else (if x1 ≥ x2 then (laws_FnRootByChains.j1 k x1 x2 x3 x4 true x253000 x253001 x253002 x253003 x253004 x253005) else ((laws_logSmall.f k x4).bind fun t254 => (if t254 = true then (if (x3.length : Int) = x253001 then ((spec_PathParts.f k x1 x2).bind fun t255 => (laws_FnRootByChains.j1 k x1 x2 x3 x4 ((x4.length : Int) != (t255.length : Int)) x253000 x253001 x253002 x253003 x253004 x253005)) else (laws_FnRootByChains.j1 k x1 x2 x3 x4 true x253000 x253001 x253002 x253003 x253004 x253005)) else (laws_FnRootByChains.j1 k x1 x2 x3 x4 true x253000 x253001 x253002 x253003 x253004 x253005))))
def laws_FnRootByChains.j1 : Nat → Int → Int → List Int → List (List Int) → Bool → Int → Int → Int → Int → Int → Int → Option (Bool)
  | 0, _, _, _, _, _, _, _, _, _, _, _ => none
  | k + 1, x1, x2, x3, x4, x46, x253000, x253001, x253002, x253003, x253004, x253005 => if x46 = true then (some true) else ((impl_ProofSizes.f x1 x2).bind fun bt258 => (if bt258.1 < 0 then (laws_FnRootByChains.j2 k x1 x2 x3 x4 bt258.1 true x253000 x253001 x253002 x253003 x253004 x253005) else (laws_FnRootByChains.j2 k x1 x2 x3 x4 bt258.1 ((wrap64 (bt258.1 + bt258.2)) != (x4.length : Int)) x253000 x253001 x253002 x253003 x253004 x253005)))
def laws_FnRootByChains.j2 : Nat → Int → Int → List Int → List (List Int) → Int → Bool → Int → Int → Int → Int → Int → Int → Option (Bool)
  | 0, _, _, _, _, _, _, _, _, _, _, _, _ => none
  | k + 1, x1, x2, x3, x4, x11, x62, x253000, x253001, x253002, x253003, x253004, x253005 => if x62 = true then (some false) else ((impl_RootOfInclusion.f k x253000 x253001 x253002 x253003 x253004 x253005 x1 x2 x3 x4).bind fun bt260 => (if bt260.2 = true then (if 0 ≤ x11 then (if x11 ≤ (x4.length : Int) then ((impl_ChainInner.f k x253000 x253001 x253002 x253003 x253004 x253005 x3 (x4.take (x11 : Int).toNat) x1).bind fun t268 => ((impl_ChainBorder.f k x253000 x253001 x253002 x253003 x253004 x253005 t268 (x4.drop (x11 : Int).toNat)).bind fun t275 => ((spec_SameText.f bt260.1 t275).bind fun t278 => (some t278)))) else (none)) else (none)) else (some false)))
end
def laws_FnRootByChains.f (k : Nat) (a0_0 : Int) (a0_1 : Int) (a0_2 : Int) (a0_3 : Int) (a0_4 : Int) (a0_5 : Int) (a1 : Int) (a2 : Int) (l3 : List Int) (l4 : List (List Int)) : Option (Bool) := if (l3.length : Int) > 2147483647 then (laws_FnRootByChains.j0 k a1 a2 l3 l4 true a0_0 a0_1 a0_2 a0_3 a0_4 a0_5) else ((laws_zzFits2.f k l4).bind fun t253 => (laws_FnRootByChains.j0 k a1 a2 l3 l4 (!t253) a0_0 a0_1 a0_2 a0_3 a0_4 a0_5))
theorem laws_FnRootByChains.mono_l : ∀ k, (∀ y0 y1 y2 y3 y4 y5 y6 y7 y8 y9 y10, LeO (laws_FnRootByChains.j0 k y0 y1 y2 y3 y4 y5 y6 y7 y8 y9 y10) (laws_FnRootByChains.j0 (k + 1) y0 y1 y2 y3 y4 y5 y6 y7 y8 y9 y10)) ∧ (∀ y0 y1 y2 y3 y4 y5 y6 y7 y8 y9 y10, LeO (laws_FnRootByChains.j1 k y0 y1 y2 y3 y4 y5 y6 y7 y8 y9 y10) (laws_FnRootByChains.j1 (k + 1) y0 y1 y2 y3 y4 y5 y6 y7 y8 y9 y10)) ∧ (∀ y0 y1 y2 y3 y4 y5 y6 y7 y8 y9 y10 y11, LeO (laws_FnRootByChains.j2 k y0 y1 y2 y3 y4 y5 y6 y7 y8 y9 y10 y11) (laws_FnRootByChains.j2 (k + 1) y0 y1 y2 y3 y4 y5 y6 y7 y8 y9 y10 y11))
  | 0 => ⟨fun _ _ _ _ _ _ _ _ _ _ _ r h => by simp [laws_FnRootByChains.j0] at h, fun _ _ _ _ _ _ _ _ _ _ _ r h => by simp [laws_FnRootByChains.j1] at h, fun _ _ _ _ _ _ _ _ _ _ _ _ r h => by simp [laws_FnRootByChains.j2] at h⟩
  | k + 1 => by
    obtain ⟨ih0, ih1, ih2⟩ := laws_FnRootByChains.mono_l k
    refine ⟨?_, ?_, ?_⟩
    · intro y0 y1 y2 y3 y4 y5 y6 y7 y8 y9 y10
      unfold laws_FnRootByChains.j0
      repeat' first
      | (with_reducible exact ih0 _ _ _ _ _ _ _ _ _ _ _)
      | (with_reducible exact ih1 _ _ _ _ _ _ _ _ _ _ _)
      | (with_reducible exact ih2 _ _ _ _ _ _ _ _ _ _ _ _)
      | (with_reducible exact impl_ChainBorder.mono _ _ _ _ _ _ _ _ _)
      | (with_reducible exact impl_ChainInner.mono _ _ _ _ _ _ _ _ _ _)
      | (with_reducible exact impl_RootOfInclusion.mono _ _ _ _ _ _ _ _ _ _ _)
      | (with_reducible exact laws_logSmall.mono _ _)
      | (with_reducible exact laws_zzFits2.mono _ _)
      | (with_reducible exact spec_PathParts.mono _ _ _)
      | (with_reducible exact LeO.refl _)
      | (with_reducible exact LeO.none _)
      | (with_reducible refine LeO.ite ?_ ?_)
      | (with_reducible refine LeO.bind ?_ (fun _ => ?_))
      | exact ih0 _ _ _ _ _ _ _ _ _ _ _
      | exact ih1 _ _ _ _ _ _ _ _ _ _ _
      | exact ih2 _ _ _ _ _ _ _ _ _ _ _ _
      | exact impl_ChainBorder.mono _ _ _ _ _ _ _ _ _
      | exact impl_ChainInner.mono _ _ _ _ _ _ _ _ _ _
      | exact impl_RootOfInclusion.mono _ _ _ _ _ _ _ _ _ _ _
      | exact laws_logSmall.mono _ _
      | exact laws_zzFits2.mono _ _
      | exact spec_PathParts.mono _ _ _
      | exact LeO.none _
      | refine LeO.ite ?_ ?_
      | refine LeO.bind ?_ (fun _ => ?_)
    · intro y0 y1 y2 y3 y4 y5 y6 y7 y8 y9 y10
      unfold laws_FnRootByChains.j1
      repeat' first
      | (with_reducible exact ih0 _ _ _ _ _ _ _ _ _ _ _)
      | (with_reducible exact ih1 _ _ _ _ _ _ _ _ _ _ _)
      | (with_reducible exact ih2 _ _ _ _ _ _ _ _ _ _ _ _)
      | (with_reducible exact impl_ChainBorder.mono _ _ _ _ _ _ _ _ _)
      | (with_reducible exact impl_ChainInner.mono _ _ _ _ _ _ _ _ _ _)
      | (with_reducible exact impl_RootOfInclusion.mono _ _ _ _ _ _ _ _ _ _ _)
      | (with_reducible exact laws_logSmall.mono _ _)
      | (with_reducible exact laws_zzFits2.mono _ _)
      | (with_reducible exact spec_PathParts.mono _ _ _)
      | (with_reducible exact LeO.refl _)
      | (with_reducible exact LeO.none _)
      | (with_reducible refine LeO.ite ?_ ?_)
      | (with_reducible refine LeO.bind ?_ (fun _ => ?_))
      | exact ih0 _ _ _ _ _ _ _ _ _ _ _
      | exact ih1 _ _ _ _ _ _ _ _ _ _ _
      | exact ih2 _ _ _ _ _ _ _ _ _ _ _ _
      | exact impl_ChainBorder.mono _ _ _ _ _ _ _ _ _
      | exact impl_ChainInner.mono _ _ _ _ _ _ _ _ _ _
      | exact impl_RootOfInclusion.mono _ _ _ _ _ _ _ _ _ _ _
      | exact laws_logSmall.mono _ _
      | exact laws_zzFits2.mono _ _
      | exact spec_PathParts.mono _ _ _
      | exact LeO.none _
      | refine LeO.ite ?_ ?_
      | refine LeO.bind ?_ (fun _ => ?_)
    · intro y0 y1 y2 y3 y4 y5 y6 y7 y8 y9 y10 y11
      unfold laws_FnRootByChains.j2
      repeat' first
      | (with_reducible exact ih0 _ _ _ _ _ _ _ _ _ _ _)
      | (with_reducible exact ih1 _ _ _ _ _ _ _ _ _ _ _)
      | (with_reducible exact ih2 _ _ _ _ _ _ _ _ _ _ _ _)
      | (with_reducible exact impl_ChainBorder.mono _ _ _ _ _ _ _ _ _)
      | (with_reducible exact impl_ChainInner.mono _ _ _ _ _ _ _ _ _ _)
      | (with_reducible exact impl_RootOfInclusion.mono _ _ _ _ _ _ _ _ _ _ _)
      | (with_reducible exact laws_logSmall.mono _ _)
      | (with_reducible exact laws_zzFits2.mono _ _)
      | (with_reducible exact spec_PathParts.mono _ _ _)
      | (with_reducible exact LeO.refl _)
      | (with_reducible exact LeO.none _)
      | (with_reducible refine LeO.ite ?_ ?_)
      | (with_reducible refine LeO.bind ?_ (fun _ => ?_))
      | exact ih0 _ _ _ _ _ _ _ _ _ _ _
      | exact ih1 _ _ _ _ _ _ _ _ _ _ _
      | exact ih2 _ _ _ _ _ _ _ _ _ _ _ _
      | exact impl_ChainBorder.mono _ _ _ _ _ _ _ _ _
      | exact impl_ChainInner.mono _ _ _ _ _ _ _ _ _ _
      | exact impl_RootOfInclusion.mono _ _ _ _ _ _ _ _ _ _ _
      | exact laws_logSmall.mono _ _
      | exact laws_zzFits2.mono _ _
      | exact spec_PathParts.mono _ _ _
      | exact LeO.none _
      | refine LeO.ite ?_ ?_
      | refine LeO.bind ?_ (fun _ => ?_)
theorem laws_FnRootByChains.mono : ∀ a0 a1 a2 a3 a4 a5 a6 a7 a8 a9 k, LeO (laws_FnRootByChains.f k a0 a1 a2 a3 a4 a5 a6 a7 a8 a9) (laws_FnRootByChains.f (k + 1) a0 a1 a2 a3 a4 a5 a6 a7 a8 a9) := by
  intro a0 a1 a2 a3 a4 a5 a6 a7 a8 a9 k
  obtain ⟨ih0, ih1, ih2⟩ := laws_FnRootByChains.mono_l k
  unfold laws_FnRootByChains.f
  repeat' first
      | (with_reducible exact ih0 _ _ _ _ _ _ _ _ _ _ _)
      | (with_reducible exact ih1 _ _ _ _ _ _ _ _ _ _ _)
      | (with_reducible exact ih2 _ _ _ _ _ _ _ _ _ _ _ _)
      | (with_reducible exact impl_ChainBorder.mono _ _ _ _ _ _ _ _ _)
      | (with_reducible exact impl_ChainInner.mono _ _ _ _ _ _ _ _ _ _)
      | (with_reducible exact impl_RootOfInclusion.mono _ _ _ _ _ _ _ _ _ _ _)
      | (with_reducible exact laws_logSmall.mono _ _)
      | (with_reducible exact laws_zzFits2.mono _ _)
      | (with_reducible exact spec_PathParts.mono _ _ _)
      | (with_reducible exact LeO.refl _)
      | (with_reducible exact LeO.none _)
      | (with_reducible refine LeO.ite ?_ ?_)
      | (with_reducible refine LeO.bind ?_ (fun _ => ?_))
      | exact ih0 _ _ _ _ _ _ _ _ _ _ _
      | exact ih1 _ _ _ _ _ _ _ _ _ _ _
      | exact ih2 _ _ _ _ _ _ _ _ _ _ _ _
      | exact impl_ChainBorder.mono _ _ _ _ _ _ _ _ _
      | exact impl_ChainInner.mono _ _ _ _ _ _ _ _ _ _
      | exact impl_RootOfInclusion.mono _ _ _ _ _ _ _ _ _ _ _
      | exact laws_logSmall.mono _ _
      | exact laws_zzFits2.mono _ _
      | exact spec_PathParts.mono _ _ _
      | exact LeO.none _
      | refine LeO.ite ?_ ?_
      | refine LeO.bind ?_ (fun _ => ?_)
def laws_FnRootByChains.T9 : Bool × List (List Nat × List Nat) := (true, [([], []), ([0], [0]), ([1], [1]), ([1], [1]), ([1], [1]), ([1], [1]), ([1], [1]), ([1], [1]), ([6, 7, 1], [1, 6, 7]), ([1], [1]), ([4, 5, 8, 9, 1, 1], [1, 4, 5, 8, 9]), ([1], [1]), ([1], [1]), ([11, 12, 1], [1, 11, 12]), ([3, 10, 13, 10, 1], [1, 3, 10, 13]), ([2, 14, 14, 1], [1, 2, 14]), ([1, 15], [1, 15]), ([16, 15, 0, 1, 2, 3, 4, 5, 6, 7, 8, 9, 10, 11, 12, 13, 14, 15, 16], [16])])
def laws_FnRootByChains.B9 : List Nat := [0, 1, 3, 3, 3, 3, 3, 3, 195, 3, 1011, 3, 3, 6147, 16379, 32767, 65535, 131071]
theorem laws_FnRootByChains.tab9 : rtab .any (opsOf Try.f4 9) = laws_FnRootByChains.T9 := by kernel_rfl
theorem laws_FnRootByChains.bits9 : waitsOk laws_FnRootByChains.T9.2 laws_FnRootByChains.B9 = true := by kernel_rfl
set_option maxHeartbeats 8000000 in
set_option maxRecDepth 100000 in
theorem laws_FnRootByChains.calls (k : Nat) (a0_0 : Int) (a0_1 : Int) (a0_2 : Int) (a0_3 : Int) (a0_4 : Int) (a0_5 : Int) (a1 : Int) (a2 : Int) (A3 : Option Addr) (c3 : Nat) (l3 : List Int) (A4 : Option Addr) (c4 : Nat) (l4 : List (List Int)) (r : Bool) (w : World) (hr3 : Kd.C (Kd.int .u8) w A3 l3.length l3) (hc3 : l3.length ≤ c3) (hr4 : Kd.C (Kd.slice 5 (Kd.int .u8)) w A4 l4.length l4) (hc4 : l4.length ≤ c4) (h : laws_FnRootByChains.f k a0_0 a0_1 a0_2 a0_3 a0_4 a0_5 a1 a2 l3 l4 = some r) :
    Calls Try.prog 4 #[.agg #[.int .i64 a0_0, .int .i64 a0_1, .int .i64 a0_2, .int .u64 a0_3, .int .u64 a0_4, .int .u64 a0_5], .int .u64 a1, .int .u64 a2, .slice A3 l3.length c3, .slice A4 l4.length c4] w fun e w' => e = .returned (.bool r) ∧ Below w.heap.size w w' := by
  have hu29 := Try.underlying29
  have HR3 := Aside0.mk hr3
  have HC3 := Aside0.mk hc3
  clear hr3 hc3
  have HR4 := Aside0.mk hr4
  have HC4 := Aside0.mk hc4
  clear hr4 hc4
  have HB := Aside0.mk (Below.refl w.heap.size w)
  have H : (if (l3.length : Int) > 2147483647 then (laws_FnRootByChains.j0 k a1 a2 l3 l4 true a0_0 a0_1 a0_2 a0_3 a0_4 a0_5) else ((laws_zzFits2.f k l4).bind fun t253 => (laws_FnRootByChains.j0 k a1 a2 l3 l4 (!t253) a0_0 a0_1 a0_2 a0_3 a0_4 a0_5))) = some r := h
  clear h
  have HC6 := Aside0.mk H
  clear H
  go_enter Try.func4, Try.ntmps4
  go_upto_region 1 with (first | ((with_reducible refine gate_dst (N := 5) rfl ?_); (try (refine gate_guard (by rfl) ?_; dsimp only)); refine box_event ?hg (N := 5) ?hd (cs := #[.int .i64 a0_0, .int .i64 a0_1, .int .i64 a0_2, .int .u64 a0_3, .int .u64 a0_4, .int .u64 a0_5]) (t := 29) ?hr ?_; (case hd => rfl); (case hg => rfl); (case hr => first | (go_simp; done) | (go_simp; rfl)); intro gb252 hg w7 hbox hb; have n0_ := Aside0.mk (below_step (by repeat (first | (with_reducible first | exact HB.out | apply below_alloc | apply pw_below_drewN | apply below_drew1) | exact HB.out)) hb); have n1_ := Aside0.mk (hbox); have n2_ := Aside0.mk ((by rw [hg]; exact (below_size (by repeat (first | (with_reducible first | exact HB.out | apply below_alloc | apply pw_below_drewN | apply below_drew1) | exact HB.out))) : w.heap.size ≤ gb252)); have n3_ := Aside0.mk ((by rw [hg]; exact (below_size (by repeat (first | (with_reducible first | exact HB.out | apply below_alloc | apply pw_below_drewN | apply below_drew1) | exact HB.out))) : w.heap.size ≤ gb252)); clear HB; have HB := n0_; have BK252 := n1_; have GW252 := n2_; have GE252 := n3_; clear n0_ n1_ n2_ n3_; clear hb hbox hg))
  (try simp only [Act.put, List.setIfInBounds_toArray, List.set_cons_zero, List.set_cons_succ])
  go_cut [22] (fun v22 wc => ∃ (kq : Nat) (x22_5 : Bool), v22 = .bool x22_5 ∧ Aside0 (laws_FnRootByChains.j0 kq a1 a2 l3 l4 x22_5 a0_0 a0_1 a0_2 a0_3 a0_4 a0_5 = some r) ∧ Aside0 (kq ≤ k) ∧ Aside0 (wc.heap[gb252]? = some (.cells #[.int .i64 a0_0, .int .i64 a0_1, .int .i64 a0_2, .int .u64 a0_3, .int .u64 a0_4, .int .u64 a0_5] 29 (0, 0))) ∧ Aside0 (Below w.heap.size w wc))
  case first =>
    have H := HC6.out
    clear HC6
    by_cases c8 : (l3.length : Int) > 2147483647
    · rw [if_pos c8] at H
      have c8b0 : decide (2147483647 < (l3.length : Int)) = true := decide_eq_true c8
      have c8b1 : decide (2147483647 < l3.length) = true := decide_eq_true (by omega)
      clear c8
      (first | rw [c8b0] | (simp only [i64_w, i32_w]; rw [c8b0]) | skip)
      have H' := Aside0.mk H
      clear H
      go_wp2
      go_meet
      case rel => exact ⟨_, (true), (by first | rfl | (simp; done) | (simp [*]; done)), H', ⟨by first | omega | exact Nat.le_refl _⟩, ⟨by (with_reducible repeat (first | refine blk_drewN ?_ _ | refine blk_drew ?_ | refine blk_alloc ?_ _)); exact BK252.out⟩, ⟨by repeat (first | (with_reducible first | exact HB.out | apply below_alloc | apply pw_below_drewN | apply below_drew1 | refine below_set ?_ GE252.out) | exact HB.out)⟩⟩
    · rw [if_neg c8] at H
      have c8b0 : decide (2147483647 < (l3.length : Int)) = false := decide_eq_false c8
      have c8b1 : decide (2147483647 < l3.length) = false := decide_eq_false (by omega)
      clear c8
      (first | rw [c8b0] | (simp only [i64_w, i32_w]; rw [c8b0]) | skip)
      replace H := Option.bind_eq_some_iff.mp H
      obtain ⟨t253, A90, H⟩ := H
      replace H : (laws_FnRootByChains.j0 k a1 a2 l3 l4 (!t253) a0_0 a0_1 a0_2 a0_3 a0_4 a0_5) = some r := H
      have A9 := Aside0.mk A90
      clear A90
      have H' := Aside0.mk H
      clear H
      go_wp2_with (first | (go_at_call 10; (with_reducible refine (laws_zzFits2.calls k _ _ l4 t253 _ ?side1 ?side2 A9.out).mono ?_); (case side1 => repeat (first | exact (Kd.C_below HR4.out HB.out) | (with_reducible refine Kd.C_alloc ?_ _) | (with_reducible refine Kd.C_drewN ?_ _) | (with_reducible refine Kd.C_drew ?_))); (case side2 => exact HC4.out); rintro e w' ⟨rfl, ⟨nd, rfl⟩⟩))
      go_meet
      case rel => exact ⟨_, (!t253), (by first | rfl | (simp; done) | (simp [*]; done)), H', ⟨by first | omega | exact Nat.le_refl _⟩, ⟨by (with_reducible repeat (first | refine blk_drewN ?_ _ | refine blk_drew ?_ | refine blk_alloc ?_ _)); exact BK252.out⟩, ⟨by repeat (first | (with_reducible first | exact HB.out | apply below_alloc | apply pw_below_drewN | apply below_drew1 | refine below_set ?_ GE252.out) | exact HB.out)⟩⟩
  case rest =>
    clear HC6
    try clear p2
    try clear c3
    try clear c4
    try clear c8
    try clear c8b0
    try clear c8b1
    obtain ⟨kq, x22_5, rfl, HA, HJ5, BK252, HB⟩ := hcut
    cases kq with
    | zero => exact absurd HA.out (by simp [laws_FnRootByChains.j0])
    | succ kj5 =>
      have H := HA.out
      clear HA
      simp only [laws_FnRootByChains.j0] at H
      by_cases c10 : x22_5 = true
      · subst c10
        have H1 : (some true) = some r := by rw [if_pos rfl] at H; exact H
        clear H
        have H := H1
        clear H1
        obtain rfl := Option.some.inj H
        go_wp2
        go_ret
        exact ⟨by first | rfl | (simp [errW_none, errW_some] <;> rfl) | (simp [*, errW_none, errW_some] <;> rfl), by repeat (first | (with_reducible first | exact HB.out | apply below_alloc | apply pw_below_drewN | apply below_drew1 | refine below_set ?_ GE252.out) | exact HB.out)⟩
      · replace c10 := Bool.eq_false_iff.mpr c10
        subst c10
        have H1 : (if a1 ≥ a2 then (laws_FnRootByChains.j1 kj5 a1 a2 l3 l4 true a0_0 a0_1 a0_2 a0_3 a0_4 a0_5) else ((laws_logSmall.f kj5 l4).bind fun t254 => (if t254 = true then (if (l3.length : Int) = a0_1 then ((spec_PathParts.f kj5 a1 a2).bind fun t255 => (laws_FnRootByChains.j1 kj5 a1 a2 l3 l4 ((l4.length : Int) != (t255.length : Int)) a0_0 a0_1 a0_2 a0_3 a0_4 a0_5)) else (laws_FnRootByChains.j1 kj5 a1 a2 l3 l4 true a0_0 a0_1 a0_2 a0_3 a0_4 a0_5)) else (laws_FnRootByChains.j1 kj5 a1 a2 l3 l4 true a0_0 a0_1 a0_2 a0_3 a0_4 a0_5)))) = some r := by rw [if_neg (show ¬ (false = true) by decide)] at H; exact H
        clear H
        have H := H1
        clear H1
        have HC11 := Aside0.mk H
        clear H
        go_upto_region 3 with (fail)
        go_cut [46] (fun v46 wc => ∃ (kq : Nat) (x46_10 : Bool), v46 = .bool x46_10 ∧ Aside0 (laws_FnRootByChains.j1 kq a1 a2 l3 l4 x46_10 a0_0 a0_1 a0_2 a0_3 a0_4 a0_5 = some r) ∧ Aside0 (kq ≤ kj5) ∧ Aside0 (wc.heap[gb252]? = some (.cells #[.int .i64 a0_0, .int .i64 a0_1, .int .i64 a0_2, .int .u64 a0_3, .int .u64 a0_4, .int .u64 a0_5] 29 (0, 0))) ∧ Aside0 (Below w.heap.size w wc))
        case first =>
          have H := HC11.out
          clear HC11
          by_cases c12 : a1 ≥ a2
          · rw [if_pos c12] at H
            have c12b0 : decide (a2 ≤ a1) = true := decide_eq_true c12
            clear c12
            (first | rw [c12b0] | (simp only [i64_w, i32_w]; rw [c12b0]) | skip)
            have H' := Aside0.mk H
            clear H
            go_wp2
            go_meet
            case rel => exact ⟨_, (true), (by first | rfl | (simp; done) | (simp [*]; done)), H', ⟨by have := HJ5.out; first | omega | exact Nat.le_refl _⟩, ⟨by (with_reducible repeat (first | refine blk_drewN ?_ _ | refine blk_drew ?_ | refine blk_alloc ?_ _)); exact BK252.out⟩, ⟨by repeat (first | (with_reducible first | exact HB.out | apply below_alloc | apply pw_below_drewN | apply below_drew1 | refine below_set ?_ GE252.out) | exact HB.out)⟩⟩
          · rw [if_neg c12] at H
            have c12b0 : decide (a2 ≤ a1) = false := decide_eq_false c12
            clear c12
            (first | rw [c12b0] | (simp only [i64_w, i32_w]; rw [c12b0]) | skip)
            replace H := Option.bind_eq_some_iff.mp H
            obtain ⟨t254, A130, H⟩ := H
            replace H : (if t254 = true then (if (l3.length : Int) = a0_1 then ((spec_PathParts.f kj5 a1 a2).bind fun t255 => (laws_FnRootByChains.j1 kj5 a1 a2 l3 l4 ((l4.length : Int) != (t255.length : Int)) a0_0 a0_1 a0_2 a0_3 a0_4 a0_5)) else (laws_FnRootByChains.j1 kj5 a1 a2 l3 l4 true a0_0 a0_1 a0_2 a0_3 a0_4 a0_5)) else (laws_FnRootByChains.j1 kj5 a1 a2 l3 l4 true a0_0 a0_1 a0_2 a0_3 a0_4 a0_5)) = some r := H
            have A13 := Aside0.mk A130
            clear A130
            by_cases c14 : t254 = true
            · subst c14
              have H1 : (if (l3.length : Int) = a0_1 then ((spec_PathParts.f kj5 a1 a2).bind fun t255 => (laws_FnRootByChains.j1 kj5 a1 a2 l3 l4 ((l4.length : Int) != (t255.length : Int)) a0_0 a0_1 a0_2 a0_3 a0_4 a0_5)) else (laws_FnRootByChains.j1 kj5 a1 a2 l3 l4 true a0_0 a0_1 a0_2 a0_3 a0_4 a0_5)) = some r := by rw [if_pos rfl] at H; exact H
              clear H
              have H := H1
              clear H1
              by_cases c15 : (l3.length : Int) = a0_1
              · rw [if_pos c15] at H
                have c15b0 : ((l3.length : Int) == a0_1) = true := beq_iff_eq.mpr c15
                have c15b1 : ((l3.length : Int) != a0_1) = false := bne_eq_false_iff_eq.mpr c15
                clear c15
                replace H := Option.bind_eq_some_iff.mp H
                obtain ⟨t255, A160, H⟩ := H
                replace H : (laws_FnRootByChains.j1 kj5 a1 a2 l3 l4 ((l4.length : Int) != (t255.length : Int)) a0_0 a0_1 a0_2 a0_3 a0_4 a0_5) = some r := H
                have A16 := Aside0.mk A160
                clear A160
                have H' := Aside0.mk H
                clear H
                go_wp2_with (first | (go_at_call 11; (with_reducible refine (laws_logSmall.calls kj5 _ _ l4 true _ ?side1 ?side2 A13.out).mono ?_); (case side1 => repeat (first | exact (Kd.C_below HR4.out HB.out) | (with_reducible refine Kd.C_alloc ?_ _) | (with_reducible refine Kd.C_drewN ?_ _) | (with_reducible refine Kd.C_drew ?_))); (case side2 => exact HC4.out); rintro e w' ⟨rfl, ⟨nd, rfl⟩⟩; have hcz17_0 : wc.cell? ⟨gb252, 0, none⟩ = some (.int .i64 a0_0) := (blk_cell BK252.out 0).trans rfl; have hcz17_1 : wc.cell? ⟨gb252, 1, none⟩ = some (.int .i64 a0_1) := (blk_cell BK252.out 1).trans rfl; have hcz17_2 : wc.cell? ⟨gb252, 2, none⟩ = some (.int .i64 a0_2) := (blk_cell BK252.out 2).trans rfl; have hcz17_3 : wc.cell? ⟨gb252, 3, none⟩ = some (.int .u64 a0_3) := (blk_cell BK252.out 3).trans rfl; have hcz17_4 : wc.cell? ⟨gb252, 4, none⟩ = some (.int .u64 a0_4) := (blk_cell BK252.out 4).trans rfl; have hcz17_5 : wc.cell? ⟨gb252, 5, none⟩ = some (.int .u64 a0_5) := (blk_cell BK252.out 5).trans rfl; have hfz17_0 := blk_frozen BK252.out 0; have hfz17_1 := blk_frozen BK252.out 1; have hfz17_2 := blk_frozen BK252.out 2; have hfz17_3 := blk_frozen BK252.out 3; have hfz17_4 := blk_frozen BK252.out 4; have hfz17_5 := blk_frozen BK252.out 5) | (go_at_call 12; (with_reducible refine (spec_PathParts.calls kj5 a1 a2 t255 _ A16.out).mono ?_); rintro e w18 ⟨v256, rfl, ho0, hb⟩; have n0_ := Aside0.mk (Kd.R_lower ho0 (below_size (by repeat (first | (with_reducible first | exact HB.out | apply below_alloc | apply pw_below_drewN | apply below_drew1 | refine below_set ?_ GE252.out) | exact HB.out)))); have n1_ := Aside0.mk (blk_below (g := gb252) (o := .cells #[.int .i64 a0_0, .int .i64 a0_1, .int .i64 a0_2, .int .u64 a0_3, .int .u64 a0_4, .int .u64 a0_5] 29 (0, 0)) (by (with_reducible repeat (first | refine blk_drewN ?_ _ | refine blk_drew ?_ | refine blk_alloc ?_ _)); exact BK252.out) hb); have n2_ := Aside0.mk (below_step (by repeat (first | (with_reducible first | exact HB.out | apply below_alloc | apply pw_below_drewN | apply below_drew1 | refine below_set ?_ GE252.out) | exact HB.out)) hb); clear BK252; clear HB; have HO257 := n0_; have BK252 := n1_; have HB := n2_; clear n0_ n1_ n2_; (try clear hb); (try clear hb2); (try clear hk); (try clear hi); (try clear ho0); obtain ⟨Ao19, co19, eo19⟩ := Kd.R_slice HO257.out; subst eo19))
                go_meet
                case rel => exact ⟨_, (((l4.length : Int) != (t255.length : Int))), (by first | rfl | (simp; done) | (simp [*]; done)), H', ⟨by have := HJ5.out; first | omega | exact Nat.le_refl _⟩, ⟨by (with_reducible repeat (first | refine blk_drewN ?_ _ | refine blk_drew ?_ | refine blk_alloc ?_ _)); exact BK252.out⟩, ⟨by repeat (first | (with_reducible first | exact HB.out | apply below_alloc | apply pw_below_drewN | apply below_drew1 | refine below_set ?_ GE252.out) | exact HB.out)⟩⟩
              · rw [if_neg c15] at H
                have c15b0 : ((l3.length : Int) == a0_1) = false := beq_eq_false_iff_ne.mpr c15
                have c15b1 : ((l3.length : Int) != a0_1) = true := bne_iff_ne.mpr c15
                have H' := Aside0.mk H
                clear H
                go_wp2_with (first | (go_at_call 11; (with_reducible refine (laws_logSmall.calls kj5 _ _ l4 true _ ?side1 ?side2 A13.out).mono ?_); (case side1 => repeat (first | exact (Kd.C_below HR4.out HB.out) | (with_reducible refine Kd.C_alloc ?_ _) | (with_reducible refine Kd.C_drewN ?_ _) | (with_reducible refine Kd.C_drew ?_))); (case side2 => exact HC4.out); rintro e w' ⟨rfl, ⟨nd, rfl⟩⟩; have hcz20_0 : wc.cell? ⟨gb252, 0, none⟩ = some (.int .i64 a0_0) := (blk_cell BK252.out 0).trans rfl; have hcz20_1 : wc.cell? ⟨gb252, 1, none⟩ = some (.int .i64 a0_1) := (blk_cell BK252.out 1).trans rfl; have hcz20_2 : wc.cell? ⟨gb252, 2, none⟩ = some (.int .i64 a0_2) := (blk_cell BK252.out 2).trans rfl; have hcz20_3 : wc.cell? ⟨gb252, 3, none⟩ = some (.int .u64 a0_3) := (blk_cell BK252.out 3).trans rfl; have hcz20_4 : wc.cell? ⟨gb252, 4, none⟩ = some (.int .u64 a0_4) := (blk_cell BK252.out 4).trans rfl; have hcz20_5 : wc.cell? ⟨gb252, 5, none⟩ = some (.int .u64 a0_5) := (blk_cell BK252.out 5).trans rfl; have hfz20_0 := blk_frozen BK252.out 0; have hfz20_1 := blk_frozen BK252.out 1; have hfz20_2 := blk_frozen BK252.out 2; have hfz20_3 := blk_frozen BK252.out 3; have hfz20_4 := blk_frozen BK252.out 4; have hfz20_5 := blk_frozen BK252.out 5))
                go_meet
                case rel => exact ⟨_, (true), (by first | rfl | (simp; done) | (simp [*]; done)), H', ⟨by have := HJ5.out; first | omega | exact Nat.le_refl _⟩, ⟨by (with_reducible repeat (first | refine blk_drewN ?_ _ | refine blk_drew ?_ | refine blk_alloc ?_ _)); exact BK252.out⟩, ⟨by repeat (first | (with_reducible first | exact HB.out | apply below_alloc | apply pw_below_drewN | apply below_drew1 | refine below_set ?_ GE252.out) | exact HB.out)⟩⟩
            · replace c14 := Bool.eq_false_iff.mpr c14
              subst c14
              have H1 : (laws_FnRootByChains.j1 kj5 a1 a2 l3 l4 true a0_0 a0_1 a0_2 a0_3 a0_4 a0_5) = some r := by rw [if_neg (show ¬ (false = true) by decide)] at H; exact H
              clear H
              have H := H1
              clear H1
              have H' := Aside0.mk H
              clear H
              go_wp2_with (first | (go_at_call 11; (with_reducible refine (laws_logSmall.calls kj5 _ _ l4 false _ ?side1 ?side2 A13.out).mono ?_); (case side1 => repeat (first | exact (Kd.C_below HR4.out HB.out) | (with_reducible refine Kd.C_alloc ?_ _) | (with_reducible refine Kd.C_drewN ?_ _) | (with_reducible refine Kd.C_drew ?_))); (case side2 => exact HC4.out); rintro e w' ⟨rfl, ⟨nd, rfl⟩⟩))
              go_meet
              case rel => exact ⟨_, (true), (by first | rfl | (simp; done) | (simp [*]; done)), H', ⟨by have := HJ5.out; first | omega | exact Nat.le_refl _⟩, ⟨by (with_reducible repeat (first | refine blk_drewN ?_ _ | refine blk_drew ?_ | refine blk_alloc ?_ _)); exact BK252.out⟩, ⟨by repeat (first | (with_reducible first | exact HB.out | apply below_alloc | apply pw_below_drewN | apply below_drew1 | refine below_set ?_ GE252.out) | exact HB.out)⟩⟩
        case rest =>
          clear HC11
          try clear c1
          try clear p2
          try clear c3
          try clear c4
          try clear c8
          try clear c8b0
          try clear c8b1
          try clear c10
          try clear c12
          try clear c12b0
          try clear c14
          try clear c15
          try clear c15b0
          try clear c15b1
          try clear hcz17_0
          try clear hcz17_1
          try clear hcz17_2
          try clear hcz17_3
          try clear hcz17_4
          try clear hcz17_5
          try clear hcz20_0
          try clear hcz20_1
          try clear hcz20_2
          try clear hcz20_3
          try clear hcz20_4
          try clear hcz20_5
          try clear hfz17_0
          try clear hfz17_1
          try clear hfz17_2
          try clear hfz17_3
          try clear hfz17_4
          try clear hfz17_5
          try clear hfz20_0
          try clear hfz20_1
          try clear hfz20_2
          try clear hfz20_3
          try clear hfz20_4
          try clear hfz20_5
          try clear p2
          obtain ⟨kq, x46_10, rfl, HA, HJ10, BK252, HB⟩ := hcut
          cases kq with
          | zero => exact absurd HA.out (by simp [laws_FnRootByChains.j1])
          | succ kj10 =>
            have H := HA.out
            clear HA
            simp only [laws_FnRootByChains.j1] at H
            by_cases c21 : x46_10 = true
            · subst c21
              have H1 : (some true) = some r := by rw [if_pos rfl] at H; exact H
              clear H
              have H := H1
              clear H1
              obtain rfl := Option.some.inj H
              go_wp2
              go_ret
              exact ⟨by first | rfl | (simp [errW_none, errW_some] <;> rfl) | (simp [*, errW_none, errW_some] <;> rfl), by repeat (first | (with_reducible first | exact HB.out | apply below_alloc | apply pw_below_drewN | apply below_drew1 | refine below_set ?_ GE252.out) | exact HB.out)⟩
            · replace c21 := Bool.eq_false_iff.mpr c21
              subst c21
              have H1 : ((impl_ProofSizes.f a1 a2).bind fun bt258 => (if bt258.1 < 0 then (laws_FnRootByChains.j2 kj10 a1 a2 l3 l4 bt258.1 true a0_0 a0_1 a0_2 a0_3 a0_4 a0_5) else (laws_FnRootByChains.j2 kj10 a1 a2 l3 l4 bt258.1 ((wrap64 (bt258.1 + bt258.2)) != (l4.length : Int)) a0_0 a0_1 a0_2 a0_3 a0_4 a0_5))) = some r := by rw [if_neg (show ¬ (false = true) by decide)] at H; exact H
              clear H
              have H := H1
              clear H1
              replace H := Option.bind_eq_some_iff.mp H
              obtain ⟨⟨t258, t259⟩, A220, H⟩ := H
              replace H : (if t258 < 0 then (laws_FnRootByChains.j2 kj10 a1 a2 l3 l4 t258 true a0_0 a0_1 a0_2 a0_3 a0_4 a0_5) else (laws_FnRootByChains.j2 kj10 a1 a2 l3 l4 t258 ((wrap64 (t258 + t259)) != (l4.length : Int)) a0_0 a0_1 a0_2 a0_3 a0_4 a0_5)) = some r := H
              have A22 := Aside0.mk A220
              clear A220
              have HC23 := Aside0.mk H
              clear H
              go_upto_region 6 with (first | ((with_reducible refine gate_callee (f := 13) rfl ?_); refine goesL_ (some 50) rfl rfl Try.func13 (by kernel_rfl) rfl #[.int .u64 a1, .int .u64 a2] rfl (by (try simp only [List.map_toArray, List.map_cons, List.map_nil]); first | done | rfl | (simp only [List.length_drop, List.length_take]; rfl)) ?_; (with_reducible refine (impl_ProofSizes.calls a1 a2 t258 t259 _ A22.out).mono ?_); rintro e w' ⟨rfl, ⟨nd, rfl⟩⟩; refine ⟨_, rfl, ?_⟩))
              (try simp only [Act.put, List.setIfInBounds_toArray, List.set_cons_zero, List.set_cons_succ])
              go_cut [62] (fun v62 wc => ∃ (kq : Nat) (x62_22 : Bool), v62 = .bool x62_22 ∧ Aside0 (laws_FnRootByChains.j2 kq a1 a2 l3 l4 t258 x62_22 a0_0 a0_1 a0_2 a0_3 a0_4 a0_5 = some r) ∧ Aside0 (kq ≤ kj10) ∧ Aside0 (wc.heap[gb252]? = some (.cells #[.int .i64 a0_0, .int .i64 a0_1, .int .i64 a0_2, .int .u64 a0_3, .int .u64 a0_4, .int .u64 a0_5] 29 (0, 0))) ∧ Aside0 (Below w.heap.size w wc))
              case first =>
                have H := HC23.out
                clear HC23
                by_cases c24 : t258 < 0
                · rw [if_pos c24] at H
                  have c24b0 : decide (t258 < 0) = true := decide_eq_true c24
                  clear c24
                  (first | rw [c24b0] | (simp only [i64_w, i32_w]; rw [c24b0]) | skip)
                  have H' := Aside0.mk H
                  clear H
                  go_wp2
                  go_meet
                  case rel => exact ⟨_, (true), (by first | rfl | (simp; done) | (simp [*]; done)), H', ⟨by have := HJ5.out; have := HJ10.out; first | omega | exact Nat.le_refl _⟩, ⟨by (with_reducible repeat (first | refine blk_drewN ?_ _ | refine blk_drew ?_ | refine blk_alloc ?_ _)); exact BK252.out⟩, ⟨by repeat (first | (with_reducible first | exact HB.out | apply below_alloc | apply pw_below_drewN | apply below_drew1 | refine below_set ?_ GE252.out) | exact HB.out)⟩⟩
                · rw [if_neg c24] at H
                  have c24b0 : decide (t258 < 0) = false := decide_eq_false c24
                  clear c24
                  (first | rw [c24b0] | (simp only [i64_w, i32_w]; rw [c24b0]) | skip)
                  have H' := Aside0.mk H
                  clear H
                  go_wp2
                  go_meet
                  case rel => exact ⟨_, (((wrap64 (t258 + t259)) != (l4.length : Int))), (by first | rfl | (simp; done) | (simp [*]; done)), H', ⟨by have := HJ5.out; have := HJ10.out; first | omega | exact Nat.le_refl _⟩, ⟨by (with_reducible repeat (first | refine blk_drewN ?_ _ | refine blk_drew ?_ | refine blk_alloc ?_ _)); exact BK252.out⟩, ⟨by repeat (first | (with_reducible first | exact HB.out | apply below_alloc | apply pw_below_drewN | apply below_drew1 | refine below_set ?_ GE252.out) | exact HB.out)⟩⟩
              case rest =>
                clear HC23
                try clear c1
                try clear c2
                try clear p2
                try clear c3
                try clear c4
                try clear p6
                try clear c8
                try clear c8b0
                try clear c8b1
                try clear c10
                try clear c12
                try clear c12b0
                try clear c13
                try clear c14
                try clear c15
                try clear c15b0
                try clear c15b1
                try clear c21
                try clear c24
                try clear c24b0
                try clear hcz17_0
                try clear hcz17_1
                try clear hcz17_2
                try clear hcz17_3
                try clear hcz17_4
                try clear hcz17_5
                try clear hcz20_0
                try clear hcz20_1
                try clear hcz20_2
                try clear hcz20_3
                try clear hcz20_4
                try clear hcz20_5
                try clear hfz17_0
                try clear hfz17_1
                try clear hfz17_2
                try clear hfz17_3
                try clear hfz17_4
                try clear hfz17_5
                try clear hfz20_0
                try clear hfz20_1
                try clear hfz20_2
                try clear hfz20_3
                try clear hfz20_4
                try clear hfz20_5
                try clear p2
                obtain ⟨kq, x62_22, rfl, HA, HJ22, BK252, HB⟩ := hcut
                cases kq with
                | zero => exact absurd HA.out (by simp [laws_FnRootByChains.j2])
                | succ kj22 =>
                  have H := HA.out
                  clear HA
                  simp only [laws_FnRootByChains.j2] at H
                  by_cases c25 : x62_22 = true
                  · subst c25
                    have H1 : (some false) = some r := by rw [if_pos rfl] at H; exact H
                    clear H
                    have H := H1
                    clear H1
                    obtain rfl := Option.some.inj H
                    go_wp2
                    go_ret
                    exact ⟨by first | rfl | (simp [errW_none, errW_some] <;> rfl) | (simp [*, errW_none, errW_some] <;> rfl), by repeat (first | (with_reducible first | exact HB.out | apply below_alloc | apply pw_below_drewN | apply below_drew1 | refine below_set ?_ GE252.out) | exact HB.out)⟩
                  · replace c25 := Bool.eq_false_iff.mpr c25
                    subst c25
                    have H1 : ((impl_RootOfInclusion.f kj22 a0_0 a0_1 a0_2 a0_3 a0_4 a0_5 a1 a2 l3 l4).bind fun bt260 => (if bt260.2 = true then (if 0 ≤ t258 then (if t258 ≤ (l4.length : Int) then ((impl_ChainInner.f kj22 a0_0 a0_1 a0_2 a0_3 a0_4 a0_5 l3 (l4.take (t258 : Int).toNat) a1).bind fun t268 => ((impl_ChainBorder.f kj22 a0_0 a0_1 a0_2 a0_3 a0_4 a0_5 t268 (l4.drop (t258 : Int).toNat)).bind fun t275 => ((spec_SameText.f bt260.1 t275).bind fun t278 => (some t278)))) else (none)) else (none)) else (some false))) = some r := by rw [if_neg (show ¬ (false = true) by decide)] at H; exact H
                    clear H
                    have H := H1
                    clear H1
                    replace H := Option.bind_eq_some_iff.mp H
                    obtain ⟨⟨t260, t263⟩, A260, H⟩ := H
                    replace H : (if t263 = true then (if 0 ≤ t258 then (if t258 ≤ (l4.length : Int) then ((impl_ChainInner.f kj22 a0_0 a0_1 a0_2 a0_3 a0_4 a0_5 l3 (l4.take (t258 : Int).toNat) a1).bind fun t268 => ((impl_ChainBorder.f kj22 a0_0 a0_1 a0_2 a0_3 a0_4 a0_5 t268 (l4.drop (t258 : Int).toNat)).bind fun t275 => ((spec_SameText.f t260 t275).bind fun t278 => (some t278)))) else (none)) else (none)) else (some false)) = some r := H
                    have A26 := Aside0.mk A260
                    clear A260
                    by_cases c27 : t263 = true
                    · subst c27
                      have H1 : (if 0 ≤ t258 then (if t258 ≤ (l4.length : Int) then ((impl_ChainInner.f kj22 a0_0 a0_1 a0_2 a0_3 a0_4 a0_5 l3 (l4.take (t258 : Int).toNat) a1).bind fun t268 => ((impl_ChainBorder.f kj22 a0_0 a0_1 a0_2 a0_3 a0_4 a0_5 t268 (l4.drop (t258 : Int).toNat)).bind fun t275 => ((spec_SameText.f t260 t275).bind fun t278 => (some t278)))) else (none)) else (none)) = some r := by rw [if_pos rfl] at H; exact H
                      clear H
                      have H := H1
                      clear H1
                      by_cases c28 : 0 ≤ t258
                      · rw [if_pos c28] at H
                        have c28b0 := eq_true c28
                        have c28b1 : decide (0 ≤ t258) = true := decide_eq_true c28
                        clear c28
                        by_cases c29 : t258 ≤ (l4.length : Int)
                        · rw [if_pos c29] at H
                          have c29b0 := eq_true c29
                          have c29b1 : decide (t258 ≤ (l4.length : Int)) = true := decide_eq_true c29
                          clear c29
                          obtain ⟨y264, hy264⟩ : ∃ y_ : List (List Int), y_ = (l4.take (t258 : Int).toNat) := ⟨_, rfl⟩
                          replace H : ((impl_ChainInner.f kj22 a0_0 a0_1 a0_2 a0_3 a0_4 a0_5 l3 y264 a1).bind fun t268 => ((impl_ChainBorder.f kj22 a0_0 a0_1 a0_2 a0_3 a0_4 a0_5 t268 (l4.drop (t258 : Int).toNat)).bind fun t275 => ((spec_SameText.f t260 t275).bind fun t278 => (some t278)))) = some r := by first | (rw [hy264]; with_reducible exact H) | (have H2_ := (Option.bind_some _ _).symm.trans H; rw [hy264]; with_reducible exact H2_) | (have H2_ := (Option.bind_some _ _).symm.trans H; with_reducible exact H2_) | with_reducible exact H | (rw [hy264]; exact H) | exact H
                          have Ny264 := Aside0.mk hy264
                          clear hy264
                          replace H := Option.bind_eq_some_iff.mp H
                          obtain ⟨t268, A300, H⟩ := H
                          replace H : ((impl_ChainBorder.f kj22 a0_0 a0_1 a0_2 a0_3 a0_4 a0_5 t268 (l4.drop (t258 : Int).toNat)).bind fun t275 => ((spec_SameText.f t260 t275).bind fun t278 => (some t278))) = some r := H
                          have A30 := Aside0.mk A300
                          clear A300
                          have c31b0 := eq_true (of_decide_eq_true (by first | (with_reducible assumption) | assumption) : 0 ≤ t258)
                          have c32b0 := eq_true (of_decide_eq_true (by first | (with_reducible assumption) | assumption) : t258 ≤ (l4.length : Int))
                          obtain ⟨y271, hy271⟩ : ∃ y_ : List (List Int), y_ = (l4.drop (t258 : Int).toNat) := ⟨_, rfl⟩
                          replace H : ((impl_ChainBorder.f kj22 a0_0 a0_1 a0_2 a0_3 a0_4 a0_5 t268 y271).bind fun t275 => ((spec_SameText.f t260 t275).bind fun t278 => (some t278))) = some r := by first | (rw [hy271]; with_reducible exact H) | (have H2_ := (Option.bind_some _ _).symm.trans H; rw [hy271]; with_reducible exact H2_) | (have H2_ := (Option.bind_some _ _).symm.trans H; with_reducible exact H2_) | with_reducible exact H | (rw [hy271]; exact H) | exact H
                          have Ny271 := Aside0.mk hy271
                          clear hy271
                          replace H := Option.bind_eq_some_iff.mp H
                          obtain ⟨t275, A330, H⟩ := H
                          replace H : ((spec_SameText.f t260 t275).bind fun t278 => (some t278)) = some r := H
                          have A33 := Aside0.mk A330
                          clear A330
                          replace H := Option.bind_eq_some_iff.mp H
                          obtain ⟨t278, A340, H⟩ := H
                          replace H : (some t278) = some r := H
                          have A34 := Aside0.mk A340
                          clear A340
                          obtain rfl := Option.some.inj H
                          have hcz35_0 : wc.cell? ⟨gb252, 0, none⟩ = some (.int .i64 a0_0) := (blk_cell BK252.out 0).trans rfl
                          have hcz35_1 : wc.cell? ⟨gb252, 1, none⟩ = some (.int .i64 a0_1) := (blk_cell BK252.out 1).trans rfl
                          have hcz35_2 : wc.cell? ⟨gb252, 2, none⟩ = some (.int .i64 a0_2) := (blk_cell BK252.out 2).trans rfl
                          have hcz35_3 : wc.cell? ⟨gb252, 3, none⟩ = some (.int .u64 a0_3) := (blk_cell BK252.out 3).trans rfl
                          have hcz35_4 : wc.cell? ⟨gb252, 4, none⟩ = some (.int .u64 a0_4) := (blk_cell BK252.out 4).trans rfl
                          have hcz35_5 : wc.cell? ⟨gb252, 5, none⟩ = some (.int .u64 a0_5) := (blk_cell BK252.out 5).trans rfl
                          have hfz35_0 := blk_frozen BK252.out 0
                          have hfz35_1 := blk_frozen BK252.out 1
                          have hfz35_2 := blk_frozen BK252.out 2
                          have hfz35_3 := blk_frozen BK252.out 3
                          have hfz35_4 := blk_frozen BK252.out 4
                          have hfz35_5 := blk_frozen BK252.out 5
                          try go_wp2_with (first | ((with_reducible refine gate_callee (f := 14) rfl ?_); refine goesL_ (some 69) rfl rfl Try.func14 (by kernel_rfl) rfl #[.agg #[.int .i64 a0_0, .int .i64 a0_1, .int .i64 a0_2, .int .u64 a0_3, .int .u64 a0_4, .int .u64 a0_5], .int .u64 a1, .int .u64 a2, .slice A3 l3.length c3, .slice A4 l4.length c4] rfl (by (try simp only [List.map_toArray, List.map_cons, List.map_nil]); first | done | rfl | (simp only [List.length_drop, List.length_take]; rfl)) ?_; (with_reducible refine (impl_RootOfInclusion.calls kj22 a0_0 a0_1 a0_2 a0_3 a0_4 a0_5 a1 a2 _ _ l3 _ _ l4 t260 true _ ?side1 ?side2 ?side3 ?side4 A26.out).mono ?_); (case side1 => repeat (first | exact (Kd.C_below HR3.out HB.out) | (with_reducible refine Kd.C_alloc ?_ _) | (with_reducible refine Kd.C_drewN ?_ _) | (with_reducible refine Kd.C_drew ?_))); (case side2 => exact HC3.out); (case side3 => repeat (first | exact (Kd.C_below HR4.out HB.out) | (with_reducible refine Kd.C_alloc ?_ _) | (with_reducible refine Kd.C_drewN ?_ _) | (with_reducible refine Kd.C_drew ?_))); (case side4 => exact HC4.out); rintro e w36 ⟨v261, rfl, ho0, hb⟩; refine ⟨_, rfl, ?_⟩; have n0_ := Aside0.mk (Kd.V_lower (Kd.V_mono (ok' := fun k_ => k_ ≠ gb252) ho0 (fun k_ hk_ => (Kd.freshB (g := gb252) (o := .cells #[.int .i64 a0_0, .int .i64 a0_1, .int .i64 a0_2, .int .u64 a0_3, .int .u64 a0_4, .int .u64 a0_5] 29 (0, 0)) (by (with_reducible repeat (first | refine blk_drewN ?_ _ | refine blk_drew ?_ | refine blk_alloc ?_ _)); exact BK252.out) k_ hk_))) (below_size (by repeat (first | (with_reducible first | exact HB.out | apply below_alloc | apply pw_below_drewN | apply below_drew1 | refine below_set ?_ GE252.out) | exact HB.out)))); have n1_ := Aside0.mk (blk_below (g := gb252) (o := .cells #[.int .i64 a0_0, .int .i64 a0_1, .int .i64 a0_2, .int .u64 a0_3, .int .u64 a0_4, .int .u64 a0_5] 29 (0, 0)) (by (with_reducible repeat (first | refine blk_drewN ?_ _ | refine blk_drew ?_ | refine blk_alloc ?_ _)); exact BK252.out) hb); have n2_ := Aside0.mk (below_step (by repeat (first | (with_reducible first | exact HB.out | apply below_alloc | apply pw_below_drewN | apply below_drew1 | refine below_set ?_ GE252.out) | exact HB.out)) hb); clear BK252; clear HB; have HO262 := n0_; have BK252 := n1_; have HB := n2_; clear n0_ n1_ n2_; (try clear hb); (try clear hb2); (try clear hk); (try clear hi); (try clear ho0)))
                          have n0_ := Aside0.mk (Kd.V_drew HO262.out)
                          have n1_ := Aside0.mk (blk_drew BK252.out)
                          have n2_ := Aside0.mk (below_drew1 HB.out)
                          clear HO262
                          clear BK252
                          clear HB
                          have HO262 := n0_
                          have BK252 := n1_
                          have HB := n2_
                          clear n0_ n1_ n2_
                          have q38 : (t258 : Int) ≤ ((l4.length : Int) : Int) := of_decide_eq_true (by first | (with_reducible assumption) | assumption)
                          obtain ⟨i038, hi038, _, hsz38, _⟩ := info_parts info30
                          have hroom38 : l4.length ≤ c4 := HC4.out
                          have hC38 : Kd.C (Kd.slice 5 (Kd.int .u8)) _ A4 l4.length l4 := HR4.out
                          have hcut38 := cut_to (P := Try.prog) 23 30 .i64 Try.underlying23 hi038 A4 l4.length c4 t258 (of_decide_eq_true (by first | (with_reducible assumption) | assumption)) q38 hroom38
                          have hr38 := Kd.C_take (m := (t258 : Int).toNat) hC38 (by omega)
                          have hy38 : y264.length = (t258 : Int).toNat := (by rw [Ny264.out, List.length_take]; omega)
                          rw [← Ny264.out] at hr38
                          rw [← hy38] at hcut38
                          have HR267 := Aside0.mk hr38
                          have HC267 := Aside0.mk (show y264.length ≤ c4 from by omega)
                          clear hr38 hC38 hroom38 hi038 hsz38
                          have KY38 := Aside0.mk hy38
                          clear hy38
                          replace q38 := eq_true q38
                          have q39 : (t258 : Int) ≤ ((l4.length : Int) : Int) := of_decide_eq_true (by first | (with_reducible assumption) | assumption)
                          obtain ⟨i039, hi039, _, hsz39, _⟩ := info_parts info30
                          have hroom39 : l4.length ≤ c4 := HC4.out
                          have hC39 : Kd.C (Kd.slice 5 (Kd.int .u8)) _ A4 l4.length l4 := HR4.out
                          have q039 : (0 : Int) ≤ (t258 : Int) := of_decide_eq_true (by first | (with_reducible assumption) | assumption)
                          have hcut39 := cut_from (P := Try.prog) 23 30 .i64 Try.underlying23 hi039 1 hsz39 A4 l4.length c4 t258 q039 q39
                          have hr39 := Kd.C_drop (m := (t258 : Int).toNat) (c := c4) hC39 (by omega) hroom39
                          obtain ⟨A39, hA39⟩ : ∃ A1, A1 = (if c4 = (t258 : Int).toNat then A4 else (A4 : Option Addr).map (·.add ((t258 : Int).toNat * 1))) := ⟨_, rfl⟩
                          obtain ⟨c39, hc39⟩ : ∃ c1, c1 = c4 - (t258 : Int).toNat := ⟨_, rfl⟩
                          have hy39 : y271.length = l4.length - (t258 : Int).toNat := (by rw [Ny271.out, List.length_drop] <;> omega)
                          rw [show (l4).drop (t258 : Int).toNat = y271 from Ny271.out.symm] at hr39
                          replace hr39 : Kd.C (Kd.slice 5 (Kd.int .u8)) _ A39 y271.length y271 := (by rw [hA39]; exact hr39)
                          rw [← hy39, ← hA39, ← hc39] at hcut39
                          have HR274 := Aside0.mk hr39
                          have HC274 := Aside0.mk (show y271.length ≤ c39 from by rw [hy39, hc39]; exact Nat.sub_le_sub_right hroom39 _)
                          clear hr39 hC39 hroom39 hi039 hsz39 hc39
                          have KY39 := Aside0.mk hy39
                          have KA39 := Aside0.mk hA39
                          clear hy39 hA39
                          replace q39 := eq_true q39
                          refine start_ (n := 18) (S := fun w' => w'.cell? ⟨gb252, 0, none⟩ = some (.int .i64 a0_0) ∧ w'.cell? ⟨gb252, 1, none⟩ = some (.int .i64 a0_1) ∧ w'.cell? ⟨gb252, 2, none⟩ = some (.int .i64 a0_2) ∧ w'.cell? ⟨gb252, 3, none⟩ = some (.int .u64 a0_3) ∧ w'.cell? ⟨gb252, 4, none⟩ = some (.int .u64 a0_4) ∧ w'.cell? ⟨gb252, 5, none⟩ = some (.int .u64 a0_5)) (ds := []) #[false, false, false, false, false, false, false, false, false, false, false, false, false, false, false, false, false, false] (by kernel_rfl) rfl rfl ⟨(blk_cell BK252.out 0).trans rfl, (blk_cell BK252.out 1).trans rfl, (blk_cell BK252.out 2).trans rfl, (blk_cell BK252.out 3).trans rfl, (blk_cell BK252.out 4).trans rfl, (blk_cell BK252.out 5).trans rfl⟩ (fun hHeld => ?_); refine with_tabW laws_FnRootByChains.tab9 laws_FnRootByChains.bits9 (fun HT_ HW_ => ?_)
                          generalize w36.drew = w37 at HO262 BK252 HB HR267 HR274 hHeld ⊢
                          refine pure_ (i := 0) (N := some 72) (v := ?_) (a' := ?_) #[true, false, false, false, false, false, false, false, false, false, false, false, false, false, false, false, false, false] rfl rfl (any_of HT_.out (by kernel_rfl)) (fun _ _ _ h => h) (Or.inl ⟨by rfl, ?_⟩) ?_ ?_
                          rotate_left
                          · intro w'
                            go_simp
                            with_reducible rfl
                          rotate_left
                          · simp only [Act.put, List.setIfInBounds_toArray, List.set_cons_zero, List.set_cons_succ, i64_w, i32_w]
                            rfl
                          refine pure_ (i := 1) (N := some 73) (v := ?_) (a' := ?_) #[true, true, false, false, false, false, false, false, false, false, false, false, false, false, false, false, false, false] rfl rfl (any_of HT_.out (by kernel_rfl)) (fun _ _ _ h => h) (Or.inl ⟨by rfl, ?_⟩) ?_ ?_
                          rotate_left
                          · intro w'
                            go_simp
                            with_reducible rfl
                          rotate_left
                          · simp only [Act.put, List.setIfInBounds_toArray, List.set_cons_zero, List.set_cons_succ, i64_w, i32_w]
                            rfl
                          refine pure_ (i := 2) (N := some 74) (v := ?_) (a' := ?_) #[true, true, true, false, false, false, false, false, false, false, false, false, false, false, false, false, false, false] rfl rfl (any_of HT_.out (by kernel_rfl)) (fun _ _ _ h => h) (Or.inl ⟨by rfl, ?_⟩) ?_ ?_
                          rotate_left
                          · intro w'
                            go_simp
                            with_reducible rfl
                          rotate_left
                          · simp only [Act.put, List.setIfInBounds_toArray, List.set_cons_zero, List.set_cons_succ, i64_w, i32_w]
                            rfl
                          refine pure_ (i := 5) (N := some 77) (v := ?_) (a' := ?_) #[true, true, true, false, false, true, false, false, false, false, false, false, false, false, false, false, false, false] rfl rfl (any_of HT_.out (by kernel_rfl)) (fun _ _ _ h => h) (Or.inl ⟨by rfl, ?_⟩) ?_ ?_
                          rotate_left
                          · intro w'
                            go_simp
                            with_reducible rfl
                          rotate_left
                          · simp only [Act.put, List.setIfInBounds_toArray, List.set_cons_zero, List.set_cons_succ, i64_w, i32_w]
                            rfl
                          refine pure_ (i := 6) (N := some 78) (v := ?_) (a' := ?_) #[true, true, true, false, false, true, true, false, false, false, false, false, false, false, false, false, false, false] rfl rfl (any_of HT_.out (by kernel_rfl)) (fun _ _ _ h => h) (Or.inl ⟨by rfl, ?_⟩) ?_ ?_
                          rotate_left
                          · intro w'
                            go_simp
                            with_reducible rfl
                          rotate_left
                          · simp only [Act.put, List.setIfInBounds_toArray, List.set_cons_zero, List.set_cons_succ, i64_w, i32_w]
                            rfl
                          refine pure_ (i := 7) (N := some 79) (v := ?_) (a' := ?_) #[true, true, true, false, false, true, true, true, false, false, false, false, false, false, false, false, false, false] rfl rfl (any_of HT_.out (by kernel_rfl)) (fun _ _ _ h => h) (Or.inl ⟨by rfl, ?_⟩) ?_ ?_
                          rotate_left
                          · intro w'
                            go_simp
                            with_reducible rfl
                          rotate_left
                          · simp only [Act.put, List.setIfInBounds_toArray, List.set_cons_zero, List.set_cons_succ, i64_w, i32_w]
                            rfl
                          refine pure_ (i := 8) (N := some 80) (v := ?_) (a' := ?_) #[true, true, true, false, false, true, true, true, true, false, false, false, false, false, false, false, false, false] rfl rfl (any_of HT_.out (by kernel_rfl)) (fun _ _ _ h => h) (Or.inl ⟨by rfl, ?_⟩) ?_ ?_
                          rotate_left
                          · intro w'
                            go_simp
                            with_reducible rfl
                          rotate_left
                          · simp only [Act.put, List.setIfInBounds_toArray, List.set_cons_zero, List.set_cons_succ, i64_w, i32_w]
                            rfl
                          refine pure_ (i := 9) (N := some 81) (v := ?_) (a' := ?_) #[true, true, true, false, false, true, true, true, true, true, false, false, false, false, false, false, false, false] rfl rfl (any_of HT_.out (by kernel_rfl)) (fun _ _ _ h => h) (Or.inl ⟨by rfl, ?_⟩) ?_ ?_
                          rotate_left
                          · intro w'
                            go_simp
                            with_reducible rfl
                          rotate_left
                          · simp only [Act.put, List.setIfInBounds_toArray, List.set_cons_zero, List.set_cons_succ, i64_w, i32_w]
                            rfl
                          refine pure_ (i := 11) (N := some 83) (v := ?_) (a' := ?_) #[true, true, true, false, false, true, true, true, true, true, false, true, false, false, false, false, false, false] rfl rfl (any_of HT_.out (by kernel_rfl)) (fun _ _ _ h => h) (Or.inl ⟨by rfl, ?_⟩) ?_ ?_
                          rotate_left
                          · intro w'
                            go_simp
                            with_reducible rfl
                          rotate_left
                          · simp only [Act.put, List.setIfInBounds_toArray, List.set_cons_zero, List.set_cons_succ, i64_w, i32_w]
                            rfl
                          refine pure_ (i := 12) (N := some 84) (v := ?_) (a' := ?_) #[true, true, true, false, false, true, true, true, true, true, false, true, true, false, false, false, false, false] rfl rfl (any_of HT_.out (by kernel_rfl)) (fun _ _ _ h => h) (Or.inl ⟨by rfl, ?_⟩) ?_ ?_
                          rotate_left
                          · intro w'
                            go_simp
                            with_reducible rfl
                          rotate_left
                          · simp only [Act.put, List.setIfInBounds_toArray, List.set_cons_zero, List.set_cons_succ, i64_w, i32_w]
                            rfl
                          refine pure_ (i := 13) (N := some 85) (v := ?_) (a' := ?_) #[true, true, true, false, false, true, true, true, true, true, false, true, true, true, false, false, false, false] rfl rfl (any_of HT_.out (by kernel_rfl)) (fun _ _ _ h => h) (Or.inl ⟨by rfl, ?_⟩) ?_ ?_
                          rotate_left
                          · intro w'
                            go_simp
                            with_reducible rfl
                          rotate_left
                          · simp only [Act.put, List.setIfInBounds_toArray, List.set_cons_zero, List.set_cons_succ, i64_w, i32_w]
                            rfl
                          refine take_ (i := 3) (N := some 75) (v := ?_) (a' := ?_) #[true, true, true, true, false, true, true, true, true, true, false, true, true, true, false, false, false, false] rfl rfl (take_ofW HT_.out HW_.out (by kernel_rfl)) (fun _ _ _ h => h) (Or.inl ⟨by rfl, ?_⟩) hHeld ?_ ?_
                          rotate_left
                          · rintro w' ⟨s0, s1, s2, s3, s4, s5⟩
                            go_simp
                            with_reducible rfl
                          rotate_left
                          · simp only [Act.put, List.setIfInBounds_toArray, List.set_cons_zero, List.set_cons_succ, i64_w, i32_w]
                            rfl
                          refine take_ (i := 4) (N := some 76) (v := ?_) (a' := ?_) #[true, true, true, true, true, true, true, true, true, true, false, true, true, true, false, false, false, false] rfl rfl (take_ofW HT_.out HW_.out (by kernel_rfl)) (fun _ _ _ h => h) (Or.inl ⟨by rfl, ?_⟩) hHeld ?_ ?_
                          rotate_left
                          · rintro w' ⟨s0, s1, s2, s3, s4, s5⟩
                            go_simp
                            with_reducible rfl
                          rotate_left
                          · simp only [Act.put, List.setIfInBounds_toArray, List.set_cons_zero, List.set_cons_succ, i64_w, i32_w]
                            rfl
                          refine one_ (i := 10) (N := some 82) #[true, true, true, true, true, true, true, true, true, true, true, true, true, true, false, false, false, false] rfl rfl (one_of HT_.out (by kernel_rfl)) (by decide) (fun K hK => ?_)
                          refine goes_ Try.func17 (by kernel_rfl) rfl #[.agg #[.int .i64 a0_0, .int .i64 a0_1, .int .i64 a0_2, .int .u64 a0_3, .int .u64 a0_4, .int .u64 a0_5], .slice A3 l3.length c3, .slice A4 y264.length c4, .int .u64 a1] (by rfl) rfl rfl (by (try simp only [List.map_toArray, List.map_cons, List.map_nil]); first | done | rfl | (simp only [List.length_drop, List.length_take]; rfl)) ?_
                          with_reducible refine (impl_ChainInner.calls kj22 a0_0 a0_1 a0_2 a0_3 a0_4 a0_5 _ _ l3 _ _ y264 a1 t268 _ ?side1 ?side2 ?side3 ?side4 A30.out).mono ?_
                          (case side1 => repeat (first | exact (Kd.C_below HR3.out HB.out) | (with_reducible refine Kd.C_alloc ?_ _) | (with_reducible refine Kd.C_drewN ?_ _) | (with_reducible refine Kd.C_drew ?_)))
                          (case side2 => exact HC3.out)
                          (case side3 => repeat (first | exact (Kd.C_below HR267.out HB.out) | (with_reducible refine Kd.C_alloc ?_ _) | (with_reducible refine Kd.C_drewN ?_ _) | (with_reducible refine Kd.C_drew ?_)))
                          (case side4 => exact HC267.out)
                          rintro e w40 ⟨v269, rfl, ho0, hb⟩
                          refine ⟨_, rfl, ?_⟩
                          have n0_ := Aside0.mk (Kd.V_below (by (with_reducible repeat (first | apply Kd.V_alloc | apply Kd.V_drewN | apply Kd.V_drew)); exact HO262.out) hb)
                          have n1_ := Aside0.mk (Kd.V_lower (Kd.V_mono (ok' := fun k_ => k_ ≠ gb252) ho0 (fun k_ hk_ => (Kd.freshB (g := gb252) (o := .cells #[.int .i64 a0_0, .int .i64 a0_1, .int .i64 a0_2, .int .u64 a0_3, .int .u64 a0_4, .int .u64 a0_5] 29 (0, 0)) (by (with_reducible repeat (first | refine blk_drewN ?_ _ | refine blk_drew ?_ | refine blk_alloc ?_ _)); exact BK252.out) k_ hk_))) (below_size (by repeat (first | (with_reducible first | exact HB.out | apply below_alloc | apply pw_below_drewN | apply below_drew1 | refine below_set ?_ GE252.out) | exact HB.out))))
                          have n2_ := Aside0.mk (blk_below (g := gb252) (o := .cells #[.int .i64 a0_0, .int .i64 a0_1, .int .i64 a0_2, .int .u64 a0_3, .int .u64 a0_4, .int .u64 a0_5] 29 (0, 0)) (by (with_reducible repeat (first | refine blk_drewN ?_ _ | refine blk_drew ?_ | refine blk_alloc ?_ _)); exact BK252.out) hb)
                          have n3_ := Aside0.mk (below_step (by repeat (first | (with_reducible first | exact HB.out | apply below_alloc | apply pw_below_drewN | apply below_drew1 | refine below_set ?_ GE252.out) | exact HB.out)) hb)
                          clear HO262
                          clear BK252
                          clear HB
                          have HO262 := n0_
                          have HO270 := n1_
                          have BK252 := n2_
                          have HB := n3_
                          clear n0_ n1_ n2_ n3_
                          (try clear hb)
                          (try clear hb2)
                          (try clear hk)
                          (try clear hi)
                          (try clear ho0)
                          obtain ⟨Ao41, co41, eo41⟩ := Kd.V_slice HO270.out
                          (first | subst eo41 | (injection eo41 with f1_ f2_ f3_; have f4_ := f1_.symm; have f5_ := f3_.symm; clear f1_ f2_ f3_; subst f4_; subst f5_))
                          refine hK.out _ _ ⟨(blk_cell BK252.out 0).trans rfl, (blk_cell BK252.out 1).trans rfl, (blk_cell BK252.out 2).trans rfl, (blk_cell BK252.out 3).trans rfl, (blk_cell BK252.out 4).trans rfl, (blk_cell BK252.out 5).trans rfl⟩ (fun hHeld => ?_)
                          clear hK K
                          refine norm_ (a' := ?_) ?_ ?_
                          rotate_left
                          · show Act.put _ (some 82) _ = _
                            simp only [Act.put, List.setIfInBounds_toArray, List.set_cons_zero, List.set_cons_succ, i64_w, i32_w]
                            rfl
                          refine one_ (i := 14) (N := some 86) #[true, true, true, true, true, true, true, true, true, true, true, true, true, true, true, false, false, false] rfl rfl (one_of HT_.out (by kernel_rfl)) (by decide) (fun K hK => ?_)
                          refine goes_ Try.func16 (by kernel_rfl) rfl #[.agg #[.int .i64 a0_0, .int .i64 a0_1, .int .i64 a0_2, .int .u64 a0_3, .int .u64 a0_4, .int .u64 a0_5], .slice Ao41 t268.length co41, .slice A39 y271.length c39] (by rfl) rfl rfl (by (try simp only [List.map_toArray, List.map_cons, List.map_nil]); first | done | rfl | (simp only [List.length_drop, List.length_take]; rfl)) ?_
                          with_reducible refine (impl_ChainBorder.calls kj22 a0_0 a0_1 a0_2 a0_3 a0_4 a0_5 _ _ t268 _ _ y271 t275 _ ?side1 ?side2 ?side3 ?side4 A33.out).mono ?_
                          (case side1 => repeat (first | exact (Kd.V_reads' HO270.out).2.2 | (with_reducible refine Kd.C_alloc ?_ _) | (with_reducible refine Kd.C_drewN ?_ _) | (with_reducible refine Kd.C_drew ?_)))
                          (case side2 => exact (Kd.V_reads' HO270.out).2.1)
                          (case side3 => repeat (first | exact (Kd.C_below HR274.out HB.out) | (with_reducible refine Kd.C_alloc ?_ _) | (with_reducible refine Kd.C_drewN ?_ _) | (with_reducible refine Kd.C_drew ?_)))
                          (case side4 => exact HC274.out)
                          rintro e w42 ⟨v276, rfl, ho0, hb⟩
                          refine ⟨_, rfl, ?_⟩
                          have n0_ := Aside0.mk (Kd.V_below (by (with_reducible repeat (first | apply Kd.V_alloc | apply Kd.V_drewN | apply Kd.V_drew)); exact HO262.out) hb)
                          have n1_ := Aside0.mk (Kd.V_below (by (with_reducible repeat (first | apply Kd.V_alloc | apply Kd.V_drewN | apply Kd.V_drew)); exact HO270.out) hb)
                          have n2_ := Aside0.mk (Kd.V_lower (Kd.V_mono (ok' := fun k_ => k_ ≠ gb252) ho0 (fun k_ hk_ => (Kd.freshB (g := gb252) (o := .cells #[.int .i64 a0_0, .int .i64 a0_1, .int .i64 a0_2, .int .u64 a0_3, .int .u64 a0_4, .int .u64 a0_5] 29 (0, 0)) (by (with_reducible repeat (first | refine blk_drewN ?_ _ | refine blk_drew ?_ | refine blk_alloc ?_ _)); exact BK252.out) k_ hk_))) (below_size (by repeat (first | (with_reducible first | exact HB.out | apply below_alloc | apply pw_below_drewN | apply below_drew1 | refine below_set ?_ GE252.out) | exact HB.out))))
                          have n3_ := Aside0.mk (blk_below (g := gb252) (o := .cells #[.int .i64 a0_0, .int .i64 a0_1, .int .i64 a0_2, .int .u64 a0_3, .int .u64 a0_4, .int .u64 a0_5] 29 (0, 0)) (by (with_reducible repeat (first | refine blk_drewN ?_ _ | refine blk_drew ?_ | refine blk_alloc ?_ _)); exact BK252.out) hb)
                          have n4_ := Aside0.mk (below_step (by repeat (first | (with_reducible first | exact HB.out | apply below_alloc | apply pw_below_drewN | apply below_drew1 | refine below_set ?_ GE252.out) | exact HB.out)) hb)
                          clear HO262
                          clear HO270
                          clear BK252
                          clear HB
                          have HO262 := n0_
                          have HO270 := n1_
                          have HO277 := n2_
                          have BK252 := n3_
                          have HB := n4_
                          clear n0_ n1_ n2_ n3_ n4_
                          (try clear hb)
                          (try clear hb2)
                          (try clear hk)
                          (try clear hi)
                          (try clear ho0)
                          obtain ⟨Ao43, co43, eo43⟩ := Kd.V_slice HO262.out
                          (first | subst eo43 | (injection eo43 with f1_ f2_ f3_; have f4_ := f1_.symm; have f5_ := f3_.symm; clear f1_ f2_ f3_; subst f4_; subst f5_))
                          obtain ⟨Ao44, co44, eo44⟩ := Kd.V_slice HO277.out
                          (first | subst eo44 | (injection eo44 with f1_ f2_ f3_; have f4_ := f1_.symm; have f5_ := f3_.symm; clear f1_ f2_ f3_; subst f4_; subst f5_))
                          refine hK.out _ _ ⟨(blk_cell BK252.out 0).trans rfl, (blk_cell BK252.out 1).trans rfl, (blk_cell BK252.out 2).trans rfl, (blk_cell BK252.out 3).trans rfl, (blk_cell BK252.out 4).trans rfl, (blk_cell BK252.out 5).trans rfl⟩ (fun hHeld => ?_)
                          clear hK K
                          refine norm_ (a' := ?_) ?_ ?_
                          rotate_left
                          · show Act.put _ (some 86) _ = _
                            simp only [Act.put, List.setIfInBounds_toArray, List.set_cons_zero, List.set_cons_succ, i64_w, i32_w]
                            rfl
                          refine one_ (i := 15) (N := some 87) #[true, true, true, true, true, true, true, true, true, true, true, true, true, true, true, true, false, false] rfl rfl (one_of HT_.out (by kernel_rfl)) (by decide) (fun K hK => ?_)
                          refine goes_ Try.func15 (by kernel_rfl) rfl #[.slice Ao43 t260.length co43, .slice Ao44 t275.length co44] (by rfl) rfl rfl (by (try simp only [List.map_toArray, List.map_cons, List.map_nil]); first | done | rfl | (simp only [List.length_drop, List.length_take]; rfl)) ?_
                          with_reducible refine (spec_SameText.calls _ _ t260 _ _ t275 t278 _ ?side1 ?side2 ?side3 ?side4 A34.out).mono ?_
                          (case side1 => repeat (first | exact (Kd.V_reads' HO262.out).2.2 | (with_reducible refine Kd.C_alloc ?_ _) | (with_reducible refine Kd.C_drewN ?_ _) | (with_reducible refine Kd.C_drew ?_)))
                          (case side2 => exact (Kd.V_reads' HO262.out).2.1)
                          (case side3 => repeat (first | exact (Kd.V_reads' HO277.out).2.2 | (with_reducible refine Kd.C_alloc ?_ _) | (with_reducible refine Kd.C_drewN ?_ _) | (with_reducible refine Kd.C_drew ?_)))
                          (case side4 => exact (Kd.V_reads' HO277.out).2.1)
                          rintro e w' ⟨rfl, ⟨nd, rfl⟩⟩
                          refine ⟨_, rfl, ?_⟩
                          refine hK.out _ _ ⟨(blk_cell BK252.out 0).trans rfl, (blk_cell BK252.out 1).trans rfl, (blk_cell BK252.out 2).trans rfl, (blk_cell BK252.out 3).trans rfl, (blk_cell BK252.out 4).trans rfl, (blk_cell BK252.out 5).trans rfl⟩ (fun hHeld => ?_)
                          clear hK K
                          refine norm_ (a' := ?_) ?_ ?_
                          rotate_left
                          · show Act.put _ (some 87) _ = _
                            simp only [Act.put, List.setIfInBounds_toArray, List.set_cons_zero, List.set_cons_succ, i64_w, i32_w]
                            rfl
                          refine pure_ (i := 16) (N := some 88) (v := ?_) (a' := ?_) #[true, true, true, true, true, true, true, true, true, true, true, true, true, true, true, true, true, false] rfl rfl (any_of HT_.out (by kernel_rfl)) (fun _ _ _ h => h) (Or.inl ⟨by rfl, ?_⟩) ?_ ?_
                          rotate_left
                          · intro w'
                            go_simp
                            with_reducible rfl
                          rotate_left
                          · simp only [Act.put, List.setIfInBounds_toArray, List.set_cons_zero, List.set_cons_succ, i64_w, i32_w]
                            rfl
                          refine pure_ (i := 17) (N := some 10) (v := ?_) (a' := ?_) #[true, true, true, true, true, true, true, true, true, true, true, true, true, true, true, true, true, true] rfl rfl (any_of HT_.out (by kernel_rfl)) (fun _ _ _ h => h) (Or.inl ⟨by rfl, ?_⟩) ?_ ?_
                          rotate_left
                          · intro w'
                            go_simp
                            with_reducible rfl
                          rotate_left
                          · simp only [Act.put, List.setIfInBounds_toArray, List.set_cons_zero, List.set_cons_succ, i64_w, i32_w]
                            rfl
                          refine done_ (done_of HT_.out (by kernel_rfl)) ?_
                          try go_wp2
                          go_ret
                          exact ⟨by first | rfl | (simp [errW_none, errW_some] <;> rfl) | (simp [*, errW_none, errW_some] <;> rfl), by repeat (first | (with_reducible first | exact HB.out | apply below_alloc | apply pw_below_drewN | apply below_drew1 | refine below_set ?_ GE252.out) | exact HB.out)⟩
                        · rw [if_neg c29] at H
                          exact absurd H (by simp)
                      · rw [if_neg c28] at H
                        exact absurd H (by simp)
                    · replace c27 := Bool.eq_false_iff.mpr c27
                      subst c27
                      have H1 : (some false) = some r := by rw [if_neg (show ¬ (false = true) by decide)] at H; exact H
                      clear H
                      have H := H1
                      clear H1
                      obtain rfl := Option.some.inj H
                      have hcz45_0 : wc.cell? ⟨gb252, 0, none⟩ = some (.int .i64 a0_0) := (blk_cell BK252.out 0).trans rfl
                      have hcz45_1 : wc.cell? ⟨gb252, 1, none⟩ = some (.int .i64 a0_1) := (blk_cell BK252.out 1).trans rfl
                      have hcz45_2 : wc.cell? ⟨gb252, 2, none⟩ = some (.int .i64 a0_2) := (blk_cell BK252.out 2).trans rfl
                      have hcz45_3 : wc.cell? ⟨gb252, 3, none⟩ = some (.int .u64 a0_3) := (blk_cell BK252.out 3).trans rfl
                      have hcz45_4 : wc.cell? ⟨gb252, 4, none⟩ = some (.int .u64 a0_4) := (blk_cell BK252.out 4).trans rfl
                      have hcz45_5 : wc.cell? ⟨gb252, 5, none⟩ = some (.int .u64 a0_5) := (blk_cell BK252.out 5).trans rfl
                      have hfz45_0 := blk_frozen BK252.out 0
                      have hfz45_1 := blk_frozen BK252.out 1
                      have hfz45_2 := blk_frozen BK252.out 2
                      have hfz45_3 := blk_frozen BK252.out 3
                      have hfz45_4 := blk_frozen BK252.out 4
                      have hfz45_5 := blk_frozen BK252.out 5
                      try go_wp2_with (first | ((with_reducible refine gate_callee (f := 14) rfl ?_); refine goesL_ (some 69) rfl rfl Try.func14 (by kernel_rfl) rfl #[.agg #[.int .i64 a0_0, .int .i64 a0_1, .int .i64 a0_2, .int .u64 a0_3, .int .u64 a0_4, .int .u64 a0_5], .int .u64 a1, .int .u64 a2, .slice A3 l3.length c3, .slice A4 l4.length c4] rfl (by (try simp only [List.map_toArray, List.map_cons, List.map_nil]); first | done | rfl | (simp only [List.length_drop, List.length_take]; rfl)) ?_; (with_reducible refine (impl_RootOfInclusion.calls kj22 a0_0 a0_1 a0_2 a0_3 a0_4 a0_5 a1 a2 _ _ l3 _ _ l4 t260 false _ ?side1 ?side2 ?side3 ?side4 A26.out).mono ?_); (case side1 => repeat (first | exact (Kd.C_below HR3.out HB.out) | (with_reducible refine Kd.C_alloc ?_ _) | (with_reducible refine Kd.C_drewN ?_ _) | (with_reducible refine Kd.C_drew ?_))); (case side2 => exact HC3.out); (case side3 => repeat (first | exact (Kd.C_below HR4.out HB.out) | (with_reducible refine Kd.C_alloc ?_ _) | (with_reducible refine Kd.C_drewN ?_ _) | (with_reducible refine Kd.C_drew ?_))); (case side4 => exact HC4.out); rintro e w46 ⟨v261, rfl, ho0, hb⟩; refine ⟨_, rfl, ?_⟩; have n0_ := Aside0.mk (Kd.V_lower (Kd.V_mono (ok' := fun k_ => k_ ≠ gb252) ho0 (fun k_ hk_ => (Kd.freshB (g := gb252) (o := .cells #[.int .i64 a0_0, .int .i64 a0_1, .int .i64 a0_2, .int .u64 a0_3, .int .u64 a0_4, .int .u64 a0_5] 29 (0, 0)) (by (with_reducible repeat (first | refine blk_drewN ?_ _ | refine blk_drew ?_ | refine blk_alloc ?_ _)); exact BK252.out) k_ hk_))) (below_size (by repeat (first | (with_reducible first | exact HB.out | apply below_alloc | apply pw_below_drewN | apply below_drew1 | refine below_set ?_ GE252.out) | exact HB.out)))); have n1_ := Aside0.mk (blk_below (g := gb252) (o := .cells #[.int .i64 a0_0, .int .i64 a0_1, .int .i64 a0_2, .int .u64 a0_3, .int .u64 a0_4, .int .u64 a0_5] 29 (0, 0)) (by (with_reducible repeat (first | refine blk_drewN ?_ _ | refine blk_drew ?_ | refine blk_alloc ?_ _)); exact BK252.out) hb); have n2_ := Aside0.mk (below_step (by repeat (first | (with_reducible first | exact HB.out | apply below_alloc | apply pw_below_drewN | apply below_drew1 | refine below_set ?_ GE252.out) | exact HB.out)) hb); clear BK252; clear HB; have HO262 := n0_; have BK252 := n1_; have HB := n2_; clear n0_ n1_ n2_; (try clear hb); (try clear hb2); (try clear hk); (try clear hi); (try clear ho0)))
                      have n0_ := Aside0.mk (Kd.V_drew HO262.out)
                      have n1_ := Aside0.mk (blk_drew BK252.out)
                      have n2_ := Aside0.mk (below_drew1 HB.out)
                      clear HO262
                      clear BK252
                      clear HB
                      have HO262 := n0_
                      have BK252 := n1_
                      have HB := n2_
                      clear n0_ n1_ n2_
                      refine start_ (n := 18) (S := fun w' => True) (ds := []) #[false, false, false, false, false, false, false, false, false, false, false, false, false, false, false, false, false, false] (by kernel_rfl) rfl rfl trivial (fun hHeld => ?_); refine with_tabW laws_FnRootByChains.tab9 laws_FnRootByChains.bits9 (fun HT_ HW_ => ?_)
                      generalize w46.drew = w47 at HO262 BK252 HB hHeld ⊢
                      refine pure_ (i := 0) (N := some 72) (v := ?_) (a' := ?_) #[true, false, false, false, false, false, false, false, false, false, false, false, false, false, false, false, false, false] rfl rfl (any_of HT_.out (by kernel_rfl)) (fun _ _ _ h => h) (Or.inl ⟨by rfl, ?_⟩) ?_ ?_
                      rotate_left
                      · intro w'
                        go_simp
                        with_reducible rfl
                      rotate_left
                      · simp only [Act.put, List.setIfInBounds_toArray, List.set_cons_zero, List.set_cons_succ, i64_w, i32_w]
                        rfl
                      refine pure_ (i := 1) (N := some 73) (v := ?_) (a' := ?_) #[true, true, false, false, false, false, false, false, false, false, false, false, false, false, false, false, false, false] rfl rfl (any_of HT_.out (by kernel_rfl)) (fun _ _ _ h => h) (Or.inl ⟨by rfl, ?_⟩) ?_ ?_
                      rotate_left
                      · intro w'
                        go_simp
                        with_reducible rfl
                      rotate_left
                      · simp only [Act.put, List.setIfInBounds_toArray, List.set_cons_zero, List.set_cons_succ, i64_w, i32_w]
                        rfl
                      refine pure_ (i := 2) (N := some 74) (v := undef) (a' := ?_) #[true, true, true, false, false, false, false, false, false, false, false, false, false, false, false, false, false, false] rfl rfl (any_of HT_.out (by kernel_rfl)) (fun _ _ _ h => h) (Or.inr ⟨by rfl, rfl⟩) ?_ ?_
                      rotate_left
                      · simp only [Act.put, List.setIfInBounds_toArray, List.set_cons_zero, List.set_cons_succ, i64_w, i32_w]
                        rfl
                      refine pure_ (i := 3) (N := some 75) (v := undef) (a' := ?_) #[true, true, true, true, false, false, false, false, false, false, false, false, false, false, false, false, false, false] rfl rfl (any_of HT_.out (by kernel_rfl)) (fun _ _ _ h => h) (Or.inr ⟨by rfl, rfl⟩) ?_ ?_
                      rotate_left
                      · simp only [Act.put, List.setIfInBounds_toArray, List.set_cons_zero, List.set_cons_succ, i64_w, i32_w]
                        rfl
                      refine pure_ (i := 4) (N := some 76) (v := undef) (a' := ?_) #[true, true, true, true, true, false, false, false, false, false, false, false, false, false, false, false, false, false] rfl rfl (any_of HT_.out (by kernel_rfl)) (fun _ _ _ h => h) (Or.inr ⟨by rfl, rfl⟩) ?_ ?_
                      rotate_left
                      · simp only [Act.put, List.setIfInBounds_toArray, List.set_cons_zero, List.set_cons_succ, i64_w, i32_w]
                        rfl
                      refine pure_ (i := 5) (N := some 77) (v := undef) (a' := ?_) #[true, true, true, true, true, true, false, false, false, false, false, false, false, false, false, false, false, false] rfl rfl (any_of HT_.out (by kernel_rfl)) (fun _ _ _ h => h) (Or.inr ⟨by rfl, rfl⟩) ?_ ?_
                      rotate_left
                      · simp only [Act.put, List.setIfInBounds_toArray, List.set_cons_zero, List.set_cons_succ, i64_w, i32_w]
                        rfl
                      refine pure_ (i := 6) (N := some 78) (v := undef) (a' := ?_) #[true, true, true, true, true, true, true, false, false, false, false, false, false, false, false, false, false, false] rfl rfl (any_of HT_.out (by kernel_rfl)) (fun _ _ _ h => h) (Or.inr ⟨by rfl, rfl⟩) ?_ ?_
                      rotate_left
                      · simp only [Act.put, List.setIfInBounds_toArray, List.set_cons_zero, List.set_cons_succ, i64_w, i32_w]
                        rfl
                      refine pure_ (i := 7) (N := some 79) (v := undef) (a' := ?_) #[true, true, true, true, true, true, true, true, false, false, false, false, false, false, false, false, false, false] rfl rfl (any_of HT_.out (by kernel_rfl)) (fun _ _ _ h => h) (Or.inr ⟨by rfl, rfl⟩) ?_ ?_
                      rotate_left
                      · simp only [Act.put, List.setIfInBounds_toArray, List.set_cons_zero, List.set_cons_succ, i64_w, i32_w]
                        rfl
                      refine pure_ (i := 8) (N := some 80) (v := undef) (a' := ?_) #[true, true, true, true, true, true, true, true, true, false, false, false, false, false, false, false, false, false] rfl rfl (any_of HT_.out (by kernel_rfl)) (fun _ _ _ h => h) (Or.inr ⟨by rfl, rfl⟩) ?_ ?_
                      rotate_left
                      · simp only [Act.put, List.setIfInBounds_toArray, List.set_cons_zero, List.set_cons_succ, i64_w, i32_w]
                        rfl
                      refine pure_ (i := 9) (N := some 81) (v := undef) (a' := ?_) #[true, true, true, true, true, true, true, true, true, true, false, false, false, false, false, false, false, false] rfl rfl (any_of HT_.out (by kernel_rfl)) (fun _ _ _ h => h) (Or.inr ⟨by rfl, rfl⟩) ?_ ?_
                      rotate_left
                      · simp only [Act.put, List.setIfInBounds_toArray, List.set_cons_zero, List.set_cons_succ, i64_w, i32_w]
                        rfl
                      refine pure_ (i := 10) (N := some 82) (v := undef) (a' := ?_) #[true, true, true, true, true, true, true, true, true, true, true, false, false, false, false, false, false, false] rfl rfl (any_of HT_.out (by kernel_rfl)) (fun _ _ _ h => h) (Or.inr ⟨by rfl, rfl⟩) ?_ ?_
                      rotate_left
                      · simp only [Act.put, List.setIfInBounds_toArray, List.set_cons_zero, List.set_cons_succ, i64_w, i32_w]
                        rfl
                      refine pure_ (i := 11) (N := some 83) (v := undef) (a' := ?_) #[true, true, true, true, true, true, true, true, true, true, true, true, false, false, false, false, false, false] rfl rfl (any_of HT_.out (by kernel_rfl)) (fun _ _ _ h => h) (Or.inr ⟨by rfl, rfl⟩) ?_ ?_
                      rotate_left
                      · simp only [Act.put, List.setIfInBounds_toArray, List.set_cons_zero, List.set_cons_succ, i64_w, i32_w]
                        rfl
                      refine pure_ (i := 12) (N := some 84) (v := undef) (a' := ?_) #[true, true, true, true, true, true, true, true, true, true, true, true, true, false, false, false, false, false] rfl rfl (any_of HT_.out (by kernel_rfl)) (fun _ _ _ h => h) (Or.inr ⟨by rfl, rfl⟩) ?_ ?_
                      rotate_left
                      · simp only [Act.put, List.setIfInBounds_toArray, List.set_cons_zero, List.set_cons_succ, i64_w, i32_w]
                        rfl
                      refine pure_ (i := 13) (N := some 85) (v := undef) (a' := ?_) #[true, true, true, true, true, true, true, true, true, true, true, true, true, true, false, false, false, false] rfl rfl (any_of HT_.out (by kernel_rfl)) (fun _ _ _ h => h) (Or.inr ⟨by rfl, rfl⟩) ?_ ?_
                      rotate_left
                      · simp only [Act.put, List.setIfInBounds_toArray, List.set_cons_zero, List.set_cons_succ, i64_w, i32_w]
                        rfl
                      refine pure_ (i := 14) (N := some 86) (v := undef) (a' := ?_) #[true, true, true, true, true, true, true, true, true, true, true, true, true, true, true, false, false, false] rfl rfl (any_of HT_.out (by kernel_rfl)) (fun _ _ _ h => h) (Or.inr ⟨by rfl, rfl⟩) ?_ ?_
                      rotate_left
                      · simp only [Act.put, List.setIfInBounds_toArray, List.set_cons_zero, List.set_cons_succ, i64_w, i32_w]
                        rfl
                      refine pure_ (i := 15) (N := some 87) (v := undef) (a' := ?_) #[true, true, true, true, true, true, true, true, true, true, true, true, true, true, true, true, false, false] rfl rfl (any_of HT_.out (by kernel_rfl)) (fun _ _ _ h => h) (Or.inr ⟨by rfl, rfl⟩) ?_ ?_
                      rotate_left
                      · simp only [Act.put, List.setIfInBounds_toArray, List.set_cons_zero, List.set_cons_succ, i64_w, i32_w]
                        rfl
                      refine pure_ (i := 16) (N := some 88) (v := ?_) (a' := ?_) #[true, true, true, true, true, true, true, true, true, true, true, true, true, true, true, true, true, false] rfl rfl (any_of HT_.out (by kernel_rfl)) (fun _ _ _ h => h) (Or.inl ⟨by rfl, ?_⟩) ?_ ?_
                      rotate_left
                      · intro w'
                        go_simp
                        with_reducible rfl
                      rotate_left
                      · simp only [Act.put, List.setIfInBounds_toArray, List.set_cons_zero, List.set_cons_succ, i64_w, i32_w]
                        rfl
                      refine pure_ (i := 17) (N := some 10) (v := ?_) (a' := ?_) #[true, true, true, true, true, true, true, true, true, true, true, true, true, true, true, true, true, true] rfl rfl (any_of HT_.out (by kernel_rfl)) (fun _ _ _ h => h) (Or.inl ⟨by rfl, ?_⟩) ?_ ?_
                      rotate_left
                      · intro w'
                        go_simp
                        with_reducible rfl
                      rotate_left
                      · simp only [Act.put, List.setIfInBounds_toArray, List.set_cons_zero, List.set_cons_succ, i64_w, i32_w]
                        rfl
                      refine done_ (done_of HT_.out (by kernel_rfl)) ?_
                      try go_wp2
                      go_ret
                      exact ⟨by first | rfl | (simp [errW_none, errW_some] <;> rfl) | (simp [*, errW_none, errW_some] <;> rfl), by repeat (first | (with_reducible first | exact HB.out | apply below_alloc | apply pw_below_drewN | apply below_drew1 | refine below_set ?_ GE252.out) | exact HB.out)⟩

end Go.Proofs.Ytkmdkmlgahfcpaa.M

