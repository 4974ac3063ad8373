-- Written by a program of ours (wip/xp) out of the translation; Lean checks it.
import Derived.Test.YtkmdkmlgahfcpaaDoorSq
import Derived.Test.YtkmdkmlgahfcpaaDoorMm1
import Derived.Test.YtkmdkmlgahfcpaaDoorMm5
import Derived.Test.YtkmdkmlgahfcpaaDoorMm9
namespace Go.Proofs.YtkmdkmlgahfcpaaDoor.M
open Go.RowKit Go.Proofs.YtkmdkmlgahfcpaaDoorW.PrintWords Go.Proofs.YtkmdkmlgahfcpaaDoorW.PrintLast Go.Proofs.YtkmdkmlgahfcpaaDoorW.PrintMore
attribute [local go_sem] max2_int min2_int max_two min_two max_three min_three max_four min_four   -- for this text's walks alone
set_option linter.unusedVariables false
set_option linter.unusedSimpArgs false

/-! ### laws_FnConsistencyBinds: function 5 -/
mutual
def laws_FnConsistencyBinds.j0 : Nat → Int → Int → List (List Int) → List Int → List (List Int) → List Int → List Int → Bool → Int → Int → Int → Int → Int → Int → Option (Bool)
 | 0, _, _, _, _, _, _, _, _, _, _, _, _, _, _ => none
 | k + 1, x1, x2, x3, x4, x5, x6, x7, x45, x320000, x320001, x320002, x320003, x320004, x320005 => if x45 = true then (some true) else ((spec_Terms.f x320000 x320001 x320002 x320003 x320004 x320005).bind fun t322 => (if t322 = true then ((laws_logSmall.f k x3).bind fun t323 => (if t323 = true then ((laws_logSmall.f k x5).bind fun t324 => (if t324 = true then (if (x4.length : Int) > 100000 then (laws_FnConsistencyBinds.j1 k x1 x2 x3 x4 x5 x6 x7 true x320000 x320001 x320002 x320003 x320004 x320005) else (if (x6.length : Int) > 100000 then (laws_FnConsistencyBinds.j1 k x1 x2 x3 x4 x5 x6 x7 true x320000 x320001 x320002 x320003 x320004 x320005) else (laws_FnConsistencyBinds.j1 k x1 x2 x3 x4 x5 x6 x7 (x1 == 0) x320000 x320001 x320002 x320003 x320004 x320005))) else (laws_FnConsistencyBinds.j1 k x1 x2 x3 x4 x5 x6 x7 true x320000 x320001 x320002 x320003 x320004 x320005))) else (laws_FnConsistencyBinds.j1 k x1 x2 x3 x4 x5 x6 x7 true x320000 x320001 x320002 x320003 x320004 x320005))) else (laws_FnConsistencyBinds.j1 k x1 x2 x3 x4 x5 x6 x7 true x320000 x320001 x320002 x320003 x320004 x320005)))
def laws_FnConsistencyBinds.j1 : Nat → Int → Int → List (List Int) → List Int → List (List Int) → List Int → List Int → Bool → Int → Int → Int → Int → Int → Int → Option (Bool)
 | 0, _, _, _, _, _, _, _, _, _, _, _, _, _, _ => none
 | k + 1, x1, x2, x3, x4, x5, x6, x7, x72, x320000, x320001, x320002, x320003, x320004, x320005 => if x72 = true then (some true) else ((impl_VerifyConsistency.f k x320000 x320001 x320002 x320003 x320004 x320005 x1 x2 x3 x4 x7).bind fun bt325 => ((impl_VerifyConsistency.f k x320000 x320001 x320002 x320003 x320004 x320005 x1 x2 x5 x6 x7).bind fun bt329 => ((spec_VerifiedConsistency.f k x320000 x320001 x320002 x320003 x320004 x320005 x1 x2 x3 x4 x7).bind fun bt333 => (if bt325.1 = bt333.1 then (if bt325.1 = 0 then (if bt329.1 = 0 then ((spec_SameText.f x4 x6).bind fun t337 => (if t337 = true then ((spec_Same.f k x3 x5).bind fun t338 => (some t338)) else (some false))) else (some true)) else (some true)) else (some false)))))
end
def laws_FnConsistencyBinds.f (k : Nat) (a0_0 : Int) (a0_1 : Int) (a0_2 : Int) (a0_3 : Int) (a0_4 : Int) (a0_5 : Int) (a1 : Int) (a2 : Int) (l3 : List (List Int)) (l4 : List Int) (l5 : List (List Int)) (l6 : List Int) (l7 : List Int) : Option (Bool) := (laws_zzFits2.f k l3).bind fun t320 => (if t320 = true then (if (l4.length : Int) > 2147483647 then (laws_FnConsistencyBinds.j0 k a1 a2 l3 l4 l5 l6 l7 true a0_0 a0_1 a0_2 a0_3 a0_4 a0_5) else ((laws_zzFits2.f k l5).bind fun t321 => (if t321 = true then (if (l6.length : Int) > 2147483647 then (laws_FnConsistencyBinds.j0 k a1 a2 l3 l4 l5 l6 l7 true a0_0 a0_1 a0_2 a0_3 a0_4 a0_5) else (laws_FnConsistencyBinds.j0 k a1 a2 l3 l4 l5 l6 l7 (decide ((l7.length : Int) > 2147483647)) a0_0 a0_1 a0_2 a0_3 a0_4 a0_5)) else (laws_FnConsistencyBinds.j0 k a1 a2 l3 l4 l5 l6 l7 true a0_0 a0_1 a0_2 a0_3 a0_4 a0_5)))) else (laws_FnConsistencyBinds.j0 k a1 a2 l3 l4 l5 l6 l7 true a0_0 a0_1 a0_2 a0_3 a0_4 a0_5))
theorem laws_FnConsistencyBinds.mono_l : ∀ k, (∀ y0 y1 y2 y3 y4 y5 y6 y7 y8 y9 y10 y11 y12 y13, LeO (laws_FnConsistencyBinds.j0 k y0 y1 y2 y3 y4 y5 y6 y7 y8 y9 y10 y11 y12 y13) (laws_FnConsistencyBinds.j0 (k + 1) y0 y1 y2 y3 y4 y5 y6 y7 y8 y9 y10 y11 y12 y13)) ∧ (∀ y0 y1 y2 y3 y4 y5 y6 y7 y8 y9 y10 y11 y12 y13, LeO (laws_FnConsistencyBinds.j1 k y0 y1 y2 y3 y4 y5 y6 y7 y8 y9 y10 y11 y12 y13) (laws_FnConsistencyBinds.j1 (k + 1) y0 y1 y2 y3 y4 y5 y6 y7 y8 y9 y10 y11 y12 y13))
 | 0 => ⟨fun _ _ _ _ _ _ _ _ _ _ _ _ _ _ r h => by simp [laws_FnConsistencyBinds.j0] at h, fun _ _ _ _ _ _ _ _ _ _ _ _ _ _ r h => by simp [laws_FnConsistencyBinds.j1] at h⟩
 | k + 1 => by
  obtain ⟨ih0, ih1⟩ := laws_FnConsistencyBinds.mono_l k
  refine ⟨?_, ?_⟩
  ·intro y0 y1 y2 y3 y4 y5 y6 y7 y8 y9 y10 y11 y12 y13
   unfold laws_FnConsistencyBinds.j0
   repeat' first
   | (with_reducible exact ih0 _ _ _ _ _ _ _ _ _ _ _ _ _ _)
   | (with_reducible exact ih1 _ _ _ _ _ _ _ _ _ _ _ _ _ _)
   | (with_reducible exact impl_VerifyConsistency.mono _ _ _ _ _ _ _ _ _ _ _ _)
   | (with_reducible exact laws_logSmall.mono _ _)
   | (with_reducible exact laws_zzFits2.mono _ _)
   | (with_reducible exact spec_Same.mono _ _ _)
   | (with_reducible exact spec_VerifiedConsistency.mono _ _ _ _ _ _ _ _ _ _ _ _)
   | (with_reducible exact LeO.refl _)
   | (with_reducible exact LeO.none _)
   | (with_reducible refine LeO.ite ?_ ?_)
   | (with_reducible refine LeO.bind ?_ (fun _ => ?_))
   | exact ih0 _ _ _ _ _ _ _ _ _ _ _ _ _ _
   | exact ih1 _ _ _ _ _ _ _ _ _ _ _ _ _ _
   | exact impl_VerifyConsistency.mono _ _ _ _ _ _ _ _ _ _ _ _
   | exact laws_logSmall.mono _ _
   | exact laws_zzFits2.mono _ _
   | exact spec_Same.mono _ _ _
   | exact spec_VerifiedConsistency.mono _ _ _ _ _ _ _ _ _ _ _ _
   | exact LeO.none _
   | refine LeO.ite ?_ ?_
   | refine LeO.bind ?_ (fun _ => ?_)
  ·intro y0 y1 y2 y3 y4 y5 y6 y7 y8 y9 y10 y11 y12 y13
   unfold laws_FnConsistencyBinds.j1
   repeat' first
   | (with_reducible exact ih0 _ _ _ _ _ _ _ _ _ _ _ _ _ _)
   | (with_reducible exact ih1 _ _ _ _ _ _ _ _ _ _ _ _ _ _)
   | (with_reducible exact impl_VerifyConsistency.mono _ _ _ _ _ _ _ _ _ _ _ _)
   | (with_reducible exact laws_logSmall.mono _ _)
   | (with_reducible exact laws_zzFits2.mono _ _)
   | (with_reducible exact spec_Same.mono _ _ _)
   | (with_reducible exact spec_VerifiedConsistency.mono _ _ _ _ _ _ _ _ _ _ _ _)
   | (with_reducible exact LeO.refl _)
   | (with_reducible exact LeO.none _)
   | (with_reducible refine LeO.ite ?_ ?_)
   | (with_reducible refine LeO.bind ?_ (fun _ => ?_))
   | exact ih0 _ _ _ _ _ _ _ _ _ _ _ _ _ _
   | exact ih1 _ _ _ _ _ _ _ _ _ _ _ _ _ _
   | exact impl_VerifyConsistency.mono _ _ _ _ _ _ _ _ _ _ _ _
   | exact laws_logSmall.mono _ _
   | exact laws_zzFits2.mono _ _
   | exact spec_Same.mono _ _ _
   | exact spec_VerifiedConsistency.mono _ _ _ _ _ _ _ _ _ _ _ _
   | exact LeO.none _
   | refine LeO.ite ?_ ?_
   | refine LeO.bind ?_ (fun _ => ?_)
theorem laws_FnConsistencyBinds.mono : ∀ a0 a1 a2 a3 a4 a5 a6 a7 a8 a9 a10 a11 a12 k, LeO (laws_FnConsistencyBinds.f k a0 a1 a2 a3 a4 a5 a6 a7 a8 a9 a10 a11 a12) (laws_FnConsistencyBinds.f (k + 1) a0 a1 a2 a3 a4 a5 a6 a7 a8 a9 a10 a11 a12) := by
 intro a0 a1 a2 a3 a4 a5 a6 a7 a8 a9 a10 a11 a12 k
 obtain ⟨ih0, ih1⟩ := laws_FnConsistencyBinds.mono_l k
 unfold laws_FnConsistencyBinds.f
 repeat' first
   | (with_reducible exact ih0 _ _ _ _ _ _ _ _ _ _ _ _ _ _)
   | (with_reducible exact ih1 _ _ _ _ _ _ _ _ _ _ _ _ _ _)
   | (with_reducible exact impl_VerifyConsistency.mono _ _ _ _ _ _ _ _ _ _ _ _)
   | (with_reducible exact laws_logSmall.mono _ _)
   | (with_reducible exact laws_zzFits2.mono _ _)
   | (with_reducible exact spec_Same.mono _ _ _)
   | (with_reducible exact spec_VerifiedConsistency.mono _ _ _ _ _ _ _ _ _ _ _ _)
   | (with_reducible exact LeO.refl _)
   | (with_reducible exact LeO.none _)
   | (with_reducible refine LeO.ite ?_ ?_)
   | (with_reducible refine LeO.bind ?_ (fun _ => ?_))
   | exact ih0 _ _ _ _ _ _ _ _ _ _ _ _ _ _
   | exact ih1 _ _ _ _ _ _ _ _ _ _ _ _ _ _
   | exact impl_VerifyConsistency.mono _ _ _ _ _ _ _ _ _ _ _ _
   | exact laws_logSmall.mono _ _
   | exact laws_zzFits2.mono _ _
   | exact spec_Same.mono _ _ _
   | exact spec_VerifiedConsistency.mono _ _ _ _ _ _ _ _ _ _ _ _
   | exact LeO.none _
   | refine LeO.ite ?_ ?_
   | refine LeO.bind ?_ (fun _ => ?_)
set_option maxHeartbeats 8000000 in
set_option maxRecDepth 100000 in
theorem laws_FnConsistencyBinds.calls (k : Nat) (a0_0 : Int) (a0_1 : Int) (a0_2 : Int) (a0_3 : Int) (a0_4 : Int) (a0_5 : Int) (a1 : Int) (a2 : Int) (A3 : Option Addr) (c3 : Nat) (l3 : List (List Int)) (A4 : Option Addr) (c4 : Nat) (l4 : List Int) (A5 : Option Addr) (c5 : Nat) (l5 : List (List Int)) (A6 : Option Addr) (c6 : Nat) (l6 : List Int) (A7 : Option Addr) (c7 : Nat) (l7 : List Int) (r : Bool) (w : World) (hT : TabOK w) (hr3 : Kd.C (Kd.slice 5 (Kd.int .u8)) w A3 l3.length l3) (hc3 : l3.length ≤ c3) (hr4 : Kd.C (Kd.int .u8) w A4 l4.length l4) (hc4 : l4.length ≤ c4) (hr5 : Kd.C (Kd.slice 5 (Kd.int .u8)) w A5 l5.length l5) (hc5 : l5.length ≤ c5) (hr6 : Kd.C (Kd.int .u8) w A6 l6.length l6) (hc6 : l6.length ≤ c6) (hr7 : Kd.C (Kd.int .u8) w A7 l7.length l7) (hc7 : l7.length ≤ c7) (h : laws_FnConsistencyBinds.f k a0_0 a0_1 a0_2 a0_3 a0_4 a0_5 a1 a2 l3 l4 l5 l6 l7 = some r) :
  Calls Tryd.prog 5 #[.agg #[.int .i64 a0_0, .int .i64 a0_1, .int .i64 a0_2, .int .u64 a0_3, .int .u64 a0_4, .int .u64 a0_5], .int .u64 a1, .int .u64 a2, .slice A3 l3.length c3, .slice A4 l4.length c4, .slice A5 l5.length c5, .slice A6 l6.length c6, .slice A7 l7.length c7] w fun e w' => e = .returned (.bool r) ∧ Below w.heap.size w w' := by
 have hu24 := Tryd.underlying24
 have HT := Aside0.mk hT
 clear hT
 have HR3 := Aside0.mk hr3
 have HC3 := Aside0.mk hc3
 clear hr3 hc3
 have HR4 := Aside0.mk hr4
 have HC4 := Aside0.mk hc4
 clear hr4 hc4
 have HR5 := Aside0.mk hr5
 have HC5 := Aside0.mk hc5
 clear hr5 hc5
 have HR6 := Aside0.mk hr6
 have HC6 := Aside0.mk hc6
 clear hr6 hc6
 have HR7 := Aside0.mk hr7
 have HC7 := Aside0.mk hc7
 clear hr7 hc7
 have HB := Aside0.mk (Below.refl w.heap.size w)
 have H : ((laws_zzFits2.f k l3).bind fun t320 => (if t320 = true then (if (l4.length : Int) > 2147483647 then (laws_FnConsistencyBinds.j0 k a1 a2 l3 l4 l5 l6 l7 true a0_0 a0_1 a0_2 a0_3 a0_4 a0_5) else ((laws_zzFits2.f k l5).bind fun t321 => (if t321 = true then (if (l6.length : Int) > 2147483647 then (laws_FnConsistencyBinds.j0 k a1 a2 l3 l4 l5 l6 l7 true a0_0 a0_1 a0_2 a0_3 a0_4 a0_5) else (laws_FnConsistencyBinds.j0 k a1 a2 l3 l4 l5 l6 l7 (decide ((l7.length : Int) > 2147483647)) a0_0 a0_1 a0_2 a0_3 a0_4 a0_5)) else (laws_FnConsistencyBinds.j0 k a1 a2 l3 l4 l5 l6 l7 true a0_0 a0_1 a0_2 a0_3 a0_4 a0_5)))) else (laws_FnConsistencyBinds.j0 k a1 a2 l3 l4 l5 l6 l7 true a0_0 a0_1 a0_2 a0_3 a0_4 a0_5))) = some r := h
 clear h
 have HC9 := Aside0.mk H
 clear H
 go_enter Tryd.func5, Tryd.ntmps5
 go_upto_region 1 with (first | ((with_reducible refine gate_dst (N := 8) rfl ?_); (try (refine gate_guard (by rfl) ?_; dsimp only)); refine box_event ?hg (N := 8) ?hd (cs := #[.int .i64 a0_0, .int .i64 a0_1, .int .i64 a0_2, .int .u64 a0_3, .int .u64 a0_4, .int .u64 a0_5]) (t := 24) ?hr ?_; (case hd => rfl); (case hg => rfl); (case hr => first | (go_simp; done) | (go_simp; rfl)); intro gb319 hg w10 hbox hb; have n0_ := Aside0.mk (below_step bB hb); have n1_ := Aside0.mk (hbox); have n2_ := Aside0.mk ((by rw [hg]; exact (below_size bB) : w.heap.size ≤ gb319)); have n3_ := Aside0.mk ((by rw [hg]; exact (below_size bB) : w.heap.size ≤ gb319)); clear HB; have HB := n0_; have BK319 := n1_; have GW319 := n2_; have GE319 := n3_; clear n0_ n1_ n2_ n3_; clear hb hbox hg))
 (try simp only [Act.put, List.setIfInBounds_toArray, List.set_cons_zero, List.set_cons_succ])
 go_cut [45] (fun v45 wc => ∃ (kq : Nat) (x45_8 : Bool), v45 = .bool x45_8 ∧ Aside0 (laws_FnConsistencyBinds.j0 kq a1 a2 l3 l4 l5 l6 l7 x45_8 a0_0 a0_1 a0_2 a0_3 a0_4 a0_5 = some r) ∧ Aside0 (kq ≤ k) ∧ Aside0 (wc.heap[gb319]? = some (.cells #[.int .i64 a0_0, .int .i64 a0_1, .int .i64 a0_2, .int .u64 a0_3, .int .u64 a0_4, .int .u64 a0_5] 24 (0, 0))) ∧ Aside0 (Below w.heap.size w wc))
 case first =>
  have H := HC9.out
  clear HC9
  replace H := Option.bind_eq_some_iff.mp H
  obtain ⟨t320, A110, H⟩ := H
  replace H : (if t320 = true then (if (l4.length : Int) > 2147483647 then (laws_FnConsistencyBinds.j0 k a1 a2 l3 l4 l5 l6 l7 true a0_0 a0_1 a0_2 a0_3 a0_4 a0_5) else ((laws_zzFits2.f k l5).bind fun t321 => (if t321 = true then (if (l6.length : Int) > 2147483647 then (laws_FnConsistencyBinds.j0 k a1 a2 l3 l4 l5 l6 l7 true a0_0 a0_1 a0_2 a0_3 a0_4 a0_5) else (laws_FnConsistencyBinds.j0 k a1 a2 l3 l4 l5 l6 l7 (decide ((l7.length : Int) > 2147483647)) a0_0 a0_1 a0_2 a0_3 a0_4 a0_5)) else (laws_FnConsistencyBinds.j0 k a1 a2 l3 l4 l5 l6 l7 true a0_0 a0_1 a0_2 a0_3 a0_4 a0_5)))) else (laws_FnConsistencyBinds.j0 k a1 a2 l3 l4 l5 l6 l7 true a0_0 a0_1 a0_2 a0_3 a0_4 a0_5)) = some r := H
  have A11 := Aside0.mk A110
  clear A110
  by_cases c12 : t320 = true
  ·subst c12
   have H1 : (if (l4.length : Int) > 2147483647 then (laws_FnConsistencyBinds.j0 k a1 a2 l3 l4 l5 l6 l7 true a0_0 a0_1 a0_2 a0_3 a0_4 a0_5) else ((laws_zzFits2.f k l5).bind fun t321 => (if t321 = true then (if (l6.length : Int) > 2147483647 then (laws_FnConsistencyBinds.j0 k a1 a2 l3 l4 l5 l6 l7 true a0_0 a0_1 a0_2 a0_3 a0_4 a0_5) else (laws_FnConsistencyBinds.j0 k a1 a2 l3 l4 l5 l6 l7 (decide ((l7.length : Int) > 2147483647)) a0_0 a0_1 a0_2 a0_3 a0_4 a0_5)) else (laws_FnConsistencyBinds.j0 k a1 a2 l3 l4 l5 l6 l7 true a0_0 a0_1 a0_2 a0_3 a0_4 a0_5)))) = some r := by rw [if_pos rfl] at H; exact H
   clear H
   have H := H1
   clear H1
   by_cases c13 : (l4.length : Int) > 2147483647
   ·rw [if_pos c13] at H
    have c13b0 : decide (2147483647 < (l4.length : Int)) = true := decide_eq_true c13
    have c13b1 : decide (2147483647 < l4.length) = true := decide_eq_true (by omega)
    clear c13
    (first | rw [c13b0] | (simp only [i64_w, i32_w]; rw [c13b0]) | skip)
    have H' := Aside0.mk H
    clear H
    go_wp2_with (first | ((with_reducible refine gate_callee (f := 12) rfl ?_); refine goesL_ (some 24) rfl rfl Tryd.func12 (by kernel_rfl) rfl #[.slice A3 l3.length c3] rfl aV ?_; (with_reducible refine (laws_zzFits2.calls k _ _ l3 true _ ?side1 ?side2 A11.out).mono ?_); (case side1 => repeat (first | exact (Kd.C_below HR3.out HB.out) | (with_reducible refine Kd.C_alloc ?_ _) | (with_reducible refine Kd.C_drewN ?_ _) | (with_reducible refine Kd.C_drew ?_))); (case side2 => exact HC3.out); rintro e w' ⟨rfl, ⟨nd, rfl⟩⟩; refine ⟨_, rfl, ?_⟩))
    go_meet
    case rel => exact ⟨_, (true), (by first | rfl | (simp; done) | (simp [*]; done)), H', ⟨by first | omega | exact Nat.le_refl _⟩, ⟨by (with_reducible repeat (first | refine blk_drewN ?_ _ | refine blk_drew ?_ | refine blk_alloc ?_ _)); exact BK319.out⟩, ⟨bB⟩⟩
   ·rw [if_neg c13] at H
    have c13b0 : decide (2147483647 < (l4.length : Int)) = false := decide_eq_false c13
    have c13b1 : decide (2147483647 < l4.length) = false := decide_eq_false (by omega)
    clear c13
    (first | rw [c13b0] | (simp only [i64_w, i32_w]; rw [c13b0]) | skip)
    replace H := Option.bind_eq_some_iff.mp H
    obtain ⟨t321, A140, H⟩ := H
    replace H : (if t321 = true then (if (l6.length : Int) > 2147483647 then (laws_FnConsistencyBinds.j0 k a1 a2 l3 l4 l5 l6 l7 true a0_0 a0_1 a0_2 a0_3 a0_4 a0_5) else (laws_FnConsistencyBinds.j0 k a1 a2 l3 l4 l5 l6 l7 (decide ((l7.length : Int) > 2147483647)) a0_0 a0_1 a0_2 a0_3 a0_4 a0_5)) else (laws_FnConsistencyBinds.j0 k a1 a2 l3 l4 l5 l6 l7 true a0_0 a0_1 a0_2 a0_3 a0_4 a0_5)) = some r := H
    have A14 := Aside0.mk A140
    clear A140
    by_cases c15 : t321 = true
    ·subst c15
     have H1 : (if (l6.length : Int) > 2147483647 then (laws_FnConsistencyBinds.j0 k a1 a2 l3 l4 l5 l6 l7 true a0_0 a0_1 a0_2 a0_3 a0_4 a0_5) else (laws_FnConsistencyBinds.j0 k a1 a2 l3 l4 l5 l6 l7 (decide ((l7.length : Int) > 2147483647)) a0_0 a0_1 a0_2 a0_3 a0_4 a0_5)) = some r := by rw [if_pos rfl] at H; exact H
     clear H
     have H := H1
     clear H1
     by_cases c16 : (l6.length : Int) > 2147483647
     ·rw [if_pos c16] at H
      have c16b0 : decide (2147483647 < (l6.length : Int)) = true := decide_eq_true c16
      have c16b1 : decide (2147483647 < l6.length) = true := decide_eq_true (by omega)
      clear c16
      have H' := Aside0.mk H
      clear H
      go_wp2_with (first | ((with_reducible refine gate_callee (f := 12) rfl ?_); refine goesL_ (some 24) rfl rfl Tryd.func12 (by kernel_rfl) rfl #[.slice A3 l3.length c3] rfl aV ?_; (with_reducible refine (laws_zzFits2.calls k _ _ l3 true _ ?side1 ?side2 A11.out).mono ?_); (case side1 => repeat (first | exact (Kd.C_below HR3.out HB.out) | (with_reducible refine Kd.C_alloc ?_ _) | (with_reducible refine Kd.C_drewN ?_ _) | (with_reducible refine Kd.C_drew ?_))); (case side2 => exact HC3.out); rintro e w' ⟨rfl, ⟨nd, rfl⟩⟩; refine ⟨_, rfl, ?_⟩) | (go_at_call 12; (with_reducible refine (laws_zzFits2.calls k _ _ l5 true _ ?side1 ?side2 A14.out).mono ?_); (case side1 => repeat (first | exact (Kd.C_below HR5.out bB) | (with_reducible refine Kd.C_alloc ?_ _) | (with_reducible refine Kd.C_drewN ?_ _) | (with_reducible refine Kd.C_drew ?_))); (case side2 => exact HC5.out); rintro e w' ⟨rfl, ⟨nd, rfl⟩⟩))
      go_meet
      case rel => exact ⟨_, (true), (by first | rfl | (simp; done) | (simp [*]; done)), H', ⟨by first | omega | exact Nat.le_refl _⟩, ⟨by (with_reducible repeat (first | refine blk_drewN ?_ _ | refine blk_drew ?_ | refine blk_alloc ?_ _)); exact BK319.out⟩, ⟨bB⟩⟩
     ·rw [if_neg c16] at H
      have c16b0 : decide (2147483647 < (l6.length : Int)) = false := decide_eq_false c16
      have c16b1 : decide (2147483647 < l6.length) = false := decide_eq_false (by omega)
      clear c16
      have H' := Aside0.mk H
      clear H
      go_wp2_with (first | ((with_reducible refine gate_callee (f := 12) rfl ?_); refine goesL_ (some 24) rfl rfl Tryd.func12 (by kernel_rfl) rfl #[.slice A3 l3.length c3] rfl aV ?_; (with_reducible refine (laws_zzFits2.calls k _ _ l3 true _ ?side1 ?side2 A11.out).mono ?_); (case side1 => repeat (first | exact (Kd.C_below HR3.out HB.out) | (with_reducible refine Kd.C_alloc ?_ _) | (with_reducible refine Kd.C_drewN ?_ _) | (with_reducible refine Kd.C_drew ?_))); (case side2 => exact HC3.out); rintro e w' ⟨rfl, ⟨nd, rfl⟩⟩; refine ⟨_, rfl, ?_⟩) | (go_at_call 12; (with_reducible refine (laws_zzFits2.calls k _ _ l5 true _ ?side1 ?side2 A14.out).mono ?_); (case side1 => repeat (first | exact (Kd.C_below HR5.out bB) | (with_reducible refine Kd.C_alloc ?_ _) | (with_reducible refine Kd.C_drewN ?_ _) | (with_reducible refine Kd.C_drew ?_))); (case side2 => exact HC5.out); rintro e w' ⟨rfl, ⟨nd, rfl⟩⟩))
      go_meet
      case rel => exact ⟨_, (decide ((l7.length : Int) > 2147483647)), (by first | rfl | (simp; done) | (simp [*]; done)), H', ⟨by first | omega | exact Nat.le_refl _⟩, ⟨by (with_reducible repeat (first | refine blk_drewN ?_ _ | refine blk_drew ?_ | refine blk_alloc ?_ _)); exact BK319.out⟩, ⟨bB⟩⟩
    ·replace c15 := Bool.eq_false_iff.mpr c15
     subst c15
     have H1 : (laws_FnConsistencyBinds.j0 k a1 a2 l3 l4 l5 l6 l7 true a0_0 a0_1 a0_2 a0_3 a0_4 a0_5) = some r := by rw [if_neg (show ¬ (false = true) by decide)] at H; exact H
     clear H
     have H := H1
     clear H1
     have H' := Aside0.mk H
     clear H
     go_wp2_with (first | ((with_reducible refine gate_callee (f := 12) rfl ?_); refine goesL_ (some 24) rfl rfl Tryd.func12 (by kernel_rfl) rfl #[.slice A3 l3.length c3] rfl aV ?_; (with_reducible refine (laws_zzFits2.calls k _ _ l3 true _ ?side1 ?side2 A11.out).mono ?_); (case side1 => repeat (first | exact (Kd.C_below HR3.out HB.out) | (with_reducible refine Kd.C_alloc ?_ _) | (with_reducible refine Kd.C_drewN ?_ _) | (with_reducible refine Kd.C_drew ?_))); (case side2 => exact HC3.out); rintro e w' ⟨rfl, ⟨nd, rfl⟩⟩; refine ⟨_, rfl, ?_⟩) | (go_at_call 12; (with_reducible refine (laws_zzFits2.calls k _ _ l5 false _ ?side1 ?side2 A14.out).mono ?_); (case side1 => repeat (first | exact (Kd.C_below HR5.out bB) | (with_reducible refine Kd.C_alloc ?_ _) | (with_reducible refine Kd.C_drewN ?_ _) | (with_reducible refine Kd.C_drew ?_))); (case side2 => exact HC5.out); rintro e w' ⟨rfl, ⟨nd, rfl⟩⟩))
     go_meet
     case rel => exact ⟨_, (true), (by first | rfl | (simp; done) | (simp [*]; done)), H', ⟨by first | omega | exact Nat.le_refl _⟩, ⟨by (with_reducible repeat (first | refine blk_drewN ?_ _ | refine blk_drew ?_ | refine blk_alloc ?_ _)); exact BK319.out⟩, ⟨bB⟩⟩
  ·replace c12 := Bool.eq_false_iff.mpr c12
   subst c12
   have H1 : (laws_FnConsistencyBinds.j0 k a1 a2 l3 l4 l5 l6 l7 true a0_0 a0_1 a0_2 a0_3 a0_4 a0_5) = some r := by rw [if_neg (show ¬ (false = true) by decide)] at H; exact H
   clear H
   have H := H1
   clear H1
   have H' := Aside0.mk H
   clear H
   go_wp2_with (first | ((with_reducible refine gate_callee (f := 12) rfl ?_); refine goesL_ (some 24) rfl rfl Tryd.func12 (by kernel_rfl) rfl #[.slice A3 l3.length c3] rfl aV ?_; (with_reducible refine (laws_zzFits2.calls k _ _ l3 false _ ?side1 ?side2 A11.out).mono ?_); (case side1 => repeat (first | exact (Kd.C_below HR3.out HB.out) | (with_reducible refine Kd.C_alloc ?_ _) | (with_reducible refine Kd.C_drewN ?_ _) | (with_reducible refine Kd.C_drew ?_))); (case side2 => exact HC3.out); rintro e w' ⟨rfl, ⟨nd, rfl⟩⟩; refine ⟨_, rfl, ?_⟩))
   go_meet
   case rel => exact ⟨_, (true), (by first | rfl | (simp; done) | (simp [*]; done)), H', ⟨by first | omega | exact Nat.le_refl _⟩, ⟨by (with_reducible repeat (first | refine blk_drewN ?_ _ | refine blk_drew ?_ | refine blk_alloc ?_ _)); exact BK319.out⟩, ⟨bB⟩⟩
 case rest =>
  clear HC9
  try clear c1
  try clear p2
  try clear c3
  try clear c4
  try clear c5
  try clear c6
  try clear c7
  try clear c12
  try clear c13
  try clear c13b0
  try clear c13b1
  try clear c15
  try clear c16
  try clear c16b0
  try clear c16b1
  obtain ⟨kq, x45_8, rfl, HA, HJ8, BK319, HB⟩ := hcut
  cases kq with
  | zero => exact absurd HA.out (by simp [laws_FnConsistencyBinds.j0])
  | succ kj8 =>
   have H := HA.out
   clear HA
   simp only [laws_FnConsistencyBinds.j0] at H
   by_cases c17 : x45_8 = true
   ·subst c17
    have H1 : (some true) = some r := by rw [if_pos rfl] at H; exact H
    clear H
    have H := H1
    clear H1
    obtain rfl := Option.some.inj H
    go_wp2
    go_ret
    exact ⟨by first | rfl | (simp [errW_none, errW_some] <;> rfl) | (simp [*, errW_none, errW_some] <;> rfl), bB⟩
   ·replace c17 := Bool.eq_false_iff.mpr c17
    subst c17
    have H1 : ((spec_Terms.f a0_0 a0_1 a0_2 a0_3 a0_4 a0_5).bind fun t322 => (if t322 = true then ((laws_logSmall.f kj8 l3).bind fun t323 => (if t323 = true then ((laws_logSmall.f kj8 l5).bind fun t324 => (if t324 = true then (if (l4.length : Int) > 100000 then (laws_FnConsistencyBinds.j1 kj8 a1 a2 l3 l4 l5 l6 l7 true a0_0 a0_1 a0_2 a0_3 a0_4 a0_5) else (if (l6.length : Int) > 100000 then (laws_FnConsistencyBinds.j1 kj8 a1 a2 l3 l4 l5 l6 l7 true a0_0 a0_1 a0_2 a0_3 a0_4 a0_5) else (laws_FnConsistencyBinds.j1 kj8 a1 a2 l3 l4 l5 l6 l7 (a1 == 0) a0_0 a0_1 a0_2 a0_3 a0_4 a0_5))) else (laws_FnConsistencyBinds.j1 kj8 a1 a2 l3 l4 l5 l6 l7 true a0_0 a0_1 a0_2 a0_3 a0_4 a0_5))) else (laws_FnConsistencyBinds.j1 kj8 a1 a2 l3 l4 l5 l6 l7 true a0_0 a0_1 a0_2 a0_3 a0_4 a0_5))) else (laws_FnConsistencyBinds.j1 kj8 a1 a2 l3 l4 l5 l6 l7 true a0_0 a0_1 a0_2 a0_3 a0_4 a0_5))) = some r := by rw [if_neg (show ¬ (false = true) by decide)] at H; exact H
    clear H
    have H := H1
    clear H1
    have HC18 := Aside0.mk H
    clear H
    go_upto_region 3 with (fail)
    go_cut [72] (fun v72 wc => ∃ (kq : Nat) (x72_17 : Bool), v72 = .bool x72_17 ∧ Aside0 (laws_FnConsistencyBinds.j1 kq a1 a2 l3 l4 l5 l6 l7 x72_17 a0_0 a0_1 a0_2 a0_3 a0_4 a0_5 = some r) ∧ Aside0 (kq ≤ kj8) ∧ Aside0 (wc.heap[gb319]? = some (.cells #[.int .i64 a0_0, .int .i64 a0_1, .int .i64 a0_2, .int .u64 a0_3, .int .u64 a0_4, .int .u64 a0_5] 24 (0, 0))) ∧ Aside0 (Below w.heap.size w wc))
    case first =>
     have H := HC18.out
     clear HC18
     replace H := Option.bind_eq_some_iff.mp H
     obtain ⟨t322, A190, H⟩ := H
     replace H : (if t322 = true then ((laws_logSmall.f kj8 l3).bind fun t323 => (if t323 = true then ((laws_logSmall.f kj8 l5).bind fun t324 => (if t324 = true then (if (l4.length : Int) > 100000 then (laws_FnConsistencyBinds.j1 kj8 a1 a2 l3 l4 l5 l6 l7 true a0_0 a0_1 a0_2 a0_3 a0_4 a0_5) else (if (l6.length : Int) > 100000 then (laws_FnConsistencyBinds.j1 kj8 a1 a2 l3 l4 l5 l6 l7 true a0_0 a0_1 a0_2 a0_3 a0_4 a0_5) else (laws_FnConsistencyBinds.j1 kj8 a1 a2 l3 l4 l5 l6 l7 (a1 == 0) a0_0 a0_1 a0_2 a0_3 a0_4 a0_5))) else (laws_FnConsistencyBinds.j1 kj8 a1 a2 l3 l4 l5 l6 l7 true a0_0 a0_1 a0_2 a0_3 a0_4 a0_5))) else (laws_FnConsistencyBinds.j1 kj8 a1 a2 l3 l4 l5 l6 l7 true a0_0 a0_1 a0_2 a0_3 a0_4 a0_5))) else (laws_FnConsistencyBinds.j1 kj8 a1 a2 l3 l4 l5 l6 l7 true a0_0 a0_1 a0_2 a0_3 a0_4 a0_5)) = some r := H
     have A19 := Aside0.mk A190
     clear A190
     by_cases c20 : t322 = true
     ·subst c20
      have H1 : ((laws_logSmall.f kj8 l3).bind fun t323 => (if t323 = true then ((laws_logSmall.f kj8 l5).bind fun t324 => (if t324 = true then (if (l4.length : Int) > 100000 then (laws_FnConsistencyBinds.j1 kj8 a1 a2 l3 l4 l5 l6 l7 true a0_0 a0_1 a0_2 a0_3 a0_4 a0_5) else (if (l6.length : Int) > 100000 then (laws_FnConsistencyBinds.j1 kj8 a1 a2 l3 l4 l5 l6 l7 true a0_0 a0_1 a0_2 a0_3 a0_4 a0_5) else (laws_FnConsistencyBinds.j1 kj8 a1 a2 l3 l4 l5 l6 l7 (a1 == 0) a0_0 a0_1 a0_2 a0_3 a0_4 a0_5))) else (laws_FnConsistencyBinds.j1 kj8 a1 a2 l3 l4 l5 l6 l7 true a0_0 a0_1 a0_2 a0_3 a0_4 a0_5))) else (laws_FnConsistencyBinds.j1 kj8 a1 a2 l3 l4 l5 l6 l7 true a0_0 a0_1 a0_2 a0_3 a0_4 a0_5))) = some r := by rw [if_pos rfl] at H; exact H
      clear H
      have H := H1
      clear H1
      replace H := Option.bind_eq_some_iff.mp H
      obtain ⟨t323, A210, H⟩ := H
      replace H : (if t323 = true then ((laws_logSmall.f kj8 l5).bind fun t324 => (if t324 = true then (if (l4.length : Int) > 100000 then (laws_FnConsistencyBinds.j1 kj8 a1 a2 l3 l4 l5 l6 l7 true a0_0 a0_1 a0_2 a0_3 a0_4 a0_5) else (if (l6.length : Int) > 100000 then (laws_FnConsistencyBinds.j1 kj8 a1 a2 l3 l4 l5 l6 l7 true a0_0 a0_1 a0_2 a0_3 a0_4 a0_5) else (laws_FnConsistencyBinds.j1 kj8 a1 a2 l3 l4 l5 l6 l7 (a1 == 0) a0_0 a0_1 a0_2 a0_3 a0_4 a0_5))) else (laws_FnConsistencyBinds.j1 kj8 a1 a2 l3 l4 l5 l6 l7 true a0_0 a0_1 a0_2 a0_3 a0_4 a0_5))) else (laws_FnConsistencyBinds.j1 kj8 a1 a2 l3 l4 l5 l6 l7 true a0_0 a0_1 a0_2 a0_3 a0_4 a0_5)) = some r := H
      have A21 := Aside0.mk A210
      clear A210
      by_cases c22 : t323 = true
      ·subst c22
       have H1 : ((laws_logSmall.f kj8 l5).bind fun t324 => (if t324 = true then (if (l4.length : Int) > 100000 then (laws_FnConsistencyBinds.j1 kj8 a1 a2 l3 l4 l5 l6 l7 true a0_0 a0_1 a0_2 a0_3 a0_4 a0_5) else (if (l6.length : Int) > 100000 then (laws_FnConsistencyBinds.j1 kj8 a1 a2 l3 l4 l5 l6 l7 true a0_0 a0_1 a0_2 a0_3 a0_4 a0_5) else (laws_FnConsistencyBinds.j1 kj8 a1 a2 l3 l4 l5 l6 l7 (a1 == 0) a0_0 a0_1 a0_2 a0_3 a0_4 a0_5))) else (laws_FnConsistencyBinds.j1 kj8 a1 a2 l3 l4 l5 l6 l7 true a0_0 a0_1 a0_2 a0_3 a0_4 a0_5))) = some r := by rw [if_pos rfl] at H; exact H
       clear H
       have H := H1
       clear H1
       replace H := Option.bind_eq_some_iff.mp H
       obtain ⟨t324, A230, H⟩ := H
       replace H : (if t324 = true then (if (l4.length : Int) > 100000 then (laws_FnConsistencyBinds.j1 kj8 a1 a2 l3 l4 l5 l6 l7 true a0_0 a0_1 a0_2 a0_3 a0_4 a0_5) else (if (l6.length : Int) > 100000 then (laws_FnConsistencyBinds.j1 kj8 a1 a2 l3 l4 l5 l6 l7 true a0_0 a0_1 a0_2 a0_3 a0_4 a0_5) else (laws_FnConsistencyBinds.j1 kj8 a1 a2 l3 l4 l5 l6 l7 (a1 == 0) a0_0 a0_1 a0_2 a0_3 a0_4 a0_5))) else (laws_FnConsistencyBinds.j1 kj8 a1 a2 l3 l4 l5 l6 l7 true a0_0 a0_1 a0_2 a0_3 a0_4 a0_5)) = some r := H
       have A23 := Aside0.mk A230
       clear A230
       by_cases c24 : t324 = true
       ·subst c24
        have H1 : (if (l4.length : Int) > 100000 then (laws_FnConsistencyBinds.j1 kj8 a1 a2 l3 l4 l5 l6 l7 true a0_0 a0_1 a0_2 a0_3 a0_4 a0_5) else (if (l6.length : Int) > 100000 then (laws_FnConsistencyBinds.j1 kj8 a1 a2 l3 l4 l5 l6 l7 true a0_0 a0_1 a0_2 a0_3 a0_4 a0_5) else (laws_FnConsistencyBinds.j1 kj8 a1 a2 l3 l4 l5 l6 l7 (a1 == 0) a0_0 a0_1 a0_2 a0_3 a0_4 a0_5))) = some r := by rw [if_pos rfl] at H; exact H
        clear H
        have H := H1
        clear H1
        by_cases c25 : (l4.length : Int) > 100000
        ·rw [if_pos c25] at H
         have c25b0 : decide (100000 < (l4.length : Int)) = true := decide_eq_true c25
         have c25b1 : decide (100000 < l4.length) = true := decide_eq_true (by omega)
         clear c25
         (first | rw [c25b0] | (simp only [i64_w, i32_w]; rw [c25b0]) | skip)
         have H' := Aside0.mk H
         clear H
         have hcz26_0 : wc.cell? ⟨gb319, 0, none⟩ = some (.int .i64 a0_0) := (blk_cell BK319.out 0).trans rfl
         have hcz26_1 : wc.cell? ⟨gb319, 1, none⟩ = some (.int .i64 a0_1) := (blk_cell BK319.out 1).trans rfl
         have hcz26_2 : wc.cell? ⟨gb319, 2, none⟩ = some (.int .i64 a0_2) := (blk_cell BK319.out 2).trans rfl
         have hcz26_3 : wc.cell? ⟨gb319, 3, none⟩ = some (.int .u64 a0_3) := (blk_cell BK319.out 3).trans rfl
         have hcz26_4 : wc.cell? ⟨gb319, 4, none⟩ = some (.int .u64 a0_4) := (blk_cell BK319.out 4).trans rfl
         have hcz26_5 : wc.cell? ⟨gb319, 5, none⟩ = some (.int .u64 a0_5) := (blk_cell BK319.out 5).trans rfl
         have hfz26_0 := blk_frozen BK319.out 0
         have hfz26_1 := blk_frozen BK319.out 1
         have hfz26_2 := blk_frozen BK319.out 2
         have hfz26_3 := blk_frozen BK319.out 3
         have hfz26_4 := blk_frozen BK319.out 4
         have hfz26_5 := blk_frozen BK319.out 5
         go_wp2_with (first | ((with_reducible refine gate_callee (f := 16) rfl ?_); refine goesL_ (some 47) rfl rfl Tryd.func16 (by kernel_rfl) rfl #[.agg #[.int .i64 a0_0, .int .i64 a0_1, .int .i64 a0_2, .int .u64 a0_3, .int .u64 a0_4, .int .u64 a0_5]] rfl aV ?_; (with_reducible refine (spec_Terms.calls a0_0 a0_1 a0_2 a0_3 a0_4 a0_5 true _ A19.out).mono ?_); rintro e w27 ⟨rfl, hb⟩; refine ⟨_, rfl, ?_⟩; have n0_ := Aside0.mk (blk_below (g := gb319) (o := .cells #[.int .i64 a0_0, .int .i64 a0_1, .int .i64 a0_2, .int .u64 a0_3, .int .u64 a0_4, .int .u64 a0_5] 24 (0, 0)) (kB BK319.out) hb); have n1_ := Aside0.mk (below_step bB hb); clear BK319; clear HB; have BK319 := n0_; have HB := n1_; clear n0_ n1_; (try clear hb); (try clear hb2); (try clear hk); (try clear hi)) | (go_at_call 13; (with_reducible refine (laws_logSmall.calls kj8 _ _ l3 true _ ?side1 ?side2 A21.out).mono ?_); (case side1 => repeat (first | exact (Kd.C_below HR3.out HB.out) | (with_reducible refine Kd.C_alloc ?_ _) | (with_reducible refine Kd.C_drewN ?_ _) | (with_reducible refine Kd.C_drew ?_))); (case side2 => exact HC3.out); rintro e w' ⟨rfl, ⟨nd, rfl⟩⟩) | (go_at_call 13; (with_reducible refine (laws_logSmall.calls kj8 _ _ l5 true _ ?side1 ?side2 A23.out).mono ?_); (case side1 => repeat (first | exact (Kd.C_below HR5.out bB) | (with_reducible refine Kd.C_alloc ?_ _) | (with_reducible refine Kd.C_drewN ?_ _) | (with_reducible refine Kd.C_drew ?_))); (case side2 => exact HC5.out); rintro e w' ⟨rfl, ⟨nd, rfl⟩⟩))
         go_meet
         case rel => exact ⟨_, (true), (by first | rfl | (simp; done) | (simp [*]; done)), H', ⟨by have := HJ8.out; first | omega | exact Nat.le_refl _⟩, ⟨by (with_reducible repeat (first | refine blk_drewN ?_ _ | refine blk_drew ?_ | refine blk_alloc ?_ _)); exact BK319.out⟩, ⟨bB⟩⟩
        ·rw [if_neg c25] at H
         have c25b0 : decide (100000 < (l4.length : Int)) = false := decide_eq_false c25
         have c25b1 : decide (100000 < l4.length) = false := decide_eq_false (by omega)
         clear c25
         (first | rw [c25b0] | (simp only [i64_w, i32_w]; rw [c25b0]) | skip)
         by_cases c28 : (l6.length : Int) > 100000
         ·rw [if_pos c28] at H
          have c28b0 : decide (100000 < (l6.length : Int)) = true := decide_eq_true c28
          have c28b1 : decide (100000 < l6.length) = true := decide_eq_true (by omega)
          clear c28
          have H' := Aside0.mk H
          clear H
          have hcz29_0 : wc.cell? ⟨gb319, 0, none⟩ = some (.int .i64 a0_0) := (blk_cell BK319.out 0).trans rfl
          have hcz29_1 : wc.cell? ⟨gb319, 1, none⟩ = some (.int .i64 a0_1) := (blk_cell BK319.out 1).trans rfl
          have hcz29_2 : wc.cell? ⟨gb319, 2, none⟩ = some (.int .i64 a0_2) := (blk_cell BK319.out 2).trans rfl
          have hcz29_3 : wc.cell? ⟨gb319, 3, none⟩ = some (.int .u64 a0_3) := (blk_cell BK319.out 3).trans rfl
          have hcz29_4 : wc.cell? ⟨gb319, 4, none⟩ = some (.int .u64 a0_4) := (blk_cell BK319.out 4).trans rfl
          have hcz29_5 : wc.cell? ⟨gb319, 5, none⟩ = some (.int .u64 a0_5) := (blk_cell BK319.out 5).trans rfl
          have hfz29_0 := blk_frozen BK319.out 0
          have hfz29_1 := blk_frozen BK319.out 1
          have hfz29_2 := blk_frozen BK319.out 2
          have hfz29_3 := blk_frozen BK319.out 3
          have hfz29_4 := blk_frozen BK319.out 4
          have hfz29_5 := blk_frozen BK319.out 5
          go_wp2_with (first | ((with_reducible refine gate_callee (f := 16) rfl ?_); refine goesL_ (some 47) rfl rfl Tryd.func16 (by kernel_rfl) rfl #[.agg #[.int .i64 a0_0, .int .i64 a0_1, .int .i64 a0_2, .int .u64 a0_3, .int .u64 a0_4, .int .u64 a0_5]] rfl aV ?_; (with_reducible refine (spec_Terms.calls a0_0 a0_1 a0_2 a0_3 a0_4 a0_5 true _ A19.out).mono ?_); rintro e w30 ⟨rfl, hb⟩; refine ⟨_, rfl, ?_⟩; have n0_ := Aside0.mk (blk_below (g := gb319) (o := .cells #[.int .i64 a0_0, .int .i64 a0_1, .int .i64 a0_2, .int .u64 a0_3, .int .u64 a0_4, .int .u64 a0_5] 24 (0, 0)) (kB BK319.out) hb); have n1_ := Aside0.mk (below_step bB hb); clear BK319; clear HB; have BK319 := n0_; have HB := n1_; clear n0_ n1_; (try clear hb); (try clear hb2); (try clear hk); (try clear hi)) | (go_at_call 13; (with_reducible refine (laws_logSmall.calls kj8 _ _ l3 true _ ?side1 ?side2 A21.out).mono ?_); (case side1 => repeat (first | exact (Kd.C_below HR3.out HB.out) | (with_reducible refine Kd.C_alloc ?_ _) | (with_reducible refine Kd.C_drewN ?_ _) | (with_reducible refine Kd.C_drew ?_))); (case side2 => exact HC3.out); rintro e w' ⟨rfl, ⟨nd, rfl⟩⟩) | (go_at_call 13; (with_reducible refine (laws_logSmall.calls kj8 _ _ l5 true _ ?side1 ?side2 A23.out).mono ?_); (case side1 => repeat (first | exact (Kd.C_below HR5.out bB) | (with_reducible refine Kd.C_alloc ?_ _) | (with_reducible refine Kd.C_drewN ?_ _) | (with_reducible refine Kd.C_drew ?_))); (case side2 => exact HC5.out); rintro e w' ⟨rfl, ⟨nd, rfl⟩⟩))
          go_meet
          case rel => exact ⟨_, (true), (by first | rfl | (simp; done) | (simp [*]; done)), H', ⟨by have := HJ8.out; first | omega | exact Nat.le_refl _⟩, ⟨by (with_reducible repeat (first | refine blk_drewN ?_ _ | refine blk_drew ?_ | refine blk_alloc ?_ _)); exact BK319.out⟩, ⟨bB⟩⟩
         ·rw [if_neg c28] at H
          have c28b0 : decide (100000 < (l6.length : Int)) = false := decide_eq_false c28
          have c28b1 : decide (100000 < l6.length) = false := decide_eq_false (by omega)
          clear c28
          have H' := Aside0.mk H
          clear H
          have hcz31_0 : wc.cell? ⟨gb319, 0, none⟩ = some (.int .i64 a0_0) := (blk_cell BK319.out 0).trans rfl
          have hcz31_1 : wc.cell? ⟨gb319, 1, none⟩ = some (.int .i64 a0_1) := (blk_cell BK319.out 1).trans rfl
          have hcz31_2 : wc.cell? ⟨gb319, 2, none⟩ = some (.int .i64 a0_2) := (blk_cell BK319.out 2).trans rfl
          have hcz31_3 : wc.cell? ⟨gb319, 3, none⟩ = some (.int .u64 a0_3) := (blk_cell BK319.out 3).trans rfl
          have hcz31_4 : wc.cell? ⟨gb319, 4, none⟩ = some (.int .u64 a0_4) := (blk_cell BK319.out 4).trans rfl
          have hcz31_5 : wc.cell? ⟨gb319, 5, none⟩ = some (.int .u64 a0_5) := (blk_cell BK319.out 5).trans rfl
          have hfz31_0 := blk_frozen BK319.out 0
          have hfz31_1 := blk_frozen BK319.out 1
          have hfz31_2 := blk_frozen BK319.out 2
          have hfz31_3 := blk_frozen BK319.out 3
          have hfz31_4 := blk_frozen BK319.out 4
          have hfz31_5 := blk_frozen BK319.out 5
          go_wp2_with (first | ((with_reducible refine gate_callee (f := 16) rfl ?_); refine goesL_ (some 47) rfl rfl Tryd.func16 (by kernel_rfl) rfl #[.agg #[.int .i64 a0_0, .int .i64 a0_1, .int .i64 a0_2, .int .u64 a0_3, .int .u64 a0_4, .int .u64 a0_5]] rfl aV ?_; (with_reducible refine (spec_Terms.calls a0_0 a0_1 a0_2 a0_3 a0_4 a0_5 true _ A19.out).mono ?_); rintro e w32 ⟨rfl, hb⟩; refine ⟨_, rfl, ?_⟩; have n0_ := Aside0.mk (blk_below (g := gb319) (o := .cells #[.int .i64 a0_0, .int .i64 a0_1, .int .i64 a0_2, .int .u64 a0_3, .int .u64 a0_4, .int .u64 a0_5] 24 (0, 0)) (kB BK319.out) hb); have n1_ := Aside0.mk (below_step bB hb); clear BK319; clear HB; have BK319 := n0_; have HB := n1_; clear n0_ n1_; (try clear hb); (try clear hb2); (try clear hk); (try clear hi)) | (go_at_call 13; (with_reducible refine (laws_logSmall.calls kj8 _ _ l3 true _ ?side1 ?side2 A21.out).mono ?_); (case side1 => repeat (first | exact (Kd.C_below HR3.out HB.out) | (with_reducible refine Kd.C_alloc ?_ _) | (with_reducible refine Kd.C_drewN ?_ _) | (with_reducible refine Kd.C_drew ?_))); (case side2 => exact HC3.out); rintro e w' ⟨rfl, ⟨nd, rfl⟩⟩) | (go_at_call 13; (with_reducible refine (laws_logSmall.calls kj8 _ _ l5 true _ ?side1 ?side2 A23.out).mono ?_); (case side1 => repeat (first | exact (Kd.C_below HR5.out bB) | (with_reducible refine Kd.C_alloc ?_ _) | (with_reducible refine Kd.C_drewN ?_ _) | (with_reducible refine Kd.C_drew ?_))); (case side2 => exact HC5.out); rintro e w' ⟨rfl, ⟨nd, rfl⟩⟩))
          go_meet
          case rel => exact ⟨_, ((a1 == 0)), (by first | rfl | (simp; done) | (simp [*]; done)), H', ⟨by have := HJ8.out; first | omega | exact Nat.le_refl _⟩, ⟨by (with_reducible repeat (first | refine blk_drewN ?_ _ | refine blk_drew ?_ | refine blk_alloc ?_ _)); exact BK319.out⟩, ⟨bB⟩⟩
       ·replace c24 := Bool.eq_false_iff.mpr c24
        subst c24
        have H1 : (laws_FnConsistencyBinds.j1 kj8 a1 a2 l3 l4 l5 l6 l7 true a0_0 a0_1 a0_2 a0_3 a0_4 a0_5) = some r := by rw [if_neg (show ¬ (false = true) by decide)] at H; exact H
        clear H
        have H := H1
        clear H1
        have H' := Aside0.mk H
        clear H
        have hcz33_0 : wc.cell? ⟨gb319, 0, none⟩ = some (.int .i64 a0_0) := (blk_cell BK319.out 0).trans rfl
        have hcz33_1 : wc.cell? ⟨gb319, 1, none⟩ = some (.int .i64 a0_1) := (blk_cell BK319.out 1).trans rfl
        have hcz33_2 : wc.cell? ⟨gb319, 2, none⟩ = some (.int .i64 a0_2) := (blk_cell BK319.out 2).trans rfl
        have hcz33_3 : wc.cell? ⟨gb319, 3, none⟩ = some (.int .u64 a0_3) := (blk_cell BK319.out 3).trans rfl
        have hcz33_4 : wc.cell? ⟨gb319, 4, none⟩ = some (.int .u64 a0_4) := (blk_cell BK319.out 4).trans rfl
        have hcz33_5 : wc.cell? ⟨gb319, 5, none⟩ = some (.int .u64 a0_5) := (blk_cell BK319.out 5).trans rfl
        have hfz33_0 := blk_frozen BK319.out 0
        have hfz33_1 := blk_frozen BK319.out 1
        have hfz33_2 := blk_frozen BK319.out 2
        have hfz33_3 := blk_frozen BK319.out 3
        have hfz33_4 := blk_frozen BK319.out 4
        have hfz33_5 := blk_frozen BK319.out 5
        go_wp2_with (first | ((with_reducible refine gate_callee (f := 16) rfl ?_); refine goesL_ (some 47) rfl rfl Tryd.func16 (by kernel_rfl) rfl #[.agg #[.int .i64 a0_0, .int .i64 a0_1, .int .i64 a0_2, .int .u64 a0_3, .int .u64 a0_4, .int .u64 a0_5]] rfl aV ?_; (with_reducible refine (spec_Terms.calls a0_0 a0_1 a0_2 a0_3 a0_4 a0_5 true _ A19.out).mono ?_); rintro e w34 ⟨rfl, hb⟩; refine ⟨_, rfl, ?_⟩; have n0_ := Aside0.mk (blk_below (g := gb319) (o := .cells #[.int .i64 a0_0, .int .i64 a0_1, .int .i64 a0_2, .int .u64 a0_3, .int .u64 a0_4, .int .u64 a0_5] 24 (0, 0)) (kB BK319.out) hb); have n1_ := Aside0.mk (below_step bB hb); clear BK319; clear HB; have BK319 := n0_; have HB := n1_; clear n0_ n1_; (try clear hb); (try clear hb2); (try clear hk); (try clear hi)) | (go_at_call 13; (with_reducible refine (laws_logSmall.calls kj8 _ _ l3 true _ ?side1 ?side2 A21.out).mono ?_); (case side1 => repeat (first | exact (Kd.C_below HR3.out HB.out) | (with_reducible refine Kd.C_alloc ?_ _) | (with_reducible refine Kd.C_drewN ?_ _) | (with_reducible refine Kd.C_drew ?_))); (case side2 => exact HC3.out); rintro e w' ⟨rfl, ⟨nd, rfl⟩⟩) | (go_at_call 13; (with_reducible refine (laws_logSmall.calls kj8 _ _ l5 false _ ?side1 ?side2 A23.out).mono ?_); (case side1 => repeat (first | exact (Kd.C_below HR5.out bB) | (with_reducible refine Kd.C_alloc ?_ _) | (with_reducible refine Kd.C_drewN ?_ _) | (with_reducible refine Kd.C_drew ?_))); (case side2 => exact HC5.out); rintro e w' ⟨rfl, ⟨nd, rfl⟩⟩))
        go_meet
        case rel => exact ⟨_, (true), (by first | rfl | (simp; done) | (simp [*]; done)), H', ⟨by have := HJ8.out; first | omega | exact Nat.le_refl _⟩, ⟨by (with_reducible repeat (first | refine blk_drewN ?_ _ | refine blk_drew ?_ | refine blk_alloc ?_ _)); exact BK319.out⟩, ⟨bB⟩⟩
      ·replace c22 := Bool.eq_false_iff.mpr c22
       subst c22
       have H1 : (laws_FnConsistencyBinds.j1 kj8 a1 a2 l3 l4 l5 l6 l7 true a0_0 a0_1 a0_2 a0_3 a0_4 a0_5) = some r := by rw [if_neg (show ¬ (false = true) by decide)] at H; exact H
       clear H
       have H := H1
       clear H1
       have H' := Aside0.mk H
       clear H
       have hcz35_0 : wc.cell? ⟨gb319, 0, none⟩ = some (.int .i64 a0_0) := (blk_cell BK319.out 0).trans rfl
       have hcz35_1 : wc.cell? ⟨gb319, 1, none⟩ = some (.int .i64 a0_1) := (blk_cell BK319.out 1).trans rfl
       have hcz35_2 : wc.cell? ⟨gb319, 2, none⟩ = some (.int .i64 a0_2) := (blk_cell BK319.out 2).trans rfl
       have hcz35_3 : wc.cell? ⟨gb319, 3, none⟩ = some (.int .u64 a0_3) := (blk_cell BK319.out 3).trans rfl
       have hcz35_4 : wc.cell? ⟨gb319, 4, none⟩ = some (.int .u64 a0_4) := (blk_cell BK319.out 4).trans rfl
       have hcz35_5 : wc.cell? ⟨gb319, 5, none⟩ = some (.int .u64 a0_5) := (blk_cell BK319.out 5).trans rfl
       have hfz35_0 := blk_frozen BK319.out 0
       have hfz35_1 := blk_frozen BK319.out 1
       have hfz35_2 := blk_frozen BK319.out 2
       have hfz35_3 := blk_frozen BK319.out 3
       have hfz35_4 := blk_frozen BK319.out 4
       have hfz35_5 := blk_frozen BK319.out 5
       go_wp2_with (first | ((with_reducible refine gate_callee (f := 16) rfl ?_); refine goesL_ (some 47) rfl rfl Tryd.func16 (by kernel_rfl) rfl #[.agg #[.int .i64 a0_0, .int .i64 a0_1, .int .i64 a0_2, .int .u64 a0_3, .int .u64 a0_4, .int .u64 a0_5]] rfl aV ?_; (with_reducible refine (spec_Terms.calls a0_0 a0_1 a0_2 a0_3 a0_4 a0_5 true _ A19.out).mono ?_); rintro e w36 ⟨rfl, hb⟩; refine ⟨_, rfl, ?_⟩; have n0_ := Aside0.mk (blk_below (g := gb319) (o := .cells #[.int .i64 a0_0, .int .i64 a0_1, .int .i64 a0_2, .int .u64 a0_3, .int .u64 a0_4, .int .u64 a0_5] 24 (0, 0)) (kB BK319.out) hb); have n1_ := Aside0.mk (below_step bB hb); clear BK319; clear HB; have BK319 := n0_; have HB := n1_; clear n0_ n1_; (try clear hb); (try clear hb2); (try clear hk); (try clear hi)) | (go_at_call 13; (with_reducible refine (laws_logSmall.calls kj8 _ _ l3 false _ ?side1 ?side2 A21.out).mono ?_); (case side1 => repeat (first | exact (Kd.C_below HR3.out HB.out) | (with_reducible refine Kd.C_alloc ?_ _) | (with_reducible refine Kd.C_drewN ?_ _) | (with_reducible refine Kd.C_drew ?_))); (case side2 => exact HC3.out); rintro e w' ⟨rfl, ⟨nd, rfl⟩⟩))
       go_meet
       case rel => exact ⟨_, (true), (by first | rfl | (simp; done) | (simp [*]; done)), H', ⟨by have := HJ8.out; first | omega | exact Nat.le_refl _⟩, ⟨by (with_reducible repeat (first | refine blk_drewN ?_ _ | refine blk_drew ?_ | refine blk_alloc ?_ _)); exact BK319.out⟩, ⟨bB⟩⟩
     ·replace c20 := Bool.eq_false_iff.mpr c20
      subst c20
      have H1 : (laws_FnConsistencyBinds.j1 kj8 a1 a2 l3 l4 l5 l6 l7 true a0_0 a0_1 a0_2 a0_3 a0_4 a0_5) = some r := by rw [if_neg (show ¬ (false = true) by decide)] at H; exact H
      clear H
      have H := H1
      clear H1
      have H' := Aside0.mk H
      clear H
      have hcz37_0 : wc.cell? ⟨gb319, 0, none⟩ = some (.int .i64 a0_0) := (blk_cell BK319.out 0).trans rfl
      have hcz37_1 : wc.cell? ⟨gb319, 1, none⟩ = some (.int .i64 a0_1) := (blk_cell BK319.out 1).trans rfl
      have hcz37_2 : wc.cell? ⟨gb319, 2, none⟩ = some (.int .i64 a0_2) := (blk_cell BK319.out 2).trans rfl
      have hcz37_3 : wc.cell? ⟨gb319, 3, none⟩ = some (.int .u64 a0_3) := (blk_cell BK319.out 3).trans rfl
      have hcz37_4 : wc.cell? ⟨gb319, 4, none⟩ = some (.int .u64 a0_4) := (blk_cell BK319.out 4).trans rfl
      have hcz37_5 : wc.cell? ⟨gb319, 5, none⟩ = some (.int .u64 a0_5) := (blk_cell BK319.out 5).trans rfl
      have hfz37_0 := blk_frozen BK319.out 0
      have hfz37_1 := blk_frozen BK319.out 1
      have hfz37_2 := blk_frozen BK319.out 2
      have hfz37_3 := blk_frozen BK319.out 3
      have hfz37_4 := blk_frozen BK319.out 4
      have hfz37_5 := blk_frozen BK319.out 5
      go_wp2_with (first | ((with_reducible refine gate_callee (f := 16) rfl ?_); refine goesL_ (some 47) rfl rfl Tryd.func16 (by kernel_rfl) rfl #[.agg #[.int .i64 a0_0, .int .i64 a0_1, .int .i64 a0_2, .int .u64 a0_3, .int .u64 a0_4, .int .u64 a0_5]] rfl aV ?_; (with_reducible refine (spec_Terms.calls a0_0 a0_1 a0_2 a0_3 a0_4 a0_5 false _ A19.out).mono ?_); rintro e w38 ⟨rfl, hb⟩; refine ⟨_, rfl, ?_⟩; have n0_ := Aside0.mk (blk_below (g := gb319) (o := .cells #[.int .i64 a0_0, .int .i64 a0_1, .int .i64 a0_2, .int .u64 a0_3, .int .u64 a0_4, .int .u64 a0_5] 24 (0, 0)) (kB BK319.out) hb); have n1_ := Aside0.mk (below_step bB hb); clear BK319; clear HB; have BK319 := n0_; have HB := n1_; clear n0_ n1_; (try clear hb); (try clear hb2); (try clear hk); (try clear hi)))
      go_meet
      case rel => exact ⟨_, (true), (by first | rfl | (simp; done) | (simp [*]; done)), H', ⟨by have := HJ8.out; first | omega | exact Nat.le_refl _⟩, ⟨by (with_reducible repeat (first | refine blk_drewN ?_ _ | refine blk_drew ?_ | refine blk_alloc ?_ _)); exact BK319.out⟩, ⟨bB⟩⟩
    case rest =>
     clear HC18
     try clear c1
     try clear c2
     try clear p2
     try clear c3
     try clear c4
     try clear c5
     try clear c6
     try clear c7
     try clear c12
     try clear c13
     try clear c13b0
     try clear c13b1
     try clear c15
     try clear c16
     try clear c16b0
     try clear c16b1
     try clear c17
     try clear c20
     try clear c22
     try clear c24
     try clear c25
     try clear c25b0
     try clear c25b1
     try clear c28
     try clear c28b0
     try clear c28b1
     try clear hcz26_0
     try clear hcz26_1
     try clear hcz26_2
     try clear hcz26_3
     try clear hcz26_4
     try clear hcz26_5
     try clear hcz29_0
     try clear hcz29_1
     try clear hcz29_2
     try clear hcz29_3
     try clear hcz29_4
     try clear hcz29_5
     try clear hcz31_0
     try clear hcz31_1
     try clear hcz31_2
     try clear hcz31_3
     try clear hcz31_4
     try clear hcz31_5
     try clear hcz33_0
     try clear hcz33_1
     try clear hcz33_2
     try clear hcz33_3
     try clear hcz33_4
     try clear hcz33_5
     try clear hcz35_0
     try clear hcz35_1
     try clear hcz35_2
     try clear hcz35_3
     try clear hcz35_4
     try clear hcz35_5
     try clear hcz37_0
     try clear hcz37_1
     try clear hcz37_2
     try clear hcz37_3
     try clear hcz37_4
     try clear hcz37_5
     try clear hfz26_0
     try clear hfz26_1
     try clear hfz26_2
     try clear hfz26_3
     try clear hfz26_4
     try clear hfz26_5
     try clear hfz29_0
     try clear hfz29_1
     try clear hfz29_2
     try clear hfz29_3
     try clear hfz29_4
     try clear hfz29_5
     try clear hfz31_0
     try clear hfz31_1
     try clear hfz31_2
     try clear hfz31_3
     try clear hfz31_4
     try clear hfz31_5
     try clear hfz33_0
     try clear hfz33_1
     try clear hfz33_2
     try clear hfz33_3
     try clear hfz33_4
     try clear hfz33_5
     try clear hfz35_0
     try clear hfz35_1
     try clear hfz35_2
     try clear hfz35_3
     try clear hfz35_4
     try clear hfz35_5
     try clear hfz37_0
     try clear hfz37_1
     try clear hfz37_2
     try clear hfz37_3
     try clear hfz37_4
     try clear hfz37_5
     try clear p2
     obtain ⟨kq, x72_17, rfl, HA, HJ17, BK319, HB⟩ := hcut
     cases kq with
     | zero => exact absurd HA.out (by simp [laws_FnConsistencyBinds.j1])
     | succ kj17 =>
      have H := HA.out
      clear HA
      simp only [laws_FnConsistencyBinds.j1] at H
      by_cases c39 : x72_17 = true
      ·subst c39
       have H1 : (some true) = some r := by rw [if_pos rfl] at H; exact H
       clear H
       have H := H1
       clear H1
       obtain rfl := Option.some.inj H
       go_wp2
       go_ret
       exact ⟨by first | rfl | (simp [errW_none, errW_some] <;> rfl) | (simp [*, errW_none, errW_some] <;> rfl), bB⟩
      ·replace c39 := Bool.eq_false_iff.mpr c39
       subst c39
       have H1 : ((impl_VerifyConsistency.f kj17 a0_0 a0_1 a0_2 a0_3 a0_4 a0_5 a1 a2 l3 l4 l7).bind fun bt325 => ((impl_VerifyConsistency.f kj17 a0_0 a0_1 a0_2 a0_3 a0_4 a0_5 a1 a2 l5 l6 l7).bind fun bt329 => ((spec_VerifiedConsistency.f kj17 a0_0 a0_1 a0_2 a0_3 a0_4 a0_5 a1 a2 l3 l4 l7).bind fun bt333 => (if bt325.1 = bt333.1 then (if bt325.1 = 0 then (if bt329.1 = 0 then ((spec_SameText.f l4 l6).bind fun t337 => (if t337 = true then ((spec_Same.f kj17 l3 l5).bind fun t338 => (some t338)) else (some false))) else (some true)) else (some true)) else (some false))))) = some r := by rw [if_neg (show ¬ (false = true) by decide)] at H; exact H
       clear H
       have H := H1
       clear H1
       replace H := Option.bind_eq_some_iff.mp H
       obtain ⟨⟨t325, t326⟩, A400, H⟩ := H
       replace H : ((impl_VerifyConsistency.f kj17 a0_0 a0_1 a0_2 a0_3 a0_4 a0_5 a1 a2 l5 l6 l7).bind fun bt329 => ((spec_VerifiedConsistency.f kj17 a0_0 a0_1 a0_2 a0_3 a0_4 a0_5 a1 a2 l3 l4 l7).bind fun bt333 => (if t325 = bt333.1 then (if t325 = 0 then (if bt329.1 = 0 then ((spec_SameText.f l4 l6).bind fun t337 => (if t337 = true then ((spec_Same.f kj17 l3 l5).bind fun t338 => (some t338)) else (some false))) else (some true)) else (some true)) else (some false)))) = some r := H
       have A40 := Aside0.mk A400
       clear A400
       replace H := Option.bind_eq_some_iff.mp H
       obtain ⟨⟨t329, t330⟩, A410, H⟩ := H
       replace H : ((spec_VerifiedConsistency.f kj17 a0_0 a0_1 a0_2 a0_3 a0_4 a0_5 a1 a2 l3 l4 l7).bind fun bt333 => (if t325 = bt333.1 then (if t325 = 0 then (if t329 = 0 then ((spec_SameText.f l4 l6).bind fun t337 => (if t337 = true then ((spec_Same.f kj17 l3 l5).bind fun t338 => (some t338)) else (some false))) else (some true)) else (some true)) else (some false))) = some r := H
       have A41 := Aside0.mk A410
       clear A410
       replace H := Option.bind_eq_some_iff.mp H
       obtain ⟨⟨t333, t334⟩, A420, H⟩ := H
       replace H : (if t325 = t333 then (if t325 = 0 then (if t329 = 0 then ((spec_SameText.f l4 l6).bind fun t337 => (if t337 = true then ((spec_Same.f kj17 l3 l5).bind fun t338 => (some t338)) else (some false))) else (some true)) else (some true)) else (some false)) = some r := H
       have A42 := Aside0.mk A420
       clear A420
       by_cases c43 : t325 = t333
       ·rw [if_pos c43] at H
        have c43b0 : (t325 == t333) = true := beq_iff_eq.mpr c43
        have c43b1 : (t325 != t333) = false := bne_eq_false_iff_eq.mpr c43
        clear c43
        by_cases c44 : t325 = 0
        ·rw [if_pos c44] at H
         have c44b0 : (t325 == 0) = true := beq_iff_eq.mpr c44
         have c44b1 : (t325 != 0) = false := bne_eq_false_iff_eq.mpr c44
         clear c44
         by_cases c45 : t329 = 0
         ·rw [if_pos c45] at H
          have c45b0 : (t329 == 0) = true := beq_iff_eq.mpr c45
          have c45b1 : (t329 != 0) = false := bne_eq_false_iff_eq.mpr c45
          clear c45
          replace H := Option.bind_eq_some_iff.mp H
          obtain ⟨t337, A460, H⟩ := H
          replace H : (if t337 = true then ((spec_Same.f kj17 l3 l5).bind fun t338 => (some t338)) else (some false)) = some r := H
          have A46 := Aside0.mk A460
          clear A460
          by_cases c47 : t337 = true
          ·subst c47
           have H1 : ((spec_Same.f kj17 l3 l5).bind fun t338 => (some t338)) = some r := by rw [if_pos rfl] at H; exact H
           clear H
           have H := H1
           clear H1
           replace H := Option.bind_eq_some_iff.mp H
           obtain ⟨t338, A480, H⟩ := H
           replace H : (some t338) = some r := H
           have A48 := Aside0.mk A480
           clear A480
           obtain rfl := Option.some.inj H
           have hcz49_0 : wc.cell? ⟨gb319, 0, none⟩ = some (.int .i64 a0_0) := (blk_cell BK319.out 0).trans rfl
           have hcz49_1 : wc.cell? ⟨gb319, 1, none⟩ = some (.int .i64 a0_1) := (blk_cell BK319.out 1).trans rfl
           have hcz49_2 : wc.cell? ⟨gb319, 2, none⟩ = some (.int .i64 a0_2) := (blk_cell BK319.out 2).trans rfl
           have hcz49_3 : wc.cell? ⟨gb319, 3, none⟩ = some (.int .u64 a0_3) := (blk_cell BK319.out 3).trans rfl
           have hcz49_4 : wc.cell? ⟨gb319, 4, none⟩ = some (.int .u64 a0_4) := (blk_cell BK319.out 4).trans rfl
           have hcz49_5 : wc.cell? ⟨gb319, 5, none⟩ = some (.int .u64 a0_5) := (blk_cell BK319.out 5).trans rfl
           have hfz49_0 := blk_frozen BK319.out 0
           have hfz49_1 := blk_frozen BK319.out 1
           have hfz49_2 := blk_frozen BK319.out 2
           have hfz49_3 := blk_frozen BK319.out 3
           have hfz49_4 := blk_frozen BK319.out 4
           have hfz49_5 := blk_frozen BK319.out 5
           go_wp2_with (first | ((with_reducible refine gate_callee (f := 18) rfl ?_); refine goesL_ (some 80) rfl rfl Tryd.func18 (by kernel_rfl) rfl #[.agg #[.int .i64 a0_0, .int .i64 a0_1, .int .i64 a0_2, .int .u64 a0_3, .int .u64 a0_4, .int .u64 a0_5], .int .u64 a1, .int .u64 a2, .slice A3 l3.length c3, .slice A4 l4.length c4, .slice A7 l7.length c7] rfl aV ?_; (with_reducible refine (impl_VerifyConsistency.calls kj17 a0_0 a0_1 a0_2 a0_3 a0_4 a0_5 a1 a2 _ _ l3 _ _ l4 _ _ l7 t325 t326 _ ?side1 ?side2 ?side3 ?side4 ?side5 ?side6 ?side7 A40.out).mono ?_); (case side1 => exact TabOK.below HT.out bB); (case side2 => repeat (first | exact (Kd.C_below HR3.out HB.out) | (with_reducible refine Kd.C_alloc ?_ _) | (with_reducible refine Kd.C_drewN ?_ _) | (with_reducible refine Kd.C_drew ?_))); (case side3 => exact HC3.out); (case side4 => repeat (first | exact (Kd.C_below HR4.out HB.out) | (with_reducible refine Kd.C_alloc ?_ _) | (with_reducible refine Kd.C_drewN ?_ _) | (with_reducible refine Kd.C_drew ?_))); (case side5 => exact HC4.out); (case side6 => repeat (first | exact (Kd.C_below HR7.out HB.out) | (with_reducible refine Kd.C_alloc ?_ _) | (with_reducible refine Kd.C_drewN ?_ _) | (with_reducible refine Kd.C_drew ?_))); (case side7 => exact HC7.out); rintro e w50 ⟨v327, rfl, ho0, hb⟩; refine ⟨_, rfl, ?_⟩; have n0_ := Aside0.mk (Kd.R_lower ho0 (below_size bB)); have n1_ := Aside0.mk (blk_below (g := gb319) (o := .cells #[.int .i64 a0_0, .int .i64 a0_1, .int .i64 a0_2, .int .u64 a0_3, .int .u64 a0_4, .int .u64 a0_5] 24 (0, 0)) (kB BK319.out) hb); have n2_ := Aside0.mk (below_step bB hb); clear BK319; clear HB; have HO328 := n0_; have BK319 := n1_; have HB := n2_; clear n0_ n1_ n2_; (try clear hb); (try clear hb2); (try clear hk); (try clear hi); (try clear ho0); have hcz51_0 : w50.cell? ⟨gb319, 0, none⟩ = some (.int .i64 a0_0) := (blk_cell BK319.out 0).trans rfl; have hcz51_1 : w50.cell? ⟨gb319, 1, none⟩ = some (.int .i64 a0_1) := (blk_cell BK319.out 1).trans rfl; have hcz51_2 : w50.cell? ⟨gb319, 2, none⟩ = some (.int .i64 a0_2) := (blk_cell BK319.out 2).trans rfl; have hcz51_3 : w50.cell? ⟨gb319, 3, none⟩ = some (.int .u64 a0_3) := (blk_cell BK319.out 3).trans rfl; have hcz51_4 : w50.cell? ⟨gb319, 4, none⟩ = some (.int .u64 a0_4) := (blk_cell BK319.out 4).trans rfl; have hcz51_5 : w50.cell? ⟨gb319, 5, none⟩ = some (.int .u64 a0_5) := (blk_cell BK319.out 5).trans rfl; have hfz51_0 := blk_frozen BK319.out 0; have hfz51_1 := blk_frozen BK319.out 1; have hfz51_2 := blk_frozen BK319.out 2; have hfz51_3 := blk_frozen BK319.out 3; have hfz51_4 := blk_frozen BK319.out 4; have hfz51_5 := blk_frozen BK319.out 5) | ((with_reducible refine gate_callee (f := 18) rfl ?_); refine goesL_ (some 90) rfl rfl Tryd.func18 (by kernel_rfl) rfl #[.agg #[.int .i64 a0_0, .int .i64 a0_1, .int .i64 a0_2, .int .u64 a0_3, .int .u64 a0_4, .int .u64 a0_5], .int .u64 a1, .int .u64 a2, .slice A5 l5.length c5, .slice A6 l6.length c6, .slice A7 l7.length c7] rfl aV ?_; (with_reducible refine (impl_VerifyConsistency.calls kj17 a0_0 a0_1 a0_2 a0_3 a0_4 a0_5 a1 a2 _ _ l5 _ _ l6 _ _ l7 t329 t330 _ ?side1 ?side2 ?side3 ?side4 ?side5 ?side6 ?side7 A41.out).mono ?_); (case side1 => exact TabOK.below HT.out bB); (case side2 => repeat (first | exact (Kd.C_below HR5.out HB.out) | (with_reducible refine Kd.C_alloc ?_ _) | (with_reducible refine Kd.C_drewN ?_ _) | (with_reducible refine Kd.C_drew ?_))); (case side3 => exact HC5.out); (case side4 => repeat (first | exact (Kd.C_below HR6.out HB.out) | (with_reducible refine Kd.C_alloc ?_ _) | (with_reducible refine Kd.C_drewN ?_ _) | (with_reducible refine Kd.C_drew ?_))); (case side5 => exact HC6.out); (case side6 => repeat (first | exact (Kd.C_below HR7.out HB.out) | (with_reducible refine Kd.C_alloc ?_ _) | (with_reducible refine Kd.C_drewN ?_ _) | (with_reducible refine Kd.C_drew ?_))); (case side7 => exact HC7.out); rintro e w52 ⟨v331, rfl, ho0, hb⟩; refine ⟨_, rfl, ?_⟩; have n0_ := Aside0.mk (Kd.R_elder' (kR HO328.out) (Kd.R_base ho0) hb); have n1_ := Aside0.mk (Kd.R_lower (Kd.R_new' ho0 (Kd.R_lt (kR HO328.out))) (below_size bB)); have n2_ := Aside0.mk (blk_below (g := gb319) (o := .cells #[.int .i64 a0_0, .int .i64 a0_1, .int .i64 a0_2, .int .u64 a0_3, .int .u64 a0_4, .int .u64 a0_5] 24 (0, 0)) (kB BK319.out) hb); have n3_ := Aside0.mk (below_step bB hb); clear HO328; clear BK319; clear HB; have HO328 := n0_; have HO332 := n1_; have BK319 := n2_; have HB := n3_; clear n0_ n1_ n2_ n3_; (try clear hb); (try clear hb2); (try clear hk); (try clear hi); (try clear ho0); have hcz53_0 : w52.cell? ⟨gb319, 0, none⟩ = some (.int .i64 a0_0) := (blk_cell BK319.out 0).trans rfl; have hcz53_1 : w52.cell? ⟨gb319, 1, none⟩ = some (.int .i64 a0_1) := (blk_cell BK319.out 1).trans rfl; have hcz53_2 : w52.cell? ⟨gb319, 2, none⟩ = some (.int .i64 a0_2) := (blk_cell BK319.out 2).trans rfl; have hcz53_3 : w52.cell? ⟨gb319, 3, none⟩ = some (.int .u64 a0_3) := (blk_cell BK319.out 3).trans rfl; have hcz53_4 : w52.cell? ⟨gb319, 4, none⟩ = some (.int .u64 a0_4) := (blk_cell BK319.out 4).trans rfl; have hcz53_5 : w52.cell? ⟨gb319, 5, none⟩ = some (.int .u64 a0_5) := (blk_cell BK319.out 5).trans rfl; have hfz53_0 := blk_frozen BK319.out 0; have hfz53_1 := blk_frozen BK319.out 1; have hfz53_2 := blk_frozen BK319.out 2; have hfz53_3 := blk_frozen BK319.out 3; have hfz53_4 := blk_frozen BK319.out 4; have hfz53_5 := blk_frozen BK319.out 5) | ((with_reducible refine gate_callee (f := 19) rfl ?_); refine goesL_ (some 100) rfl rfl Tryd.func19 (by kernel_rfl) rfl #[.agg #[.int .i64 a0_0, .int .i64 a0_1, .int .i64 a0_2, .int .u64 a0_3, .int .u64 a0_4, .int .u64 a0_5], .int .u64 a1, .int .u64 a2, .slice A3 l3.length c3, .slice A4 l4.length c4, .slice A7 l7.length c7] rfl aV ?_; (with_reducible refine (spec_VerifiedConsistency.calls kj17 a0_0 a0_1 a0_2 a0_3 a0_4 a0_5 a1 a2 (fun k_ => k_ < w.heap.size) _ _ l3 (fun k_ => k_ < w.heap.size) _ _ l4 _ _ l7 t333 t334 _ ?side1 ?side2 ?side3 ?side4 A42.out).mono ?_); (case side1 => first | exact Kd.V_mk HC3.out (Kd.F_below (Kd.C_F (Kd.heap_slice 5 (Kd.heap_int .u8)) HR3.out) bB) | exact Kd.V_mono Kd.V_mk HC3.out (Kd.F_below (Kd.C_F (Kd.heap_slice 5 (Kd.heap_int .u8)) HR3.out) bB) (fun k_ h_ => by simp only [and_assoc] at h_ ⊢; exact h_)); (case side2 => first | exact Kd.V_mk HC4.out (Kd.F_below (Kd.C_F (Kd.heap_int .u8) HR4.out) bB) | exact Kd.V_mono Kd.V_mk HC4.out (Kd.F_below (Kd.C_F (Kd.heap_int .u8) HR4.out) bB) (fun k_ h_ => by simp only [and_assoc] at h_ ⊢; exact h_)); (case side3 => repeat (first | exact (Kd.C_below HR7.out HB.out) | (with_reducible refine Kd.C_alloc ?_ _) | (with_reducible refine Kd.C_drewN ?_ _) | (with_reducible refine Kd.C_drew ?_))); (case side4 => exact HC7.out); rintro e w54 ⟨v335, rfl, ho0, hb⟩; refine ⟨_, rfl, ?_⟩; have n0_ := Aside0.mk (Kd.R_below (kR HO328.out) hb); have n1_ := Aside0.mk (Kd.R_below (kR HO332.out) hb); have n2_ := Aside0.mk (Kd.V_lower (Kd.V_mono (ok' := fun k_ => some k_ ≠ (v327 : Value).ownBlock ∧ some k_ ≠ (v331 : Value).ownBlock ∧ k_ ≠ gb319) ho0 (fun k_ hk_ => ⟨Or.elim hk_ (fun hs_ => Or.elim hs_ (fun hs_ => fun e_ => Nat.not_le.2 hs_ (Kd.R_base HO328.out k_ e_.symm)) (fun hs_ => fun e_ => Nat.not_le.2 hs_ (Kd.R_base HO328.out k_ e_.symm))) (fun hn_ => (Kd.fresh' (Kd.R_lt (kR HO328.out)) k_ hn_)), Or.elim hk_ (fun hs_ => Or.elim hs_ (fun hs_ => fun e_ => Nat.not_le.2 hs_ (Kd.R_base HO332.out k_ e_.symm)) (fun hs_ => fun e_ => Nat.not_le.2 hs_ (Kd.R_base HO332.out k_ e_.symm))) (fun hn_ => (Kd.fresh' (Kd.R_lt (kR HO332.out)) k_ hn_)), Or.elim hk_ (fun hs_ => Or.elim hs_ (fun hs_ => fun e_ => Nat.not_le.2 hs_ (by rw [e_]; exact GW319.out)) (fun hs_ => fun e_ => Nat.not_le.2 hs_ (by rw [e_]; exact GW319.out))) (fun hn_ => (Kd.freshB (g := gb319) (o := .cells #[.int .i64 a0_0, .int .i64 a0_1, .int .i64 a0_2, .int .u64 a0_3, .int .u64 a0_4, .int .u64 a0_5] 24 (0, 0)) (kB BK319.out) k_ hn_))⟩)) (below_size bB)); have n3_ := Aside0.mk (blk_below (g := gb319) (o := .cells #[.int .i64 a0_0, .int .i64 a0_1, .int .i64 a0_2, .int .u64 a0_3, .int .u64 a0_4, .int .u64 a0_5] 24 (0, 0)) (kB BK319.out) hb); have n4_ := Aside0.mk (below_step bB hb); clear HO328; clear HO332; clear BK319; clear HB; have HO328 := n0_; have HO332 := n1_; have HO336 := n2_; have BK319 := n3_; have HB := n4_; clear n0_ n1_ n2_ n3_ n4_; (try clear hb); (try clear hb2); (try clear hk); (try clear hi); (try clear ho0)) | (go_at_call 15; (with_reducible refine (spec_SameText.calls _ _ l4 _ _ l6 true _ ?side1 ?side2 ?side3 ?side4 A46.out).mono ?_); (case side1 => repeat (first | exact (Kd.C_below HR4.out HB.out) | (with_reducible refine Kd.C_alloc ?_ _) | (with_reducible refine Kd.C_drewN ?_ _) | (with_reducible refine Kd.C_drew ?_))); (case side2 => exact HC4.out); (case side3 => repeat (first | exact (Kd.C_below HR6.out HB.out) | (with_reducible refine Kd.C_alloc ?_ _) | (with_reducible refine Kd.C_drewN ?_ _) | (with_reducible refine Kd.C_drew ?_))); (case side4 => exact HC6.out); rintro e w' ⟨rfl, ⟨nd, rfl⟩⟩) | (go_at_call 17; (with_reducible refine (spec_Same.calls kj17 _ _ l3 _ _ l5 t338 _ ?side1 ?side2 ?side3 ?side4 A48.out).mono ?_); (case side1 => repeat (first | exact (Kd.C_below HR3.out bB) | (with_reducible refine Kd.C_alloc ?_ _) | (with_reducible refine Kd.C_drewN ?_ _) | (with_reducible refine Kd.C_drew ?_))); (case side2 => exact HC3.out); (case side3 => repeat (first | exact (Kd.C_below HR5.out bB) | (with_reducible refine Kd.C_alloc ?_ _) | (with_reducible refine Kd.C_drewN ?_ _) | (with_reducible refine Kd.C_drew ?_))); (case side4 => exact HC5.out); rintro e w' ⟨rfl, ⟨nd, rfl⟩⟩))
           go_ret
           exact ⟨by first | rfl | (simp [errW_none, errW_some] <;> rfl) | (simp [*, errW_none, errW_some] <;> rfl), bB⟩
          ·replace c47 := Bool.eq_false_iff.mpr c47
           subst c47
           have H1 : (some false) = some r := by rw [if_neg (show ¬ (false = true) by decide)] at H; exact H
           clear H
           have H := H1
           clear H1
           obtain rfl := Option.some.inj H
           have hcz55_0 : wc.cell? ⟨gb319, 0, none⟩ = some (.int .i64 a0_0) := (blk_cell BK319.out 0).trans rfl
           have hcz55_1 : wc.cell? ⟨gb319, 1, none⟩ = some (.int .i64 a0_1) := (blk_cell BK319.out 1).trans rfl
           have hcz55_2 : wc.cell? ⟨gb319, 2, none⟩ = some (.int .i64 a0_2) := (blk_cell BK319.out 2).trans rfl
           have hcz55_3 : wc.cell? ⟨gb319, 3, none⟩ = some (.int .u64 a0_3) := (blk_cell BK319.out 3).trans rfl
           have hcz55_4 : wc.cell? ⟨gb319, 4, none⟩ = some (.int .u64 a0_4) := (blk_cell BK319.out 4).trans rfl
           have hcz55_5 : wc.cell? ⟨gb319, 5, none⟩ = some (.int .u64 a0_5) := (blk_cell BK319.out 5).trans rfl
           have hfz55_0 := blk_frozen BK319.out 0
           have hfz55_1 := blk_frozen BK319.out 1
           have hfz55_2 := blk_frozen BK319.out 2
           have hfz55_3 := blk_frozen BK319.out 3
           have hfz55_4 := blk_frozen BK319.out 4
           have hfz55_5 := blk_frozen BK319.out 5
           go_wp2_with (first | ((with_reducible refine gate_callee (f := 18) rfl ?_); refine goesL_ (some 80) rfl rfl Tryd.func18 (by kernel_rfl) rfl #[.agg #[.int .i64 a0_0, .int .i64 a0_1, .int .i64 a0_2, .int .u64 a0_3, .int .u64 a0_4, .int .u64 a0_5], .int .u64 a1, .int .u64 a2, .slice A3 l3.length c3, .slice A4 l4.length c4, .slice A7 l7.length c7] rfl aV ?_; (with_reducible refine (impl_VerifyConsistency.calls kj17 a0_0 a0_1 a0_2 a0_3 a0_4 a0_5 a1 a2 _ _ l3 _ _ l4 _ _ l7 t325 t326 _ ?side1 ?side2 ?side3 ?side4 ?side5 ?side6 ?side7 A40.out).mono ?_); (case side1 => exact TabOK.below HT.out bB); (case side2 => repeat (first | exact (Kd.C_below HR3.out HB.out) | (with_reducible refine Kd.C_alloc ?_ _) | (with_reducible refine Kd.C_drewN ?_ _) | (with_reducible refine Kd.C_drew ?_))); (case side3 => exact HC3.out); (case side4 => repeat (first | exact (Kd.C_below HR4.out HB.out) | (with_reducible refine Kd.C_alloc ?_ _) | (with_reducible refine Kd.C_drewN ?_ _) | (with_reducible refine Kd.C_drew ?_))); (case side5 => exact HC4.out); (case side6 => repeat (first | exact (Kd.C_below HR7.out HB.out) | (with_reducible refine Kd.C_alloc ?_ _) | (with_reducible refine Kd.C_drewN ?_ _) | (with_reducible refine Kd.C_drew ?_))); (case side7 => exact HC7.out); rintro e w56 ⟨v327, rfl, ho0, hb⟩; refine ⟨_, rfl, ?_⟩; have n0_ := Aside0.mk (Kd.R_lower ho0 (below_size bB)); have n1_ := Aside0.mk (blk_below (g := gb319) (o := .cells #[.int .i64 a0_0, .int .i64 a0_1, .int .i64 a0_2, .int .u64 a0_3, .int .u64 a0_4, .int .u64 a0_5] 24 (0, 0)) (kB BK319.out) hb); have n2_ := Aside0.mk (below_step bB hb); clear BK319; clear HB; have HO328 := n0_; have BK319 := n1_; have HB := n2_; clear n0_ n1_ n2_; (try clear hb); (try clear hb2); (try clear hk); (try clear hi); (try clear ho0); have hcz57_0 : w56.cell? ⟨gb319, 0, none⟩ = some (.int .i64 a0_0) := (blk_cell BK319.out 0).trans rfl; have hcz57_1 : w56.cell? ⟨gb319, 1, none⟩ = some (.int .i64 a0_1) := (blk_cell BK319.out 1).trans rfl; have hcz57_2 : w56.cell? ⟨gb319, 2, none⟩ = some (.int .i64 a0_2) := (blk_cell BK319.out 2).trans rfl; have hcz57_3 : w56.cell? ⟨gb319, 3, none⟩ = some (.int .u64 a0_3) := (blk_cell BK319.out 3).trans rfl; have hcz57_4 : w56.cell? ⟨gb319, 4, none⟩ = some (.int .u64 a0_4) := (blk_cell BK319.out 4).trans rfl; have hcz57_5 : w56.cell? ⟨gb319, 5, none⟩ = some (.int .u64 a0_5) := (blk_cell BK319.out 5).trans rfl; have hfz57_0 := blk_frozen BK319.out 0; have hfz57_1 := blk_frozen BK319.out 1; have hfz57_2 := blk_frozen BK319.out 2; have hfz57_3 := blk_frozen BK319.out 3; have hfz57_4 := blk_frozen BK319.out 4; have hfz57_5 := blk_frozen BK319.out 5) | ((with_reducible refine gate_callee (f := 18) rfl ?_); refine goesL_ (some 90) rfl rfl Tryd.func18 (by kernel_rfl) rfl #[.agg #[.int .i64 a0_0, .int .i64 a0_1, .int .i64 a0_2, .int .u64 a0_3, .int .u64 a0_4, .int .u64 a0_5], .int .u64 a1, .int .u64 a2, .slice A5 l5.length c5, .slice A6 l6.length c6, .slice A7 l7.length c7] rfl aV ?_; (with_reducible refine (impl_VerifyConsistency.calls kj17 a0_0 a0_1 a0_2 a0_3 a0_4 a0_5 a1 a2 _ _ l5 _ _ l6 _ _ l7 t329 t330 _ ?side1 ?side2 ?side3 ?side4 ?side5 ?side6 ?side7 A41.out).mono ?_); (case side1 => exact TabOK.below HT.out bB); (case side2 => repeat (first | exact (Kd.C_below HR5.out HB.out) | (with_reducible refine Kd.C_alloc ?_ _) | (with_reducible refine Kd.C_drewN ?_ _) | (with_reducible refine Kd.C_drew ?_))); (case side3 => exact HC5.out); (case side4 => repeat (first | exact (Kd.C_below HR6.out HB.out) | (with_reducible refine Kd.C_alloc ?_ _) | (with_reducible refine Kd.C_drewN ?_ _) | (with_reducible refine Kd.C_drew ?_))); (case side5 => exact HC6.out); (case side6 => repeat (first | exact (Kd.C_below HR7.out HB.out) | (with_reducible refine Kd.C_alloc ?_ _) | (with_reducible refine Kd.C_drewN ?_ _) | (with_reducible refine Kd.C_drew ?_))); (case side7 => exact HC7.out); rintro e w58 ⟨v331, rfl, ho0, hb⟩; refine ⟨_, rfl, ?_⟩; have n0_ := Aside0.mk (Kd.R_elder' (kR HO328.out) (Kd.R_base ho0) hb); have n1_ := Aside0.mk (Kd.R_lower (Kd.R_new' ho0 (Kd.R_lt (kR HO328.out))) (below_size bB)); have n2_ := Aside0.mk (blk_below (g := gb319) (o := .cells #[.int .i64 a0_0, .int .i64 a0_1, .int .i64 a0_2, .int .u64 a0_3, .int .u64 a0_4, .int .u64 a0_5] 24 (0, 0)) (kB BK319.out) hb); have n3_ := Aside0.mk (below_step bB hb); clear HO328; clear BK319; clear HB; have HO328 := n0_; have HO332 := n1_; have BK319 := n2_; have HB := n3_; clear n0_ n1_ n2_ n3_; (try clear hb); (try clear hb2); (try clear hk); (try clear hi); (try clear ho0); have hcz59_0 : w58.cell? ⟨gb319, 0, none⟩ = some (.int .i64 a0_0) := (blk_cell BK319.out 0).trans rfl; have hcz59_1 : w58.cell? ⟨gb319, 1, none⟩ = some (.int .i64 a0_1) := (blk_cell BK319.out 1).trans rfl; have hcz59_2 : w58.cell? ⟨gb319, 2, none⟩ = some (.int .i64 a0_2) := (blk_cell BK319.out 2).trans rfl; have hcz59_3 : w58.cell? ⟨gb319, 3, none⟩ = some (.int .u64 a0_3) := (blk_cell BK319.out 3).trans rfl; have hcz59_4 : w58.cell? ⟨gb319, 4, none⟩ = some (.int .u64 a0_4) := (blk_cell BK319.out 4).trans rfl; have hcz59_5 : w58.cell? ⟨gb319, 5, none⟩ = some (.int .u64 a0_5) := (blk_cell BK319.out 5).trans rfl; have hfz59_0 := blk_frozen BK319.out 0; have hfz59_1 := blk_frozen BK319.out 1; have hfz59_2 := blk_frozen BK319.out 2; have hfz59_3 := blk_frozen BK319.out 3; have hfz59_4 := blk_frozen BK319.out 4; have hfz59_5 := blk_frozen BK319.out 5) | ((with_reducible refine gate_callee (f := 19) rfl ?_); refine goesL_ (some 100) rfl rfl Tryd.func19 (by kernel_rfl) rfl #[.agg #[.int .i64 a0_0, .int .i64 a0_1, .int .i64 a0_2, .int .u64 a0_3, .int .u64 a0_4, .int .u64 a0_5], .int .u64 a1, .int .u64 a2, .slice A3 l3.length c3, .slice A4 l4.length c4, .slice A7 l7.length c7] rfl aV ?_; (with_reducible refine (spec_VerifiedConsistency.calls kj17 a0_0 a0_1 a0_2 a0_3 a0_4 a0_5 a1 a2 (fun k_ => k_ < w.heap.size) _ _ l3 (fun k_ => k_ < w.heap.size) _ _ l4 _ _ l7 t333 t334 _ ?side1 ?side2 ?side3 ?side4 A42.out).mono ?_); (case side1 => first | exact Kd.V_mk HC3.out (Kd.F_below (Kd.C_F (Kd.heap_slice 5 (Kd.heap_int .u8)) HR3.out) bB) | exact Kd.V_mono Kd.V_mk HC3.out (Kd.F_below (Kd.C_F (Kd.heap_slice 5 (Kd.heap_int .u8)) HR3.out) bB) (fun k_ h_ => by simp only [and_assoc] at h_ ⊢; exact h_)); (case side2 => first | exact Kd.V_mk HC4.out (Kd.F_below (Kd.C_F (Kd.heap_int .u8) HR4.out) bB) | exact Kd.V_mono Kd.V_mk HC4.out (Kd.F_below (Kd.C_F (Kd.heap_int .u8) HR4.out) bB) (fun k_ h_ => by simp only [and_assoc] at h_ ⊢; exact h_)); (case side3 => repeat (first | exact (Kd.C_below HR7.out HB.out) | (with_reducible refine Kd.C_alloc ?_ _) | (with_reducible refine Kd.C_drewN ?_ _) | (with_reducible refine Kd.C_drew ?_))); (case side4 => exact HC7.out); rintro e w60 ⟨v335, rfl, ho0, hb⟩; refine ⟨_, rfl, ?_⟩; have n0_ := Aside0.mk (Kd.R_below (kR HO328.out) hb); have n1_ := Aside0.mk (Kd.R_below (kR HO332.out) hb); have n2_ := Aside0.mk (Kd.V_lower (Kd.V_mono (ok' := fun k_ => some k_ ≠ (v327 : Value).ownBlock ∧ some k_ ≠ (v331 : Value).ownBlock ∧ k_ ≠ gb319) ho0 (fun k_ hk_ => ⟨Or.elim hk_ (fun hs_ => Or.elim hs_ (fun hs_ => fun e_ => Nat.not_le.2 hs_ (Kd.R_base HO328.out k_ e_.symm)) (fun hs_ => fun e_ => Nat.not_le.2 hs_ (Kd.R_base HO328.out k_ e_.symm))) (fun hn_ => (Kd.fresh' (Kd.R_lt (kR HO328.out)) k_ hn_)), Or.elim hk_ (fun hs_ => Or.elim hs_ (fun hs_ => fun e_ => Nat.not_le.2 hs_ (Kd.R_base HO332.out k_ e_.symm)) (fun hs_ => fun e_ => Nat.not_le.2 hs_ (Kd.R_base HO332.out k_ e_.symm))) (fun hn_ => (Kd.fresh' (Kd.R_lt (kR HO332.out)) k_ hn_)), Or.elim hk_ (fun hs_ => Or.elim hs_ (fun hs_ => fun e_ => Nat.not_le.2 hs_ (by rw [e_]; exact GW319.out)) (fun hs_ => fun e_ => Nat.not_le.2 hs_ (by rw [e_]; exact GW319.out))) (fun hn_ => (Kd.freshB (g := gb319) (o := .cells #[.int .i64 a0_0, .int .i64 a0_1, .int .i64 a0_2, .int .u64 a0_3, .int .u64 a0_4, .int .u64 a0_5] 24 (0, 0)) (kB BK319.out) k_ hn_))⟩)) (below_size bB)); have n3_ := Aside0.mk (blk_below (g := gb319) (o := .cells #[.int .i64 a0_0, .int .i64 a0_1, .int .i64 a0_2, .int .u64 a0_3, .int .u64 a0_4, .int .u64 a0_5] 24 (0, 0)) (kB BK319.out) hb); have n4_ := Aside0.mk (below_step bB hb); clear HO328; clear HO332; clear BK319; clear HB; have HO328 := n0_; have HO332 := n1_; have HO336 := n2_; have BK319 := n3_; have HB := n4_; clear n0_ n1_ n2_ n3_ n4_; (try clear hb); (try clear hb2); (try clear hk); (try clear hi); (try clear ho0)) | (go_at_call 15; (with_reducible refine (spec_SameText.calls _ _ l4 _ _ l6 false _ ?side1 ?side2 ?side3 ?side4 A46.out).mono ?_); (case side1 => repeat (first | exact (Kd.C_below HR4.out HB.out) | (with_reducible refine Kd.C_alloc ?_ _) | (with_reducible refine Kd.C_drewN ?_ _) | (with_reducible refine Kd.C_drew ?_))); (case side2 => exact HC4.out); (case side3 => repeat (first | exact (Kd.C_below HR6.out HB.out) | (with_reducible refine Kd.C_alloc ?_ _) | (with_reducible refine Kd.C_drewN ?_ _) | (with_reducible refine Kd.C_drew ?_))); (case side4 => exact HC6.out); rintro e w' ⟨rfl, ⟨nd, rfl⟩⟩))
           go_ret
           exact ⟨by first | rfl | (simp [errW_none, errW_some] <;> rfl) | (simp [*, errW_none, errW_some] <;> rfl), bB⟩
         ·rw [if_neg c45] at H
          have c45b0 : (t329 == 0) = false := beq_eq_false_iff_ne.mpr c45
          have c45b1 : (t329 != 0) = true := bne_iff_ne.mpr c45
          obtain rfl := Option.some.inj H
          have hcz61_0 : wc.cell? ⟨gb319, 0, none⟩ = some (.int .i64 a0_0) := (blk_cell BK319.out 0).trans rfl
          have hcz61_1 : wc.cell? ⟨gb319, 1, none⟩ = some (.int .i64 a0_1) := (blk_cell BK319.out 1).trans rfl
          have hcz61_2 : wc.cell? ⟨gb319, 2, none⟩ = some (.int .i64 a0_2) := (blk_cell BK319.out 2).trans rfl
          have hcz61_3 : wc.cell? ⟨gb319, 3, none⟩ = some (.int .u64 a0_3) := (blk_cell BK319.out 3).trans rfl
          have hcz61_4 : wc.cell? ⟨gb319, 4, none⟩ = some (.int .u64 a0_4) := (blk_cell BK319.out 4).trans rfl
          have hcz61_5 : wc.cell? ⟨gb319, 5, none⟩ = some (.int .u64 a0_5) := (blk_cell BK319.out 5).trans rfl
          have hfz61_0 := blk_frozen BK319.out 0
          have hfz61_1 := blk_frozen BK319.out 1
          have hfz61_2 := blk_frozen BK319.out 2
          have hfz61_3 := blk_frozen BK319.out 3
          have hfz61_4 := blk_frozen BK319.out 4
          have hfz61_5 := blk_frozen BK319.out 5
          go_wp2_with (first | ((with_reducible refine gate_callee (f := 18) rfl ?_); refine goesL_ (some 80) rfl rfl Tryd.func18 (by kernel_rfl) rfl #[.agg #[.int .i64 a0_0, .int .i64 a0_1, .int .i64 a0_2, .int .u64 a0_3, .int .u64 a0_4, .int .u64 a0_5], .int .u64 a1, .int .u64 a2, .slice A3 l3.length c3, .slice A4 l4.length c4, .slice A7 l7.length c7] rfl aV ?_; (with_reducible refine (impl_VerifyConsistency.calls kj17 a0_0 a0_1 a0_2 a0_3 a0_4 a0_5 a1 a2 _ _ l3 _ _ l4 _ _ l7 t325 t326 _ ?side1 ?side2 ?side3 ?side4 ?side5 ?side6 ?side7 A40.out).mono ?_); (case side1 => exact TabOK.below HT.out bB); (case side2 => repeat (first | exact (Kd.C_below HR3.out HB.out) | (with_reducible refine Kd.C_alloc ?_ _) | (with_reducible refine Kd.C_drewN ?_ _) | (with_reducible refine Kd.C_drew ?_))); (case side3 => exact HC3.out); (case side4 => repeat (first | exact (Kd.C_below HR4.out HB.out) | (with_reducible refine Kd.C_alloc ?_ _) | (with_reducible refine Kd.C_drewN ?_ _) | (with_reducible refine Kd.C_drew ?_))); (case side5 => exact HC4.out); (case side6 => repeat (first | exact (Kd.C_below HR7.out HB.out) | (with_reducible refine Kd.C_alloc ?_ _) | (with_reducible refine Kd.C_drewN ?_ _) | (with_reducible refine Kd.C_drew ?_))); (case side7 => exact HC7.out); rintro e w62 ⟨v327, rfl, ho0, hb⟩; refine ⟨_, rfl, ?_⟩; have n0_ := Aside0.mk (Kd.R_lower ho0 (below_size bB)); have n1_ := Aside0.mk (blk_below (g := gb319) (o := .cells #[.int .i64 a0_0, .int .i64 a0_1, .int .i64 a0_2, .int .u64 a0_3, .int .u64 a0_4, .int .u64 a0_5] 24 (0, 0)) (kB BK319.out) hb); have n2_ := Aside0.mk (below_step bB hb); clear BK319; clear HB; have HO328 := n0_; have BK319 := n1_; have HB := n2_; clear n0_ n1_ n2_; (try clear hb); (try clear hb2); (try clear hk); (try clear hi); (try clear ho0); have hcz63_0 : w62.cell? ⟨gb319, 0, none⟩ = some (.int .i64 a0_0) := (blk_cell BK319.out 0).trans rfl; have hcz63_1 : w62.cell? ⟨gb319, 1, none⟩ = some (.int .i64 a0_1) := (blk_cell BK319.out 1).trans rfl; have hcz63_2 : w62.cell? ⟨gb319, 2, none⟩ = some (.int .i64 a0_2) := (blk_cell BK319.out 2).trans rfl; have hcz63_3 : w62.cell? ⟨gb319, 3, none⟩ = some (.int .u64 a0_3) := (blk_cell BK319.out 3).trans rfl; have hcz63_4 : w62.cell? ⟨gb319, 4, none⟩ = some (.int .u64 a0_4) := (blk_cell BK319.out 4).trans rfl; have hcz63_5 : w62.cell? ⟨gb319, 5, none⟩ = some (.int .u64 a0_5) := (blk_cell BK319.out 5).trans rfl; have hfz63_0 := blk_frozen BK319.out 0; have hfz63_1 := blk_frozen BK319.out 1; have hfz63_2 := blk_frozen BK319.out 2; have hfz63_3 := blk_frozen BK319.out 3; have hfz63_4 := blk_frozen BK319.out 4; have hfz63_5 := blk_frozen BK319.out 5) | ((with_reducible refine gate_callee (f := 18) rfl ?_); refine goesL_ (some 90) rfl rfl Tryd.func18 (by kernel_rfl) rfl #[.agg #[.int .i64 a0_0, .int .i64 a0_1, .int .i64 a0_2, .int .u64 a0_3, .int .u64 a0_4, .int .u64 a0_5], .int .u64 a1, .int .u64 a2, .slice A5 l5.length c5, .slice A6 l6.length c6, .slice A7 l7.length c7] rfl aV ?_; (with_reducible refine (impl_VerifyConsistency.calls kj17 a0_0 a0_1 a0_2 a0_3 a0_4 a0_5 a1 a2 _ _ l5 _ _ l6 _ _ l7 t329 t330 _ ?side1 ?side2 ?side3 ?side4 ?side5 ?side6 ?side7 A41.out).mono ?_); (case side1 => exact TabOK.below HT.out bB); (case side2 => repeat (first | exact (Kd.C_below HR5.out HB.out) | (with_reducible refine Kd.C_alloc ?_ _) | (with_reducible refine Kd.C_drewN ?_ _) | (with_reducible refine Kd.C_drew ?_))); (case side3 => exact HC5.out); (case side4 => repeat (first | exact (Kd.C_below HR6.out HB.out) | (with_reducible refine Kd.C_alloc ?_ _) | (with_reducible refine Kd.C_drewN ?_ _) | (with_reducible refine Kd.C_drew ?_))); (case side5 => exact HC6.out); (case side6 => repeat (first | exact (Kd.C_below HR7.out HB.out) | (with_reducible refine Kd.C_alloc ?_ _) | (with_reducible refine Kd.C_drewN ?_ _) | (with_reducible refine Kd.C_drew ?_))); (case side7 => exact HC7.out); rintro e w64 ⟨v331, rfl, ho0, hb⟩; refine ⟨_, rfl, ?_⟩; have n0_ := Aside0.mk (Kd.R_elder' (kR HO328.out) (Kd.R_base ho0) hb); have n1_ := Aside0.mk (Kd.R_lower (Kd.R_new' ho0 (Kd.R_lt (kR HO328.out))) (below_size bB)); have n2_ := Aside0.mk (blk_below (g := gb319) (o := .cells #[.int .i64 a0_0, .int .i64 a0_1, .int .i64 a0_2, .int .u64 a0_3, .int .u64 a0_4, .int .u64 a0_5] 24 (0, 0)) (kB BK319.out) hb); have n3_ := Aside0.mk (below_step bB hb); clear HO328; clear BK319; clear HB; have HO328 := n0_; have HO332 := n1_; have BK319 := n2_; have HB := n3_; clear n0_ n1_ n2_ n3_; (try clear hb); (try clear hb2); (try clear hk); (try clear hi); (try clear ho0); have hcz65_0 : w64.cell? ⟨gb319, 0, none⟩ = some (.int .i64 a0_0) := (blk_cell BK319.out 0).trans rfl; have hcz65_1 : w64.cell? ⟨gb319, 1, none⟩ = some (.int .i64 a0_1) := (blk_cell BK319.out 1).trans rfl; have hcz65_2 : w64.cell? ⟨gb319, 2, none⟩ = some (.int .i64 a0_2) := (blk_cell BK319.out 2).trans rfl; have hcz65_3 : w64.cell? ⟨gb319, 3, none⟩ = some (.int .u64 a0_3) := (blk_cell BK319.out 3).trans rfl; have hcz65_4 : w64.cell? ⟨gb319, 4, none⟩ = some (.int .u64 a0_4) := (blk_cell BK319.out 4).trans rfl; have hcz65_5 : w64.cell? ⟨gb319, 5, none⟩ = some (.int .u64 a0_5) := (blk_cell BK319.out 5).trans rfl; have hfz65_0 := blk_frozen BK319.out 0; have hfz65_1 := blk_frozen BK319.out 1; have hfz65_2 := blk_frozen BK319.out 2; have hfz65_3 := blk_frozen BK319.out 3; have hfz65_4 := blk_frozen BK319.out 4; have hfz65_5 := blk_frozen BK319.out 5) | ((with_reducible refine gate_callee (f := 19) rfl ?_); refine goesL_ (some 100) rfl rfl Tryd.func19 (by kernel_rfl) rfl #[.agg #[.int .i64 a0_0, .int .i64 a0_1, .int .i64 a0_2, .int .u64 a0_3, .int .u64 a0_4, .int .u64 a0_5], .int .u64 a1, .int .u64 a2, .slice A3 l3.length c3, .slice A4 l4.length c4, .slice A7 l7.length c7] rfl aV ?_; (with_reducible refine (spec_VerifiedConsistency.calls kj17 a0_0 a0_1 a0_2 a0_3 a0_4 a0_5 a1 a2 (fun k_ => k_ < w.heap.size) _ _ l3 (fun k_ => k_ < w.heap.size) _ _ l4 _ _ l7 t333 t334 _ ?side1 ?side2 ?side3 ?side4 A42.out).mono ?_); (case side1 => first | exact Kd.V_mk HC3.out (Kd.F_below (Kd.C_F (Kd.heap_slice 5 (Kd.heap_int .u8)) HR3.out) bB) | exact Kd.V_mono Kd.V_mk HC3.out (Kd.F_below (Kd.C_F (Kd.heap_slice 5 (Kd.heap_int .u8)) HR3.out) bB) (fun k_ h_ => by simp only [and_assoc] at h_ ⊢; exact h_)); (case side2 => first | exact Kd.V_mk HC4.out (Kd.F_below (Kd.C_F (Kd.heap_int .u8) HR4.out) bB) | exact Kd.V_mono Kd.V_mk HC4.out (Kd.F_below (Kd.C_F (Kd.heap_int .u8) HR4.out) bB) (fun k_ h_ => by simp only [and_assoc] at h_ ⊢; exact h_)); (case side3 => repeat (first | exact (Kd.C_below HR7.out HB.out) | (with_reducible refine Kd.C_alloc ?_ _) | (with_reducible refine Kd.C_drewN ?_ _) | (with_reducible refine Kd.C_drew ?_))); (case side4 => exact HC7.out); rintro e w66 ⟨v335, rfl, ho0, hb⟩; refine ⟨_, rfl, ?_⟩; have n0_ := Aside0.mk (Kd.R_below (kR HO328.out) hb); have n1_ := Aside0.mk (Kd.R_below (kR HO332.out) hb); have n2_ := Aside0.mk (Kd.V_lower (Kd.V_mono (ok' := fun k_ => some k_ ≠ (v327 : Value).ownBlock ∧ some k_ ≠ (v331 : Value).ownBlock ∧ k_ ≠ gb319) ho0 (fun k_ hk_ => ⟨Or.elim hk_ (fun hs_ => Or.elim hs_ (fun hs_ => fun e_ => Nat.not_le.2 hs_ (Kd.R_base HO328.out k_ e_.symm)) (fun hs_ => fun e_ => Nat.not_le.2 hs_ (Kd.R_base HO328.out k_ e_.symm))) (fun hn_ => (Kd.fresh' (Kd.R_lt (kR HO328.out)) k_ hn_)), Or.elim hk_ (fun hs_ => Or.elim hs_ (fun hs_ => fun e_ => Nat.not_le.2 hs_ (Kd.R_base HO332.out k_ e_.symm)) (fun hs_ => fun e_ => Nat.not_le.2 hs_ (Kd.R_base HO332.out k_ e_.symm))) (fun hn_ => (Kd.fresh' (Kd.R_lt (kR HO332.out)) k_ hn_)), Or.elim hk_ (fun hs_ => Or.elim hs_ (fun hs_ => fun e_ => Nat.not_le.2 hs_ (by rw [e_]; exact GW319.out)) (fun hs_ => fun e_ => Nat.not_le.2 hs_ (by rw [e_]; exact GW319.out))) (fun hn_ => (Kd.freshB (g := gb319) (o := .cells #[.int .i64 a0_0, .int .i64 a0_1, .int .i64 a0_2, .int .u64 a0_3, .int .u64 a0_4, .int .u64 a0_5] 24 (0, 0)) (kB BK319.out) k_ hn_))⟩)) (below_size bB)); have n3_ := Aside0.mk (blk_below (g := gb319) (o := .cells #[.int .i64 a0_0, .int .i64 a0_1, .int .i64 a0_2, .int .u64 a0_3, .int .u64 a0_4, .int .u64 a0_5] 24 (0, 0)) (kB BK319.out) hb); have n4_ := Aside0.mk (below_step bB hb); clear HO328; clear HO332; clear BK319; clear HB; have HO328 := n0_; have HO332 := n1_; have HO336 := n2_; have BK319 := n3_; have HB := n4_; clear n0_ n1_ n2_ n3_ n4_; (try clear hb); (try clear hb2); (try clear hk); (try clear hi); (try clear ho0)))
          go_ret
          exact ⟨by first | rfl | (simp [errW_none, errW_some] <;> rfl) | (simp [*, errW_none, errW_some] <;> rfl), bB⟩
        ·rw [if_neg c44] at H
         have c44b0 : (t325 == 0) = false := beq_eq_false_iff_ne.mpr c44
         have c44b1 : (t325 != 0) = true := bne_iff_ne.mpr c44
         obtain rfl := Option.some.inj H
         have hcz67_0 : wc.cell? ⟨gb319, 0, none⟩ = some (.int .i64 a0_0) := (blk_cell BK319.out 0).trans rfl
         have hcz67_1 : wc.cell? ⟨gb319, 1, none⟩ = some (.int .i64 a0_1) := (blk_cell BK319.out 1).trans rfl
         have hcz67_2 : wc.cell? ⟨gb319, 2, none⟩ = some (.int .i64 a0_2) := (blk_cell BK319.out 2).trans rfl
         have hcz67_3 : wc.cell? ⟨gb319, 3, none⟩ = some (.int .u64 a0_3) := (blk_cell BK319.out 3).trans rfl
         have hcz67_4 : wc.cell? ⟨gb319, 4, none⟩ = some (.int .u64 a0_4) := (blk_cell BK319.out 4).trans rfl
         have hcz67_5 : wc.cell? ⟨gb319, 5, none⟩ = some (.int .u64 a0_5) := (blk_cell BK319.out 5).trans rfl
         have hfz67_0 := blk_frozen BK319.out 0
         have hfz67_1 := blk_frozen BK319.out 1
         have hfz67_2 := blk_frozen BK319.out 2
         have hfz67_3 := blk_frozen BK319.out 3
         have hfz67_4 := blk_frozen BK319.out 4
         have hfz67_5 := blk_frozen BK319.out 5
         go_wp2_with (first | ((with_reducible refine gate_callee (f := 18) rfl ?_); refine goesL_ (some 80) rfl rfl Tryd.func18 (by kernel_rfl) rfl #[.agg #[.int .i64 a0_0, .int .i64 a0_1, .int .i64 a0_2, .int .u64 a0_3, .int .u64 a0_4, .int .u64 a0_5], .int .u64 a1, .int .u64 a2, .slice A3 l3.length c3, .slice A4 l4.length c4, .slice A7 l7.length c7] rfl aV ?_; (with_reducible refine (impl_VerifyConsistency.calls kj17 a0_0 a0_1 a0_2 a0_3 a0_4 a0_5 a1 a2 _ _ l3 _ _ l4 _ _ l7 t325 t326 _ ?side1 ?side2 ?side3 ?side4 ?side5 ?side6 ?side7 A40.out).mono ?_); (case side1 => exact TabOK.below HT.out bB); (case side2 => repeat (first | exact (Kd.C_below HR3.out HB.out) | (with_reducible refine Kd.C_alloc ?_ _) | (with_reducible refine Kd.C_drewN ?_ _) | (with_reducible refine Kd.C_drew ?_))); (case side3 => exact HC3.out); (case side4 => repeat (first | exact (Kd.C_below HR4.out HB.out) | (with_reducible refine Kd.C_alloc ?_ _) | (with_reducible refine Kd.C_drewN ?_ _) | (with_reducible refine Kd.C_drew ?_))); (case side5 => exact HC4.out); (case side6 => repeat (first | exact (Kd.C_below HR7.out HB.out) | (with_reducible refine Kd.C_alloc ?_ _) | (with_reducible refine Kd.C_drewN ?_ _) | (with_reducible refine Kd.C_drew ?_))); (case side7 => exact HC7.out); rintro e w68 ⟨v327, rfl, ho0, hb⟩; refine ⟨_, rfl, ?_⟩; have n0_ := Aside0.mk (Kd.R_lower ho0 (below_size bB)); have n1_ := Aside0.mk (blk_below (g := gb319) (o := .cells #[.int .i64 a0_0, .int .i64 a0_1, .int .i64 a0_2, .int .u64 a0_3, .int .u64 a0_4, .int .u64 a0_5] 24 (0, 0)) (kB BK319.out) hb); have n2_ := Aside0.mk (below_step bB hb); clear BK319; clear HB; have HO328 := n0_; have BK319 := n1_; have HB := n2_; clear n0_ n1_ n2_; (try clear hb); (try clear hb2); (try clear hk); (try clear hi); (try clear ho0); have hcz69_0 : w68.cell? ⟨gb319, 0, none⟩ = some (.int .i64 a0_0) := (blk_cell BK319.out 0).trans rfl; have hcz69_1 : w68.cell? ⟨gb319, 1, none⟩ = some (.int .i64 a0_1) := (blk_cell BK319.out 1).trans rfl; have hcz69_2 : w68.cell? ⟨gb319, 2, none⟩ = some (.int .i64 a0_2) := (blk_cell BK319.out 2).trans rfl; have hcz69_3 : w68.cell? ⟨gb319, 3, none⟩ = some (.int .u64 a0_3) := (blk_cell BK319.out 3).trans rfl; have hcz69_4 : w68.cell? ⟨gb319, 4, none⟩ = some (.int .u64 a0_4) := (blk_cell BK319.out 4).trans rfl; have hcz69_5 : w68.cell? ⟨gb319, 5, none⟩ = some (.int .u64 a0_5) := (blk_cell BK319.out 5).trans rfl; have hfz69_0 := blk_frozen BK319.out 0; have hfz69_1 := blk_frozen BK319.out 1; have hfz69_2 := blk_frozen BK319.out 2; have hfz69_3 := blk_frozen BK319.out 3; have hfz69_4 := blk_frozen BK319.out 4; have hfz69_5 := blk_frozen BK319.out 5) | ((with_reducible refine gate_callee (f := 18) rfl ?_); refine goesL_ (some 90) rfl rfl Tryd.func18 (by kernel_rfl) rfl #[.agg #[.int .i64 a0_0, .int .i64 a0_1, .int .i64 a0_2, .int .u64 a0_3, .int .u64 a0_4, .int .u64 a0_5], .int .u64 a1, .int .u64 a2, .slice A5 l5.length c5, .slice A6 l6.length c6, .slice A7 l7.length c7] rfl aV ?_; (with_reducible refine (impl_VerifyConsistency.calls kj17 a0_0 a0_1 a0_2 a0_3 a0_4 a0_5 a1 a2 _ _ l5 _ _ l6 _ _ l7 t329 t330 _ ?side1 ?side2 ?side3 ?side4 ?side5 ?side6 ?side7 A41.out).mono ?_); (case side1 => exact TabOK.below HT.out bB); (case side2 => repeat (first | exact (Kd.C_below HR5.out HB.out) | (with_reducible refine Kd.C_alloc ?_ _) | (with_reducible refine Kd.C_drewN ?_ _) | (with_reducible refine Kd.C_drew ?_))); (case side3 => exact HC5.out); (case side4 => repeat (first | exact (Kd.C_below HR6.out HB.out) | (with_reducible refine Kd.C_alloc ?_ _) | (with_reducible refine Kd.C_drewN ?_ _) | (with_reducible refine Kd.C_drew ?_))); (case side5 => exact HC6.out); (case side6 => repeat (first | exact (Kd.C_below HR7.out HB.out) | (with_reducible refine Kd.C_alloc ?_ _) | (with_reducible refine Kd.C_drewN ?_ _) | (with_reducible refine Kd.C_drew ?_))); (case side7 => exact HC7.out); rintro e w70 ⟨v331, rfl, ho0, hb⟩; refine ⟨_, rfl, ?_⟩; have n0_ := Aside0.mk (Kd.R_elder' (kR HO328.out) (Kd.R_base ho0) hb); have n1_ := Aside0.mk (Kd.R_lower (Kd.R_new' ho0 (Kd.R_lt (kR HO328.out))) (below_size bB)); have n2_ := Aside0.mk (blk_below (g := gb319) (o := .cells #[.int .i64 a0_0, .int .i64 a0_1, .int .i64 a0_2, .int .u64 a0_3, .int .u64 a0_4, .int .u64 a0_5] 24 (0, 0)) (kB BK319.out) hb); have n3_ := Aside0.mk (below_step bB hb); clear HO328; clear BK319; clear HB; have HO328 := n0_; have HO332 := n1_; have BK319 := n2_; have HB := n3_; clear n0_ n1_ n2_ n3_; (try clear hb); (try clear hb2); (try clear hk); (try clear hi); (try clear ho0); have hcz71_0 : w70.cell? ⟨gb319, 0, none⟩ = some (.int .i64 a0_0) := (blk_cell BK319.out 0).trans rfl; have hcz71_1 : w70.cell? ⟨gb319, 1, none⟩ = some (.int .i64 a0_1) := (blk_cell BK319.out 1).trans rfl; have hcz71_2 : w70.cell? ⟨gb319, 2, none⟩ = some (.int .i64 a0_2) := (blk_cell BK319.out 2).trans rfl; have hcz71_3 : w70.cell? ⟨gb319, 3, none⟩ = some (.int .u64 a0_3) := (blk_cell BK319.out 3).trans rfl; have hcz71_4 : w70.cell? ⟨gb319, 4, none⟩ = some (.int .u64 a0_4) := (blk_cell BK319.out 4).trans rfl; have hcz71_5 : w70.cell? ⟨gb319, 5, none⟩ = some (.int .u64 a0_5) := (blk_cell BK319.out 5).trans rfl; have hfz71_0 := blk_frozen BK319.out 0; have hfz71_1 := blk_frozen BK319.out 1; have hfz71_2 := blk_frozen BK319.out 2; have hfz71_3 := blk_frozen BK319.out 3; have hfz71_4 := blk_frozen BK319.out 4; have hfz71_5 := blk_frozen BK319.out 5) | ((with_reducible refine gate_callee (f := 19) rfl ?_); refine goesL_ (some 100) rfl rfl Tryd.func19 (by kernel_rfl) rfl #[.agg #[.int .i64 a0_0, .int .i64 a0_1, .int .i64 a0_2, .int .u64 a0_3, .int .u64 a0_4, .int .u64 a0_5], .int .u64 a1, .int .u64 a2, .slice A3 l3.length c3, .slice A4 l4.length c4, .slice A7 l7.length c7] rfl aV ?_; (with_reducible refine (spec_VerifiedConsistency.calls kj17 a0_0 a0_1 a0_2 a0_3 a0_4 a0_5 a1 a2 (fun k_ => k_ < w.heap.size) _ _ l3 (fun k_ => k_ < w.heap.size) _ _ l4 _ _ l7 t333 t334 _ ?side1 ?side2 ?side3 ?side4 A42.out).mono ?_); (case side1 => first | exact Kd.V_mk HC3.out (Kd.F_below (Kd.C_F (Kd.heap_slice 5 (Kd.heap_int .u8)) HR3.out) bB) | exact Kd.V_mono Kd.V_mk HC3.out (Kd.F_below (Kd.C_F (Kd.heap_slice 5 (Kd.heap_int .u8)) HR3.out) bB) (fun k_ h_ => by simp only [and_assoc] at h_ ⊢; exact h_)); (case side2 => first | exact Kd.V_mk HC4.out (Kd.F_below (Kd.C_F (Kd.heap_int .u8) HR4.out) bB) | exact Kd.V_mono Kd.V_mk HC4.out (Kd.F_below (Kd.C_F (Kd.heap_int .u8) HR4.out) bB) (fun k_ h_ => by simp only [and_assoc] at h_ ⊢; exact h_)); (case side3 => repeat (first | exact (Kd.C_below HR7.out HB.out) | (with_reducible refine Kd.C_alloc ?_ _) | (with_reducible refine Kd.C_drewN ?_ _) | (with_reducible refine Kd.C_drew ?_))); (case side4 => exact HC7.out); rintro e w72 ⟨v335, rfl, ho0, hb⟩; refine ⟨_, rfl, ?_⟩; have n0_ := Aside0.mk (Kd.R_below (kR HO328.out) hb); have n1_ := Aside0.mk (Kd.R_below (kR HO332.out) hb); have n2_ := Aside0.mk (Kd.V_lower (Kd.V_mono (ok' := fun k_ => some k_ ≠ (v327 : Value).ownBlock ∧ some k_ ≠ (v331 : Value).ownBlock ∧ k_ ≠ gb319) ho0 (fun k_ hk_ => ⟨Or.elim hk_ (fun hs_ => Or.elim hs_ (fun hs_ => fun e_ => Nat.not_le.2 hs_ (Kd.R_base HO328.out k_ e_.symm)) (fun hs_ => fun e_ => Nat.not_le.2 hs_ (Kd.R_base HO328.out k_ e_.symm))) (fun hn_ => (Kd.fresh' (Kd.R_lt (kR HO328.out)) k_ hn_)), Or.elim hk_ (fun hs_ => Or.elim hs_ (fun hs_ => fun e_ => Nat.not_le.2 hs_ (Kd.R_base HO332.out k_ e_.symm)) (fun hs_ => fun e_ => Nat.not_le.2 hs_ (Kd.R_base HO332.out k_ e_.symm))) (fun hn_ => (Kd.fresh' (Kd.R_lt (kR HO332.out)) k_ hn_)), Or.elim hk_ (fun hs_ => Or.elim hs_ (fun hs_ => fun e_ => Nat.not_le.2 hs_ (by rw [e_]; exact GW319.out)) (fun hs_ => fun e_ => Nat.not_le.2 hs_ (by rw [e_]; exact GW319.out))) (fun hn_ => (Kd.freshB (g := gb319) (o := .cells #[.int .i64 a0_0, .int .i64 a0_1, .int .i64 a0_2, .int .u64 a0_3, .int .u64 a0_4, .int .u64 a0_5] 24 (0, 0)) (kB BK319.out) k_ hn_))⟩)) (below_size bB)); have n3_ := Aside0.mk (blk_below (g := gb319) (o := .cells #[.int .i64 a0_0, .int .i64 a0_1, .int .i64 a0_2, .int .u64 a0_3, .int .u64 a0_4, .int .u64 a0_5] 24 (0, 0)) (kB BK319.out) hb); have n4_ := Aside0.mk (below_step bB hb); clear HO328; clear HO332; clear BK319; clear HB; have HO328 := n0_; have HO332 := n1_; have HO336 := n2_; have BK319 := n3_; have HB := n4_; clear n0_ n1_ n2_ n3_ n4_; (try clear hb); (try clear hb2); (try clear hk); (try clear hi); (try clear ho0)))
         go_ret
         exact ⟨by first | rfl | (simp [errW_none, errW_some] <;> rfl) | (simp [*, errW_none, errW_some] <;> rfl), bB⟩
       ·rw [if_neg c43] at H
        have c43b0 : (t325 == t333) = false := beq_eq_false_iff_ne.mpr c43
        have c43b1 : (t325 != t333) = true := bne_iff_ne.mpr c43
        obtain rfl := Option.some.inj H
        have hcz73_0 : wc.cell? ⟨gb319, 0, none⟩ = some (.int .i64 a0_0) := (blk_cell BK319.out 0).trans rfl
        have hcz73_1 : wc.cell? ⟨gb319, 1, none⟩ = some (.int .i64 a0_1) := (blk_cell BK319.out 1).trans rfl
        have hcz73_2 : wc.cell? ⟨gb319, 2, none⟩ = some (.int .i64 a0_2) := (blk_cell BK319.out 2).trans rfl
        have hcz73_3 : wc.cell? ⟨gb319, 3, none⟩ = some (.int .u64 a0_3) := (blk_cell BK319.out 3).trans rfl
        have hcz73_4 : wc.cell? ⟨gb319, 4, none⟩ = some (.int .u64 a0_4) := (blk_cell BK319.out 4).trans rfl
        have hcz73_5 : wc.cell? ⟨gb319, 5, none⟩ = some (.int .u64 a0_5) := (blk_cell BK319.out 5).trans rfl
        have hfz73_0 := blk_frozen BK319.out 0
        have hfz73_1 := blk_frozen BK319.out 1
        have hfz73_2 := blk_frozen BK319.out 2
        have hfz73_3 := blk_frozen BK319.out 3
        have hfz73_4 := blk_frozen BK319.out 4
        have hfz73_5 := blk_frozen BK319.out 5
        go_wp2_with (first | ((with_reducible refine gate_callee (f := 18) rfl ?_); refine goesL_ (some 80) rfl rfl Tryd.func18 (by kernel_rfl) rfl #[.agg #[.int .i64 a0_0, .int .i64 a0_1, .int .i64 a0_2, .int .u64 a0_3, .int .u64 a0_4, .int .u64 a0_5], .int .u64 a1, .int .u64 a2, .slice A3 l3.length c3, .slice A4 l4.length c4, .slice A7 l7.length c7] rfl aV ?_; (with_reducible refine (impl_VerifyConsistency.calls kj17 a0_0 a0_1 a0_2 a0_3 a0_4 a0_5 a1 a2 _ _ l3 _ _ l4 _ _ l7 t325 t326 _ ?side1 ?side2 ?side3 ?side4 ?side5 ?side6 ?side7 A40.out).mono ?_); (case side1 => exact TabOK.below HT.out bB); (case side2 => repeat (first | exact (Kd.C_below HR3.out HB.out) | (with_reducible refine Kd.C_alloc ?_ _) | (with_reducible refine Kd.C_drewN ?_ _) | (with_reducible refine Kd.C_drew ?_))); (case side3 => exact HC3.out); (case side4 => repeat (first | exact (Kd.C_below HR4.out HB.out) | (with_reducible refine Kd.C_alloc ?_ _) | (with_reducible refine Kd.C_drewN ?_ _) | (with_reducible refine Kd.C_drew ?_))); (case side5 => exact HC4.out); (case side6 => repeat (first | exact (Kd.C_below HR7.out HB.out) | (with_reducible refine Kd.C_alloc ?_ _) | (with_reducible refine Kd.C_drewN ?_ _) | (with_reducible refine Kd.C_drew ?_))); (case side7 => exact HC7.out); rintro e w74 ⟨v327, rfl, ho0, hb⟩; refine ⟨_, rfl, ?_⟩; have n0_ := Aside0.mk (Kd.R_lower ho0 (below_size bB)); have n1_ := Aside0.mk (blk_below (g := gb319) (o := .cells #[.int .i64 a0_0, .int .i64 a0_1, .int .i64 a0_2, .int .u64 a0_3, .int .u64 a0_4, .int .u64 a0_5] 24 (0, 0)) (kB BK319.out) hb); have n2_ := Aside0.mk (below_step bB hb); clear BK319; clear HB; have HO328 := n0_; have BK319 := n1_; have HB := n2_; clear n0_ n1_ n2_; (try clear hb); (try clear hb2); (try clear hk); (try clear hi); (try clear ho0); have hcz75_0 : w74.cell? ⟨gb319, 0, none⟩ = some (.int .i64 a0_0) := (blk_cell BK319.out 0).trans rfl; have hcz75_1 : w74.cell? ⟨gb319, 1, none⟩ = some (.int .i64 a0_1) := (blk_cell BK319.out 1).trans rfl; have hcz75_2 : w74.cell? ⟨gb319, 2, none⟩ = some (.int .i64 a0_2) := (blk_cell BK319.out 2).trans rfl; have hcz75_3 : w74.cell? ⟨gb319, 3, none⟩ = some (.int .u64 a0_3) := (blk_cell BK319.out 3).trans rfl; have hcz75_4 : w74.cell? ⟨gb319, 4, none⟩ = some (.int .u64 a0_4) := (blk_cell BK319.out 4).trans rfl; have hcz75_5 : w74.cell? ⟨gb319, 5, none⟩ = some (.int .u64 a0_5) := (blk_cell BK319.out 5).trans rfl; have hfz75_0 := blk_frozen BK319.out 0; have hfz75_1 := blk_frozen BK319.out 1; have hfz75_2 := blk_frozen BK319.out 2; have hfz75_3 := blk_frozen BK319.out 3; have hfz75_4 := blk_frozen BK319.out 4; have hfz75_5 := blk_frozen BK319.out 5) | ((with_reducible refine gate_callee (f := 18) rfl ?_); refine goesL_ (some 90) rfl rfl Tryd.func18 (by kernel_rfl) rfl #[.agg #[.int .i64 a0_0, .int .i64 a0_1, .int .i64 a0_2, .int .u64 a0_3, .int .u64 a0_4, .int .u64 a0_5], .int .u64 a1, .int .u64 a2, .slice A5 l5.length c5, .slice A6 l6.length c6, .slice A7 l7.length c7] rfl aV ?_; (with_reducible refine (impl_VerifyConsistency.calls kj17 a0_0 a0_1 a0_2 a0_3 a0_4 a0_5 a1 a2 _ _ l5 _ _ l6 _ _ l7 t329 t330 _ ?side1 ?side2 ?side3 ?side4 ?side5 ?side6 ?side7 A41.out).mono ?_); (case side1 => exact TabOK.below HT.out bB); (case side2 => repeat (first | exact (Kd.C_below HR5.out HB.out) | (with_reducible refine Kd.C_alloc ?_ _) | (with_reducible refine Kd.C_drewN ?_ _) | (with_reducible refine Kd.C_drew ?_))); (case side3 => exact HC5.out); (case side4 => repeat (first | exact (Kd.C_below HR6.out HB.out) | (with_reducible refine Kd.C_alloc ?_ _) | (with_reducible refine Kd.C_drewN ?_ _) | (with_reducible refine Kd.C_drew ?_))); (case side5 => exact HC6.out); (case side6 => repeat (first | exact (Kd.C_below HR7.out HB.out) | (with_reducible refine Kd.C_alloc ?_ _) | (with_reducible refine Kd.C_drewN ?_ _) | (with_reducible refine Kd.C_drew ?_))); (case side7 => exact HC7.out); rintro e w76 ⟨v331, rfl, ho0, hb⟩; refine ⟨_, rfl, ?_⟩; have n0_ := Aside0.mk (Kd.R_elder' (kR HO328.out) (Kd.R_base ho0) hb); have n1_ := Aside0.mk (Kd.R_lower (Kd.R_new' ho0 (Kd.R_lt (kR HO328.out))) (below_size bB)); have n2_ := Aside0.mk (blk_below (g := gb319) (o := .cells #[.int .i64 a0_0, .int .i64 a0_1, .int .i64 a0_2, .int .u64 a0_3, .int .u64 a0_4, .int .u64 a0_5] 24 (0, 0)) (kB BK319.out) hb); have n3_ := Aside0.mk (below_step bB hb); clear HO328; clear BK319; clear HB; have HO328 := n0_; have HO332 := n1_; have BK319 := n2_; have HB := n3_; clear n0_ n1_ n2_ n3_; (try clear hb); (try clear hb2); (try clear hk); (try clear hi); (try clear ho0); have hcz77_0 : w76.cell? ⟨gb319, 0, none⟩ = some (.int .i64 a0_0) := (blk_cell BK319.out 0).trans rfl; have hcz77_1 : w76.cell? ⟨gb319, 1, none⟩ = some (.int .i64 a0_1) := (blk_cell BK319.out 1).trans rfl; have hcz77_2 : w76.cell? ⟨gb319, 2, none⟩ = some (.int .i64 a0_2) := (blk_cell BK319.out 2).trans rfl; have hcz77_3 : w76.cell? ⟨gb319, 3, none⟩ = some (.int .u64 a0_3) := (blk_cell BK319.out 3).trans rfl; have hcz77_4 : w76.cell? ⟨gb319, 4, none⟩ = some (.int .u64 a0_4) := (blk_cell BK319.out 4).trans rfl; have hcz77_5 : w76.cell? ⟨gb319, 5, none⟩ = some (.int .u64 a0_5) := (blk_cell BK319.out 5).trans rfl; have hfz77_0 := blk_frozen BK319.out 0; have hfz77_1 := blk_frozen BK319.out 1; have hfz77_2 := blk_frozen BK319.out 2; have hfz77_3 := blk_frozen BK319.out 3; have hfz77_4 := blk_frozen BK319.out 4; have hfz77_5 := blk_frozen BK319.out 5) | ((with_reducible refine gate_callee (f := 19) rfl ?_); refine goesL_ (some 100) rfl rfl Tryd.func19 (by kernel_rfl) rfl #[.agg #[.int .i64 a0_0, .int .i64 a0_1, .int .i64 a0_2, .int .u64 a0_3, .int .u64 a0_4, .int .u64 a0_5], .int .u64 a1, .int .u64 a2, .slice A3 l3.length c3, .slice A4 l4.length c4, .slice A7 l7.length c7] rfl aV ?_; (with_reducible refine (spec_VerifiedConsistency.calls kj17 a0_0 a0_1 a0_2 a0_3 a0_4 a0_5 a1 a2 (fun k_ => k_ < w.heap.size) _ _ l3 (fun k_ => k_ < w.heap.size) _ _ l4 _ _ l7 t333 t334 _ ?side1 ?side2 ?side3 ?side4 A42.out).mono ?_); (case side1 => first | exact Kd.V_mk HC3.out (Kd.F_below (Kd.C_F (Kd.heap_slice 5 (Kd.heap_int .u8)) HR3.out) bB) | exact Kd.V_mono Kd.V_mk HC3.out (Kd.F_below (Kd.C_F (Kd.heap_slice 5 (Kd.heap_int .u8)) HR3.out) bB) (fun k_ h_ => by simp only [and_assoc] at h_ ⊢; exact h_)); (case side2 => first | exact Kd.V_mk HC4.out (Kd.F_below (Kd.C_F (Kd.heap_int .u8) HR4.out) bB) | exact Kd.V_mono Kd.V_mk HC4.out (Kd.F_below (Kd.C_F (Kd.heap_int .u8) HR4.out) bB) (fun k_ h_ => by simp only [and_assoc] at h_ ⊢; exact h_)); (case side3 => repeat (first | exact (Kd.C_below HR7.out HB.out) | (with_reducible refine Kd.C_alloc ?_ _) | (with_reducible refine Kd.C_drewN ?_ _) | (with_reducible refine Kd.C_drew ?_))); (case side4 => exact HC7.out); rintro e w78 ⟨v335, rfl, ho0, hb⟩; refine ⟨_, rfl, ?_⟩; have n0_ := Aside0.mk (Kd.R_below (kR HO328.out) hb); have n1_ := Aside0.mk (Kd.R_below (kR HO332.out) hb); have n2_ := Aside0.mk (Kd.V_lower (Kd.V_mono (ok' := fun k_ => some k_ ≠ (v327 : Value).ownBlock ∧ some k_ ≠ (v331 : Value).ownBlock ∧ k_ ≠ gb319) ho0 (fun k_ hk_ => ⟨Or.elim hk_ (fun hs_ => Or.elim hs_ (fun hs_ => fun e_ => Nat.not_le.2 hs_ (Kd.R_base HO328.out k_ e_.symm)) (fun hs_ => fun e_ => Nat.not_le.2 hs_ (Kd.R_base HO328.out k_ e_.symm))) (fun hn_ => (Kd.fresh' (Kd.R_lt (kR HO328.out)) k_ hn_)), Or.elim hk_ (fun hs_ => Or.elim hs_ (fun hs_ => fun e_ => Nat.not_le.2 hs_ (Kd.R_base HO332.out k_ e_.symm)) (fun hs_ => fun e_ => Nat.not_le.2 hs_ (Kd.R_base HO332.out k_ e_.symm))) (fun hn_ => (Kd.fresh' (Kd.R_lt (kR HO332.out)) k_ hn_)), Or.elim hk_ (fun hs_ => Or.elim hs_ (fun hs_ => fun e_ => Nat.not_le.2 hs_ (by rw [e_]; exact GW319.out)) (fun hs_ => fun e_ => Nat.not_le.2 hs_ (by rw [e_]; exact GW319.out))) (fun hn_ => (Kd.freshB (g := gb319) (o := .cells #[.int .i64 a0_0, .int .i64 a0_1, .int .i64 a0_2, .int .u64 a0_3, .int .u64 a0_4, .int .u64 a0_5] 24 (0, 0)) (kB BK319.out) k_ hn_))⟩)) (below_size bB)); have n3_ := Aside0.mk (blk_below (g := gb319) (o := .cells #[.int .i64 a0_0, .int .i64 a0_1, .int .i64 a0_2, .int .u64 a0_3, .int .u64 a0_4, .int .u64 a0_5] 24 (0, 0)) (kB BK319.out) hb); have n4_ := Aside0.mk (below_step bB hb); clear HO328; clear HO332; clear BK319; clear HB; have HO328 := n0_; have HO332 := n1_; have HO336 := n2_; have BK319 := n3_; have HB := n4_; clear n0_ n1_ n2_ n3_ n4_; (try clear hb); (try clear hb2); (try clear hk); (try clear hi); (try clear ho0)))
        go_ret
        exact ⟨by first | rfl | (simp [errW_none, errW_some] <;> rfl) | (simp [*, errW_none, errW_some] <;> rfl), bB⟩

end Go.Proofs.YtkmdkmlgahfcpaaDoor.M

