-- Written by a program of ours (wip/xp) out of the translation; Lean checks it.
import Derived.Test.YtkmdkmlgahfcpaaDoorSq
import Derived.Test.YtkmdkmlgahfcpaaDoorMm1
import Derived.Test.YtkmdkmlgahfcpaaDoorMm3
import Derived.Test.YtkmdkmlgahfcpaaDoorMm4
import Derived.Test.YtkmdkmlgahfcpaaDoorMm7
import Derived.Test.YtkmdkmlgahfcpaaDoorMm8
import Derived.Test.YtkmdkmlgahfcpaaDoorMm10
namespace Go.Proofs.YtkmdkmlgahfcpaaDoor.M
open Go.RowKit Go.Proofs.YtkmdkmlgahfcpaaDoorW.PrintWords Go.Proofs.YtkmdkmlgahfcpaaDoorW.PrintLast Go.Proofs.YtkmdkmlgahfcpaaDoorW.PrintMore
attribute [local go_sem] max2_int min2_int max_two min_two max_three min_three max_four min_four   -- for this text's walks alone
set_option linter.unusedVariables false
set_option linter.unusedSimpArgs false

/-! ### laws_FnConsistencyMade: function 9 -/
mutual
def laws_FnConsistencyMade.j0 : Nat → List (List Int) → Int → Int → Bool → Int → Int → Int → Int → Int → Int → Option (Bool)
 | 0, _, _, _, _, _, _, _, _, _, _ => none
 | k + 1, x1, x2, x7, x32, x375000, x375001, x375002, x375003, x375004, x375005 => if x32 = true then (some true) else ((impl_Consistency.f k x2 x7).bind fun bt377 => (laws_FnConsistencyMade.l0 k x1 x2 x7 bt377.2.2.2.2.2 ([] : List (List Int)) bt377.1 (bt377.1.length : Int) 0 x375000 x375001 x375002 x375003 x375004 x375005))
def laws_FnConsistencyMade.l0 : Nat → List (List Int) → Int → Int → Bool → List (List Int) → List (S54) → Int → Int → Int → Int → Int → Int → Int → Int → Option (Bool)
 | 0, _, _, _, _, _, _, _, _, _, _, _, _, _, _ => none
 | k + 1, x1, x2, x7, x9, x10, x40, x41, x42, x375000, x375001, x375002, x375003, x375004, x375005 => if x42 < x41 then (if 0 ≤ x42 then (if x42 < (x40.length : Int) then (if ((rd_T54 x40 x42).f0) ≥ 64 then (some false) else ((spec_Leaves.f ((rd_T54 x40 x42).f0) ((rd_T54 x40 x42).f1)).bind fun bt396 => ((spec_Leaves.f ((rd_T54 x40 x42).f0) ((rd_T54 x40 x42).f1)).bind fun bt398 => (if bt396.1 ≥ bt398.2 then (some false) else ((spec_Leaves.f ((rd_T54 x40 x42).f0) ((rd_T54 x40 x42).f1)).bind fun bt400 => (if bt400.2 > x7 then (some false) else ((spec_NodeHash.f k x375000 x375001 x375002 x375003 x375004 x375005 x1 ((rd_T54 x40 x42).f0) ((rd_T54 x40 x42).f1)).bind fun t402 => (if x10.length < 5864062014805 then (laws_FnConsistencyMade.l0 k x1 x2 x7 x9 (x10 ++ [t402]) x40 x41 (wrap64 (x42 + 1)) x375000 x375001 x375002 x375003 x375004 x375005) else (none))))))))) else (none)) else (none)) else ((impl_ConsistencyHashes.f k x375000 x375001 x375002 x375003 x375004 x375005 x2 x7 x10).bind fun bt386 => (if x9 = true then (if bt386.2 = true then ((spec_Proof.f k x375000 x375001 x375002 x375003 x375004 x375005 x1 x2).bind fun t390 => ((spec_Same.f k bt386.1 t390).bind fun t393 => (some t393))) else (some false)) else (some false)))
end
def laws_FnConsistencyMade.f (k : Nat) (a0_0 : Int) (a0_1 : Int) (a0_2 : Int) (a0_3 : Int) (a0_4 : Int) (a0_5 : Int) (l1 : List (List Int)) (a2 : Int) : Option (Bool) := (laws_zzFits2.f k l1).bind fun t375 => (if t375 = true then ((laws_logSmall.f k l1).bind fun t376 => (if t376 = true then (if a2 = 0 then (laws_FnConsistencyMade.j0 k l1 a2 (IntKind.u64.wrap ((l1.length : Int))) true a0_0 a0_1 a0_2 a0_3 a0_4 a0_5) else (laws_FnConsistencyMade.j0 k l1 a2 (IntKind.u64.wrap ((l1.length : Int))) (decide (a2 > (IntKind.u64.wrap ((l1.length : Int))))) a0_0 a0_1 a0_2 a0_3 a0_4 a0_5)) else (laws_FnConsistencyMade.j0 k l1 a2 (IntKind.u64.wrap ((l1.length : Int))) true a0_0 a0_1 a0_2 a0_3 a0_4 a0_5))) else (some true))
theorem laws_FnConsistencyMade.mono_l : ∀ k, (∀ y0 y1 y2 y3 y4 y5 y6 y7 y8 y9, LeO (laws_FnConsistencyMade.j0 k y0 y1 y2 y3 y4 y5 y6 y7 y8 y9) (laws_FnConsistencyMade.j0 (k + 1) y0 y1 y2 y3 y4 y5 y6 y7 y8 y9)) ∧ (∀ y0 y1 y2 y3 y4 y5 y6 y7 y8 y9 y10 y11 y12 y13, LeO (laws_FnConsistencyMade.l0 k y0 y1 y2 y3 y4 y5 y6 y7 y8 y9 y10 y11 y12 y13) (laws_FnConsistencyMade.l0 (k + 1) y0 y1 y2 y3 y4 y5 y6 y7 y8 y9 y10 y11 y12 y13))
 | 0 => ⟨fun _ _ _ _ _ _ _ _ _ _ r h => by simp [laws_FnConsistencyMade.j0] at h, fun _ _ _ _ _ _ _ _ _ _ _ _ _ _ r h => by simp [laws_FnConsistencyMade.l0] at h⟩
 | k + 1 => by
  obtain ⟨ih0, ih1⟩ := laws_FnConsistencyMade.mono_l k
  refine ⟨?_, ?_⟩
  ·intro y0 y1 y2 y3 y4 y5 y6 y7 y8 y9
   unfold laws_FnConsistencyMade.j0
   repeat' first
   | (with_reducible exact ih0 _ _ _ _ _ _ _ _ _ _)
   | (with_reducible exact ih1 _ _ _ _ _ _ _ _ _ _ _ _ _ _)
   | (with_reducible exact impl_Consistency.mono _ _ _)
   | (with_reducible exact impl_ConsistencyHashes.mono _ _ _ _ _ _ _ _ _ _)
   | (with_reducible exact laws_logSmall.mono _ _)
   | (with_reducible exact laws_zzFits2.mono _ _)
   | (with_reducible exact spec_NodeHash.mono _ _ _ _ _ _ _ _ _ _)
   | (with_reducible exact spec_Proof.mono _ _ _ _ _ _ _ _ _)
   | (with_reducible exact spec_Same.mono _ _ _)
   | (with_reducible exact LeO.refl _)
   | (with_reducible exact LeO.none _)
   | (with_reducible refine LeO.ite ?_ ?_)
   | (with_reducible refine LeO.bind ?_ (fun _ => ?_))
   | exact ih0 _ _ _ _ _ _ _ _ _ _
   | exact ih1 _ _ _ _ _ _ _ _ _ _ _ _ _ _
   | exact impl_Consistency.mono _ _ _
   | exact impl_ConsistencyHashes.mono _ _ _ _ _ _ _ _ _ _
   | exact laws_logSmall.mono _ _
   | exact laws_zzFits2.mono _ _
   | exact spec_NodeHash.mono _ _ _ _ _ _ _ _ _ _
   | exact spec_Proof.mono _ _ _ _ _ _ _ _ _
   | exact spec_Same.mono _ _ _
   | exact LeO.none _
   | refine LeO.ite ?_ ?_
   | refine LeO.bind ?_ (fun _ => ?_)
  ·intro y0 y1 y2 y3 y4 y5 y6 y7 y8 y9 y10 y11 y12 y13
   unfold laws_FnConsistencyMade.l0
   repeat' first
   | (with_reducible exact ih0 _ _ _ _ _ _ _ _ _ _)
   | (with_reducible exact ih1 _ _ _ _ _ _ _ _ _ _ _ _ _ _)
   | (with_reducible exact impl_Consistency.mono _ _ _)
   | (with_reducible exact impl_ConsistencyHashes.mono _ _ _ _ _ _ _ _ _ _)
   | (with_reducible exact laws_logSmall.mono _ _)
   | (with_reducible exact laws_zzFits2.mono _ _)
   | (with_reducible exact spec_NodeHash.mono _ _ _ _ _ _ _ _ _ _)
   | (with_reducible exact spec_Proof.mono _ _ _ _ _ _ _ _ _)
   | (with_reducible exact spec_Same.mono _ _ _)
   | (with_reducible exact LeO.refl _)
   | (with_reducible exact LeO.none _)
   | (with_reducible refine LeO.ite ?_ ?_)
   | (with_reducible refine LeO.bind ?_ (fun _ => ?_))
   | exact ih0 _ _ _ _ _ _ _ _ _ _
   | exact ih1 _ _ _ _ _ _ _ _ _ _ _ _ _ _
   | exact impl_Consistency.mono _ _ _
   | exact impl_ConsistencyHashes.mono _ _ _ _ _ _ _ _ _ _
   | exact laws_logSmall.mono _ _
   | exact laws_zzFits2.mono _ _
   | exact spec_NodeHash.mono _ _ _ _ _ _ _ _ _ _
   | exact spec_Proof.mono _ _ _ _ _ _ _ _ _
   | exact spec_Same.mono _ _ _
   | exact LeO.none _
   | refine LeO.ite ?_ ?_
   | refine LeO.bind ?_ (fun _ => ?_)
theorem laws_FnConsistencyMade.mono : ∀ a0 a1 a2 a3 a4 a5 a6 a7 k, LeO (laws_FnConsistencyMade.f k a0 a1 a2 a3 a4 a5 a6 a7) (laws_FnConsistencyMade.f (k + 1) a0 a1 a2 a3 a4 a5 a6 a7) := by
 intro a0 a1 a2 a3 a4 a5 a6 a7 k
 obtain ⟨ih0, ih1⟩ := laws_FnConsistencyMade.mono_l k
 unfold laws_FnConsistencyMade.f
 repeat' first
   | (with_reducible exact ih0 _ _ _ _ _ _ _ _ _ _)
   | (with_reducible exact ih1 _ _ _ _ _ _ _ _ _ _ _ _ _ _)
   | (with_reducible exact impl_Consistency.mono _ _ _)
   | (with_reducible exact impl_ConsistencyHashes.mono _ _ _ _ _ _ _ _ _ _)
   | (with_reducible exact laws_logSmall.mono _ _)
   | (with_reducible exact laws_zzFits2.mono _ _)
   | (with_reducible exact spec_NodeHash.mono _ _ _ _ _ _ _ _ _ _)
   | (with_reducible exact spec_Proof.mono _ _ _ _ _ _ _ _ _)
   | (with_reducible exact spec_Same.mono _ _ _)
   | (with_reducible exact LeO.refl _)
   | (with_reducible exact LeO.none _)
   | (with_reducible refine LeO.ite ?_ ?_)
   | (with_reducible refine LeO.bind ?_ (fun _ => ?_))
   | exact ih0 _ _ _ _ _ _ _ _ _ _
   | exact ih1 _ _ _ _ _ _ _ _ _ _ _ _ _ _
   | exact impl_Consistency.mono _ _ _
   | exact impl_ConsistencyHashes.mono _ _ _ _ _ _ _ _ _ _
   | exact laws_logSmall.mono _ _
   | exact laws_zzFits2.mono _ _
   | exact spec_NodeHash.mono _ _ _ _ _ _ _ _ _ _
   | exact spec_Proof.mono _ _ _ _ _ _ _ _ _
   | exact spec_Same.mono _ _ _
   | exact LeO.none _
   | refine LeO.ite ?_ ?_
   | refine LeO.bind ?_ (fun _ => ?_)
def laws_FnConsistencyMade.T11 : Bool × List (List Nat × List Nat) := (true, [([], []), ([0], [0]), ([1], [1]), ([2], [2]), ([3], [3]), ([4, 3, 3], [3, 4]), ([5, 3], [3, 5]), ([3], [3]), ([7, 5, 3], [3, 7]), ([8, 3], [3, 8]), ([6, 9, 3], [3, 6, 9]), ([3, 10], [3, 10]), ([11, 8], [11]), ([12], [12]), ([13, 12, 12], [12, 13]), ([14, 12], [12, 14]), ([12], [12]), ([15, 16, 12], [12, 15, 16]), ([12, 17], [12, 17])])
def laws_FnConsistencyMade.B11 : List Nat := [0, 1, 3, 7, 15, 31, 63, 15, 191, 447, 1023, 2047, 4095, 8191, 16383, 32767, 8191, 131071, 262143]
theorem laws_FnConsistencyMade.tab11 : rtab .any (opsOf Tryd.f9 11) = laws_FnConsistencyMade.T11 := by kernel_rfl
theorem laws_FnConsistencyMade.bits11 : waitsOk laws_FnConsistencyMade.T11.2 laws_FnConsistencyMade.B11 = true := by kernel_rfl
set_option maxHeartbeats 8000000 in
set_option maxRecDepth 100000 in
theorem laws_FnConsistencyMade.calls (k : Nat) (a0_0 : Int) (a0_1 : Int) (a0_2 : Int) (a0_3 : Int) (a0_4 : Int) (a0_5 : Int) (A1 : Option Addr) (c1 : Nat) (l1 : List (List Int)) (a2 : Int) (r : Bool) (w : World) (hT : TabOK w) (hr1 : Kd.C (Kd.slice 5 (Kd.int .u8)) w A1 l1.length l1) (hc1 : l1.length ≤ c1) (h : laws_FnConsistencyMade.f k a0_0 a0_1 a0_2 a0_3 a0_4 a0_5 l1 a2 = some r) :
  Calls Tryd.prog 9 #[.agg #[.int .i64 a0_0, .int .i64 a0_1, .int .i64 a0_2, .int .u64 a0_3, .int .u64 a0_4, .int .u64 a0_5], .slice A1 l1.length c1, .int .u64 a2] w fun e w' => e = .returned (.bool r) ∧ Below w.heap.size w w' := by
 have hu24 := Tryd.underlying24
 have hu68 := Tryd.underlying68
 have hu54 := Tryd.underlying54
 have hu57 := Tryd.underlying57
 have hfd0 : ∀ (x y : Int) (w : World), (Instr.field 57 (.agg #[.int .u64 x, .int .u64 y]) 0).run Tryd.prog w = .ok (.int .u64 x) w := fun _ _ _ => by kernel_rfl
 have hfd1 : ∀ (x y : Int) (w : World), (Instr.field 57 (.agg #[.int .u64 x, .int .u64 y]) 1).run Tryd.prog w = .ok (.int .u64 y) w := fun _ _ _ => by kernel_rfl
 have HT := Aside0.mk hT
 clear hT
 have HR1 := Aside0.mk hr1
 have HC1 := Aside0.mk hc1
 clear hr1 hc1
 have HB := Aside0.mk (Below.refl w.heap.size w)
 have H : ((laws_zzFits2.f k l1).bind fun t375 => (if t375 = true then ((laws_logSmall.f k l1).bind fun t376 => (if t376 = true then (if a2 = 0 then (laws_FnConsistencyMade.j0 k l1 a2 (IntKind.u64.wrap ((l1.length : Int))) true a0_0 a0_1 a0_2 a0_3 a0_4 a0_5) else (laws_FnConsistencyMade.j0 k l1 a2 (IntKind.u64.wrap ((l1.length : Int))) (decide (a2 > (IntKind.u64.wrap ((l1.length : Int))))) a0_0 a0_1 a0_2 a0_3 a0_4 a0_5)) else (laws_FnConsistencyMade.j0 k l1 a2 (IntKind.u64.wrap ((l1.length : Int))) true a0_0 a0_1 a0_2 a0_3 a0_4 a0_5))) else (some true))) = some r := h
 clear h
 replace H := Option.bind_eq_some_iff.mp H
 obtain ⟨t375, A40, H⟩ := H
 replace H : (if t375 = true then ((laws_logSmall.f k l1).bind fun t376 => (if t376 = true then (if a2 = 0 then (laws_FnConsistencyMade.j0 k l1 a2 (IntKind.u64.wrap ((l1.length : Int))) true a0_0 a0_1 a0_2 a0_3 a0_4 a0_5) else (laws_FnConsistencyMade.j0 k l1 a2 (IntKind.u64.wrap ((l1.length : Int))) (decide (a2 > (IntKind.u64.wrap ((l1.length : Int))))) a0_0 a0_1 a0_2 a0_3 a0_4 a0_5)) else (laws_FnConsistencyMade.j0 k l1 a2 (IntKind.u64.wrap ((l1.length : Int))) true a0_0 a0_1 a0_2 a0_3 a0_4 a0_5))) else (some true)) = some r := H
 have A4 := Aside0.mk A40
 clear A40
 by_cases c5 : t375 = true
 ·subst c5
  have H1 : ((laws_logSmall.f k l1).bind fun t376 => (if t376 = true then (if a2 = 0 then (laws_FnConsistencyMade.j0 k l1 a2 (IntKind.u64.wrap ((l1.length : Int))) true a0_0 a0_1 a0_2 a0_3 a0_4 a0_5) else (laws_FnConsistencyMade.j0 k l1 a2 (IntKind.u64.wrap ((l1.length : Int))) (decide (a2 > (IntKind.u64.wrap ((l1.length : Int))))) a0_0 a0_1 a0_2 a0_3 a0_4 a0_5)) else (laws_FnConsistencyMade.j0 k l1 a2 (IntKind.u64.wrap ((l1.length : Int))) true a0_0 a0_1 a0_2 a0_3 a0_4 a0_5))) = some r := by rw [if_pos rfl] at H; exact H
  clear H
  have H := H1
  clear H1
  have HC6 := Aside0.mk H
  clear H
  go_enter Tryd.func9, Tryd.ntmps9
  go_upto_region 4 with (first | ((with_reducible refine gate_dst (N := 3) rfl ?_); refine box_event ?hg (N := 3) ?hd (cs := #[.int .i64 a0_0, .int .i64 a0_1, .int .i64 a0_2, .int .u64 a0_3, .int .u64 a0_4, .int .u64 a0_5]) (t := 24) ?hr ?_; (case hd => rfl); (case hg => rfl); (case hr => first | (go_simp; done) | (go_simp; rfl)); intro gb374 hg w7 hbox hb; have n0_ := Aside0.mk (below_step bB hb); have n1_ := Aside0.mk (hbox); have n2_ := Aside0.mk ((by rw [hg]; exact (below_size bB) : w.heap.size ≤ gb374)); have n3_ := Aside0.mk ((by rw [hg]; exact (below_size bB) : w.heap.size ≤ gb374)); clear HB; have HB := n0_; have BK374 := n1_; have GW374 := n2_; have GE374 := n3_; clear n0_ n1_ n2_ n3_; clear hb hbox hg) | ((with_reducible refine gate_callee (f := 12) rfl ?_); refine goesL_ (some 16) rfl rfl Tryd.func12 (by kernel_rfl) rfl #[.slice A1 l1.length c1] rfl aV ?_; (with_reducible refine (laws_zzFits2.calls k _ _ l1 true _ ?side1 ?side2 A4.out).mono ?_); (case side1 => repeat (first | exact (Kd.C_below HR1.out HB.out) | (with_reducible refine Kd.C_alloc ?_ _) | (with_reducible refine Kd.C_drewN ?_ _) | (with_reducible refine Kd.C_drew ?_))); (case side2 => exact HC1.out); rintro e w' ⟨rfl, ⟨nd, rfl⟩⟩; refine ⟨_, rfl, ?_⟩))
  (try simp only [Act.put, List.setIfInBounds_toArray, List.set_cons_zero, List.set_cons_succ])
  go_cut [32] (fun v32 wc => ∃ (kq : Nat) (x32_5 : Bool), v32 = .bool x32_5 ∧ Aside0 (laws_FnConsistencyMade.j0 kq l1 a2 (IntKind.u64.wrap ((l1.length : Int))) x32_5 a0_0 a0_1 a0_2 a0_3 a0_4 a0_5 = some r) ∧ Aside0 (kq ≤ k) ∧ Aside0 (wc.heap[gb374]? = some (.cells #[.int .i64 a0_0, .int .i64 a0_1, .int .i64 a0_2, .int .u64 a0_3, .int .u64 a0_4, .int .u64 a0_5] 24 (0, 0))) ∧ Aside0 (Below w.heap.size w wc))
  case first =>
   have H := HC6.out
   clear HC6
   replace H := Option.bind_eq_some_iff.mp H
   obtain ⟨t376, A80, H⟩ := H
   replace H : (if t376 = true then (if a2 = 0 then (laws_FnConsistencyMade.j0 k l1 a2 (IntKind.u64.wrap ((l1.length : Int))) true a0_0 a0_1 a0_2 a0_3 a0_4 a0_5) else (laws_FnConsistencyMade.j0 k l1 a2 (IntKind.u64.wrap ((l1.length : Int))) (decide (a2 > (IntKind.u64.wrap ((l1.length : Int))))) a0_0 a0_1 a0_2 a0_3 a0_4 a0_5)) else (laws_FnConsistencyMade.j0 k l1 a2 (IntKind.u64.wrap ((l1.length : Int))) true a0_0 a0_1 a0_2 a0_3 a0_4 a0_5)) = some r := H
   have A8 := Aside0.mk A80
   clear A80
   by_cases c9 : t376 = true
   ·subst c9
    have H1 : (if a2 = 0 then (laws_FnConsistencyMade.j0 k l1 a2 (IntKind.u64.wrap ((l1.length : Int))) true a0_0 a0_1 a0_2 a0_3 a0_4 a0_5) else (laws_FnConsistencyMade.j0 k l1 a2 (IntKind.u64.wrap ((l1.length : Int))) (decide (a2 > (IntKind.u64.wrap ((l1.length : Int))))) a0_0 a0_1 a0_2 a0_3 a0_4 a0_5)) = some r := by rw [if_pos rfl] at H; exact H
    clear H
    have H := H1
    clear H1
    by_cases c10 : a2 = 0
    ·rw [if_pos c10] at H
     have c10b0 : (a2 == 0) = true := beq_iff_eq.mpr c10
     have c10b1 : (a2 != 0) = false := bne_eq_false_iff_eq.mpr c10
     clear c10
     (first | rw [c10b0] | (simp only [i64_w, i32_w]; rw [c10b0]) | skip)
     have H' := Aside0.mk H
     clear H
     go_wp2_with (first | ((with_reducible refine gate_callee (f := 13) rfl ?_); refine goesL_ (some 22) rfl rfl Tryd.func13 (by kernel_rfl) rfl #[.slice A1 l1.length c1] rfl aV ?_; (with_reducible refine (laws_logSmall.calls k _ _ l1 true _ ?side1 ?side2 A8.out).mono ?_); (case side1 => repeat (first | exact (Kd.C_below HR1.out HB.out) | (with_reducible refine Kd.C_alloc ?_ _) | (with_reducible refine Kd.C_drewN ?_ _) | (with_reducible refine Kd.C_drew ?_))); (case side2 => exact HC1.out); rintro e w' ⟨rfl, ⟨nd, rfl⟩⟩; refine ⟨_, rfl, ?_⟩))
     go_meet
     case rel => exact ⟨_, (true), (by first | rfl | (simp; done) | (simp [*]; done)), H', ⟨by first | omega | exact Nat.le_refl _⟩, ⟨by (with_reducible repeat (first | refine blk_drewN ?_ _ | refine blk_drew ?_ | refine blk_alloc ?_ _)); exact BK374.out⟩, ⟨bB⟩⟩
    ·rw [if_neg c10] at H
     have c10b0 : (a2 == 0) = false := beq_eq_false_iff_ne.mpr c10
     have c10b1 : (a2 != 0) = true := bne_iff_ne.mpr c10
     (first | rw [c10b0] | (simp only [i64_w, i32_w]; rw [c10b0]) | skip)
     have H' := Aside0.mk H
     clear H
     go_wp2_with (first | ((with_reducible refine gate_callee (f := 13) rfl ?_); refine goesL_ (some 22) rfl rfl Tryd.func13 (by kernel_rfl) rfl #[.slice A1 l1.length c1] rfl aV ?_; (with_reducible refine (laws_logSmall.calls k _ _ l1 true _ ?side1 ?side2 A8.out).mono ?_); (case side1 => repeat (first | exact (Kd.C_below HR1.out HB.out) | (with_reducible refine Kd.C_alloc ?_ _) | (with_reducible refine Kd.C_drewN ?_ _) | (with_reducible refine Kd.C_drew ?_))); (case side2 => exact HC1.out); rintro e w' ⟨rfl, ⟨nd, rfl⟩⟩; refine ⟨_, rfl, ?_⟩))
     go_meet
     case rel => exact ⟨_, (decide (a2 > (IntKind.u64.wrap ((l1.length : Int))))), (by first | rfl | (simp; done) | (simp [*]; done)), H', ⟨by first | omega | exact Nat.le_refl _⟩, ⟨by (with_reducible repeat (first | refine blk_drewN ?_ _ | refine blk_drew ?_ | refine blk_alloc ?_ _)); exact BK374.out⟩, ⟨bB⟩⟩
   ·replace c9 := Bool.eq_false_iff.mpr c9
    subst c9
    have H1 : (laws_FnConsistencyMade.j0 k l1 a2 (IntKind.u64.wrap ((l1.length : Int))) true a0_0 a0_1 a0_2 a0_3 a0_4 a0_5) = some r := by rw [if_neg (show ¬ (false = true) by decide)] at H; exact H
    clear H
    have H := H1
    clear H1
    have H' := Aside0.mk H
    clear H
    go_wp2_with (first | ((with_reducible refine gate_callee (f := 13) rfl ?_); refine goesL_ (some 22) rfl rfl Tryd.func13 (by kernel_rfl) rfl #[.slice A1 l1.length c1] rfl aV ?_; (with_reducible refine (laws_logSmall.calls k _ _ l1 false _ ?side1 ?side2 A8.out).mono ?_); (case side1 => repeat (first | exact (Kd.C_below HR1.out HB.out) | (with_reducible refine Kd.C_alloc ?_ _) | (with_reducible refine Kd.C_drewN ?_ _) | (with_reducible refine Kd.C_drew ?_))); (case side2 => exact HC1.out); rintro e w' ⟨rfl, ⟨nd, rfl⟩⟩; refine ⟨_, rfl, ?_⟩))
    go_meet
    case rel => exact ⟨_, (true), (by first | rfl | (simp; done) | (simp [*]; done)), H', ⟨by first | omega | exact Nat.le_refl _⟩, ⟨by (with_reducible repeat (first | refine blk_drewN ?_ _ | refine blk_drew ?_ | refine blk_alloc ?_ _)); exact BK374.out⟩, ⟨bB⟩⟩
  case rest =>
   clear HC6
   try clear c1
   try clear p2
   try clear c5
   try clear c9
   try clear c10
   try clear c10b0
   try clear c10b1
   obtain ⟨kq, x32_5, rfl, HA, HJ5, BK374, HB⟩ := hcut
   cases kq with
   | zero => exact absurd HA.out (by simp [laws_FnConsistencyMade.j0])
   | succ kj5 =>
    have H := HA.out
    clear HA
    simp only [laws_FnConsistencyMade.j0] at H
    by_cases c11 : x32_5 = true
    ·subst c11
     have H1 : (some true) = some r := by rw [if_pos rfl] at H; exact H
     clear H
     have H := H1
     clear H1
     obtain rfl := Option.some.inj H
     go_wp2
     go_ret
     exact ⟨by first | rfl | (simp [errW_none, errW_some] <;> rfl) | (simp [*, errW_none, errW_some] <;> rfl), bB⟩
    ·replace c11 := Bool.eq_false_iff.mpr c11
     subst c11
     have H1 : ((impl_Consistency.f kj5 a2 (IntKind.u64.wrap ((l1.length : Int)))).bind fun bt377 => (laws_FnConsistencyMade.l0 kj5 l1 a2 (IntKind.u64.wrap ((l1.length : Int))) bt377.2.2.2.2.2 ([] : List (List Int)) bt377.1 (bt377.1.length : Int) 0 a0_0 a0_1 a0_2 a0_3 a0_4 a0_5)) = some r := by rw [if_neg (show ¬ (false = true) by decide)] at H; exact H
     clear H
     have H := H1
     clear H1
     replace H := Option.bind_eq_some_iff.mp H
     obtain ⟨⟨t377, t380, t381, t382, t383, t384⟩, A120, H⟩ := H
     replace H : (laws_FnConsistencyMade.l0 kj5 l1 a2 (IntKind.u64.wrap ((l1.length : Int))) t384 ([] : List (List Int)) t377 (t377.length : Int) 0 a0_0 a0_1 a0_2 a0_3 a0_4 a0_5) = some r := H
     have A12 := Aside0.mk A120
     clear A120
     have H' := Aside0.mk H
     clear H
     go_wp2_with (first | ((with_reducible refine gate_callee (f := 34) rfl ?_); refine goesL_ (some 36) rfl rfl Tryd.func34 (by kernel_rfl) rfl #[.int .u64 a2, .int .u64 (IntKind.u64.wrap ((l1.length : Int)))] rfl aV ?_; (with_reducible refine (impl_Consistency.calls kj5 a2 (IntKind.u64.wrap ((l1.length : Int))) t377 t380 t381 t382 t383 t384 _ ?side1 A12.out).mono ?_); (case side1 => exact TabOK.below HT.out bB); rintro e w13 ⟨v378, rfl, ho0, hb⟩; refine ⟨_, rfl, ?_⟩; have n0_ := Aside0.mk (Kd.R_lower ho0 (below_size bB)); have n1_ := Aside0.mk (blk_below (g := gb374) (o := .cells #[.int .i64 a0_0, .int .i64 a0_1, .int .i64 a0_2, .int .u64 a0_3, .int .u64 a0_4, .int .u64 a0_5] 24 (0, 0)) (kB BK374.out) hb); have n2_ := Aside0.mk (below_step bB hb); clear BK374; clear HB; have HO379 := n0_; have BK374 := n1_; have HB := n2_; clear n0_ n1_ n2_; (try clear hb); (try clear hb2); (try clear hk); (try clear hi); (try clear ho0)) | ((with_reducible refine gate_dst (N := 8) rfl ?_); refine box_event ?hg (N := 8) ?hd (cs := #[.slice none 0 0, .int .u64 0, .int .u64 0, .int .i64 0, .int .i64 0]) (t := 68) ?hr ?_; (case hd => rfl); (case hg => rfl); (case hr => first | (go_simp; done) | (go_simp; rfl)); intro gb385 hg w14 hbox hb; have n0_ := Aside0.mk (Kd.R_below (kR HO379.out) hb); have n1_ := Aside0.mk (blk_below (g := gb374) (o := .cells #[.int .i64 a0_0, .int .i64 a0_1, .int .i64 a0_2, .int .u64 a0_3, .int .u64 a0_4, .int .u64 a0_5] 24 (0, 0)) (kB BK374.out) hb); have n2_ := Aside0.mk (below_step bB hb); have n3_ := Aside0.mk (hbox); have n4_ := Aside0.mk ((by rw [hg]; exact (below_size bB) : w.heap.size ≤ gb385)); have n5_ := Aside0.mk ((by rw [hg]; exact (below_size bB) : w.heap.size ≤ gb385)); have n6_ := Aside0.mk ((by rw [hg]; exact Nat.ne_of_lt (blk_lt (g := gb374) (o := .cells #[.int .i64 a0_0, .int .i64 a0_1, .int .i64 a0_2, .int .u64 a0_3, .int .u64 a0_4, .int .u64 a0_5] 24 (0, 0)) (kB BK374.out)) : gb374 ≠ gb385)); have n7_ := Aside0.mk ((by rw [hg]; exact Nat.ne_of_gt (blk_lt (g := gb374) (o := .cells #[.int .i64 a0_0, .int .i64 a0_1, .int .i64 a0_2, .int .u64 a0_3, .int .u64 a0_4, .int .u64 a0_5] 24 (0, 0)) (kB BK374.out)) : gb385 ≠ gb374)); clear HO379; clear BK374; clear HB; have HO379 := n0_; have BK374 := n1_; have HB := n2_; have BK385 := n3_; have GW385 := n4_; have GE385 := n5_; have NB374_385 := n6_; have NB385_374 := n7_; clear n0_ n1_ n2_ n3_ n4_ n5_ n6_ n7_; clear hb hbox hg; obtain ⟨Ao15, co15, eo15⟩ := Kd.R_slice HO379.out; subst eo15; have hnb16 := NB385_374.out; have hnc16 := NB374_385.out; have hcz17_0 : w14.cell? ⟨gb385, 0, none⟩ = some (.slice none 0 0) := (blk_cell BK385.out 0).trans rfl; have hcz17_1 : w14.cell? ⟨gb385, 1, none⟩ = some (.int .u64 0) := (blk_cell BK385.out 1).trans rfl; have hcz17_2 : w14.cell? ⟨gb385, 2, none⟩ = some (.int .u64 0) := (blk_cell BK385.out 2).trans rfl; have hcz17_3 : w14.cell? ⟨gb385, 3, none⟩ = some (.int .i64 0) := (blk_cell BK385.out 3).trans rfl; have hcz17_4 : w14.cell? ⟨gb385, 4, none⟩ = some (.int .i64 0) := (blk_cell BK385.out 4).trans rfl; have hfz17_0 := blk_frozen BK385.out 0; have hfz17_1 := blk_frozen BK385.out 1; have hfz17_2 := blk_frozen BK385.out 2; have hfz17_3 := blk_frozen BK385.out 3; have hfz17_4 := blk_frozen BK385.out 4))
     go_loopg [10, 42] kj5 (fun kq v10 v42 w' => ∃ (x10_2 : List (List Int)) (x42_2 : Int), v42 = .int .i64 x42_2 ∧ Aside0 (laws_FnConsistencyMade.l0 kq l1 a2 (IntKind.u64.wrap ((l1.length : Int))) t384 x10_2 t377 (t377.length : Int) x42_2 a0_0 a0_1 a0_2 a0_3 a0_4 a0_5 = some r) ∧ Aside0 (kq ≤ kj5) ∧ Aside0 (Kd.N (Kd.slice 5 (Kd.int .u8)) 27 w' w.heap.size (fun k_ => some k_ ≠ ((.slice Ao15 t377.length co15) : Value).ownBlock ∧ some k_ ≠ ((.slice Ao15 t377.length co15) : Value).ownBlock ∧ k_ ≠ gb374 ∧ k_ ≠ gb385) v10 x10_2) ∧ Aside0 (Kd.R k54 54 w' w.heap.size (fun _ => True) (.slice Ao15 t377.length co15) t377) ∧ Aside0 (Kd.R k54 54 w' w.heap.size (fun _ => True) (.slice Ao15 t377.length co15) t377) ∧ Aside0 (w'.heap[gb374]? = some (.cells #[.int .i64 a0_0, .int .i64 a0_1, .int .i64 a0_2, .int .u64 a0_3, .int .u64 a0_4, .int .u64 a0_5] 24 (0, 0))) ∧ Aside0 (w'.heap[gb385]? = some (.cells #[(.slice Ao15 t377.length co15), .int .u64 t380, .int .u64 t381, .int .i64 t382, .int .i64 t383] 68 (0, 0))) ∧ Aside0 (Below w.heap.size w w'))
     case atStart => exact ⟨(([] : List (List Int))), (0), (by first | rfl | (simp; done) | (simp [*]; done)), H', ⟨Nat.le_refl _⟩, ⟨by first | exact Kd.S_nil _ _ _ _ _ | exact Kd.N_nil _ _ _ _ _ | exact Kd.V_nil _ _ _ _ _ | exact Kd.Q_nil _ _ _ _ _ | exact Kd.R_nil _ _ _ _ _⟩, ⟨by (with_reducible repeat (first | apply Kd.R_alloc | apply Kd.R_drewN | apply Kd.R_drew)); exact Kd.R_mono (Kd.R_far (p := ⟨gb385, 4, none⟩) (Kd.R_far (p := ⟨gb385, 3, none⟩) (Kd.R_far (p := ⟨gb385, 2, none⟩) (Kd.R_far (p := ⟨gb385, 1, none⟩) (Kd.R_far (p := ⟨gb385, 0, none⟩) (Kd.R_types HO379.out BK385.out (by decide)) (fun _ hk => hk.2) (.slice Ao15 t377.length co15)) (fun _ hk => hk.2) (.int .u64 t380)) (fun _ hk => hk.2) (.int .u64 t381)) (fun _ hk => hk.2) (.int .i64 t382)) (fun _ hk => hk.2) (.int .i64 t383)) (fun _ hk => trivial)⟩, ⟨by (with_reducible repeat (first | apply Kd.R_alloc | apply Kd.R_drewN | apply Kd.R_drew)); exact Kd.R_mono (Kd.R_far (p := ⟨gb385, 4, none⟩) (Kd.R_far (p := ⟨gb385, 3, none⟩) (Kd.R_far (p := ⟨gb385, 2, none⟩) (Kd.R_far (p := ⟨gb385, 1, none⟩) (Kd.R_far (p := ⟨gb385, 0, none⟩) (Kd.R_types HO379.out BK385.out (by decide)) (fun _ hk => hk.2) (.slice Ao15 t377.length co15)) (fun _ hk => hk.2) (.int .u64 t380)) (fun _ hk => hk.2) (.int .u64 t381)) (fun _ hk => hk.2) (.int .i64 t382)) (fun _ hk => hk.2) (.int .i64 t383)) (fun _ hk => trivial)⟩, ⟨by (with_reducible repeat (first | refine blk_drewN ?_ _ | refine blk_drew ?_ | refine blk_alloc ?_ _)); refine blk_far ?_ NB374_385.out _; (with_reducible repeat (first | refine blk_drewN ?_ _ | refine blk_drew ?_ | refine blk_alloc ?_ _)); refine blk_far ?_ NB374_385.out _; (with_reducible repeat (first | refine blk_drewN ?_ _ | refine blk_drew ?_ | refine blk_alloc ?_ _)); refine blk_far ?_ NB374_385.out _; (with_reducible repeat (first | refine blk_drewN ?_ _ | refine blk_drew ?_ | refine blk_alloc ?_ _)); refine blk_far ?_ NB374_385.out _; (with_reducible repeat (first | refine blk_drewN ?_ _ | refine blk_drew ?_ | refine blk_alloc ?_ _)); refine blk_far ?_ NB374_385.out _; (with_reducible repeat (first | refine blk_drewN ?_ _ | refine blk_drew ?_ | refine blk_alloc ?_ _)); exact BK374.out⟩, ⟨by (with_reducible repeat (first | refine blk_drewN ?_ _ | refine blk_drew ?_ | refine blk_alloc ?_ _)); refine blk_put (cs := #[.slice Ao15 t377.length co15, .int .u64 t380, .int .u64 t381, .int .i64 t382, .int .i64 0]) ?_ 4 _ rfl; (with_reducible repeat (first | refine blk_drewN ?_ _ | refine blk_drew ?_ | refine blk_alloc ?_ _)); refine blk_put (cs := #[.slice Ao15 t377.length co15, .int .u64 t380, .int .u64 t381, .int .i64 0, .int .i64 0]) ?_ 3 _ rfl; (with_reducible repeat (first | refine blk_drewN ?_ _ | refine blk_drew ?_ | refine blk_alloc ?_ _)); refine blk_put (cs := #[.slice Ao15 t377.length co15, .int .u64 t380, .int .u64 0, .int .i64 0, .int .i64 0]) ?_ 2 _ rfl; (with_reducible repeat (first | refine blk_drewN ?_ _ | refine blk_drew ?_ | refine blk_alloc ?_ _)); refine blk_put (cs := #[.slice Ao15 t377.length co15, .int .u64 0, .int .u64 0, .int .i64 0, .int .i64 0]) ?_ 1 _ rfl; (with_reducible repeat (first | refine blk_drewN ?_ _ | refine blk_drew ?_ | refine blk_alloc ?_ _)); refine blk_put (cs := #[.slice none 0 0, .int .u64 0, .int .u64 0, .int .i64 0, .int .i64 0]) ?_ 0 _ rfl; (with_reducible repeat (first | refine blk_drewN ?_ _ | refine blk_drew ?_ | refine blk_alloc ?_ _)); exact BK385.out⟩, ⟨bB⟩⟩
     case round =>
      clear H'
      try clear c1
      try clear p2
      try clear c3
      try clear c5
      try clear c9
      try clear c10
      try clear c10b0
      try clear c10b1
      try clear c11
      try clear c12
      try clear c13
      try clear c16
      try clear hcz17_0
      try clear hcz17_1
      try clear hcz17_2
      try clear hcz17_3
      try clear hcz17_4
      try clear hfz17_0
      try clear hfz17_1
      try clear hfz17_2
      try clear hfz17_3
      try clear hfz17_4
      try clear p2
      obtain ⟨x10_2, x42_2, rfl, HA, HK2, HO_10, HO_40, HO_386000, BK374, BK385, HB⟩ := hrel
      cases gk with
      | zero => exact absurd HA.out (by simp [laws_FnConsistencyMade.l0])
      | succ k2 =>
       have H := HA.out
       clear HA
       simp only [laws_FnConsistencyMade.l0] at H
       by_cases c18 : x42_2 < (t377.length : Int)
       ·rw [if_pos c18] at H
        have c18b0 : decide (x42_2 < (t377.length : Int)) = true := decide_eq_true c18
        clear c18
        by_cases c19 : 0 ≤ x42_2
        ·rw [if_pos c19] at H
         have c19b0 : decide (0 ≤ x42_2) = true := decide_eq_true c19
         clear c19
         by_cases c20 : x42_2 < (t377.length : Int)
         ·rw [if_pos c20] at H
          have c20b0 : decide (x42_2 < (t377.length : Int)) = true := decide_eq_true c20
          clear c20
          by_cases c21 : ((rd_T54 t377 x42_2).f0) ≥ 64
          ·rw [if_pos c21] at H
           have c21b0 : decide (64 ≤ ((rd_T54 t377 x42_2).f0)) = true := decide_eq_true c21
           clear c21
           obtain rfl := Option.some.inj H
           have p394 : 0 ≤ (x42_2 : Int) := dA
           have q394 : x42_2 < (t377.length : Int) := dA
           obtain ⟨ad394, e394, hx394_0, hx394_1⟩ := at_T54 (Kd.R_reads' HO_40.out).2.2 x42_2 p394 q394
           cases e394
           replace p394 := eq_true p394
           replace q394 := eq_true q394
           try go_wp2_with (first | ((with_reducible refine gate_dst (N := 12) rfl ?_); refine box_event ?hg (N := 12) ?hd (cs := #[.int .u64 0, .int .u64 0]) (t := 54) ?hr ?_; (case hd => rfl); (case hg => rfl); (case hr => first | (go_simp; done) | (go_simp; rfl)); intro gb395 hg w22 hbox hb; have n0_ := Aside0.mk (Kd.N_below (Kd.N_elderB (by (with_reducible repeat (first | apply Kd.N_alloc | apply Kd.N_drewN | apply Kd.N_drew)); exact HO_10.out) gb395 (Nat.le_of_eq hg.symm)) hb); have n1_ := Aside0.mk (Kd.R_below (Kd.R_elderB (kR HO_40.out) gb395 (Nat.le_of_eq hg.symm)) hb); have n2_ := Aside0.mk (Kd.R_below (Kd.R_elderB (kR HO_386000.out) gb395 (Nat.le_of_eq hg.symm)) hb); have n3_ := Aside0.mk (blk_below (g := gb374) (o := .cells #[.int .i64 a0_0, .int .i64 a0_1, .int .i64 a0_2, .int .u64 a0_3, .int .u64 a0_4, .int .u64 a0_5] 24 (0, 0)) (kB BK374.out) hb); have n4_ := Aside0.mk (blk_below (g := gb385) (o := .cells #[.slice (some ad394) t377.length co15, .int .u64 t380, .int .u64 t381, .int .i64 t382, .int .i64 t383] 68 (0, 0)) (kB BK385.out) hb); have n5_ := Aside0.mk (below_step bB hb); have n6_ := Aside0.mk (hbox); have n7_ := Aside0.mk ((by rw [hg]; exact (below_size bB) : w.heap.size ≤ gb395)); have n8_ := Aside0.mk ((by rw [hg]; exact (below_size bB) : w.heap.size ≤ gb395)); have n9_ := Aside0.mk ((by rw [hg]; exact Nat.ne_of_lt (blk_lt (g := gb374) (o := .cells #[.int .i64 a0_0, .int .i64 a0_1, .int .i64 a0_2, .int .u64 a0_3, .int .u64 a0_4, .int .u64 a0_5] 24 (0, 0)) (kB BK374.out)) : gb374 ≠ gb395)); have n10_ := Aside0.mk ((by rw [hg]; exact Nat.ne_of_gt (blk_lt (g := gb374) (o := .cells #[.int .i64 a0_0, .int .i64 a0_1, .int .i64 a0_2, .int .u64 a0_3, .int .u64 a0_4, .int .u64 a0_5] 24 (0, 0)) (kB BK374.out)) : gb395 ≠ gb374)); have n11_ := Aside0.mk ((by rw [hg]; exact Nat.ne_of_lt (blk_lt (g := gb385) (o := .cells #[.slice (some ad394) t377.length co15, .int .u64 t380, .int .u64 t381, .int .i64 t382, .int .i64 t383] 68 (0, 0)) (kB BK385.out)) : gb385 ≠ gb395)); have n12_ := Aside0.mk ((by rw [hg]; exact Nat.ne_of_gt (blk_lt (g := gb385) (o := .cells #[.slice (some ad394) t377.length co15, .int .u64 t380, .int .u64 t381, .int .i64 t382, .int .i64 t383] 68 (0, 0)) (kB BK385.out)) : gb395 ≠ gb385)); clear HO_10; clear HO_40; clear HO_386000; clear BK374; clear BK385; clear HB; have HO_10 := n0_; have HO_40 := n1_; have HO_386000 := n2_; have BK374 := n3_; have BK385 := n4_; have HB := n5_; have BK395 := n6_; have GW395 := n7_; have GE395 := n8_; have NB374_395 := n9_; have NB395_374 := n10_; have NB385_395 := n11_; have NB395_385 := n12_; clear n0_ n1_ n2_ n3_ n4_ n5_ n6_ n7_ n8_ n9_ n10_ n11_ n12_; clear hb hbox hg; have hnb23 := NB395_374.out; have hnc23 := NB374_395.out; have hnb24 := NB395_385.out; have hnc24 := NB385_395.out; have hcz25_0 : w22.cell? ⟨gb395, 0, none⟩ = some (.int .u64 0) := (blk_cell BK395.out 0).trans rfl; have hcz25_1 : w22.cell? ⟨gb395, 1, none⟩ = some (.int .u64 0) := (blk_cell BK395.out 1).trans rfl; have hfz25_0 := blk_frozen BK395.out 0; have hfz25_1 := blk_frozen BK395.out 1))
           have n0_ : Aside0 (Kd.N (Kd.slice 5 (Kd.int .u8)) 27 ((w22.setCell ⟨gb395, 0, none⟩ (.int .u64 ((rd_T54 t377 x42_2).f0))).setCell ⟨gb395, 1, none⟩ (.int .u64 ((rd_T54 t377 x42_2).f1))) w.heap.size (fun k_ => some k_ ≠ (.slice (some ad394) t377.length co15 : Value).ownBlock ∧ some k_ ≠ (.slice (some ad394) t377.length co15 : Value).ownBlock ∧ k_ ≠ gb374 ∧ k_ ≠ gb385 ∧ k_ ≠ gb395) u10 x10_2) := ⟨by (with_reducible repeat (first | apply Kd.N_alloc | apply Kd.N_drewN | apply Kd.N_drew)); exact Kd.N_mono (Kd.N_far (p := ⟨gb395, 1, none⟩) (Kd.N_far (p := ⟨gb395, 0, none⟩) (Kd.N_mono HO_10.out (fun k_ hk => (⟨hk, hk.2⟩ : _ ∧ k_ ≠ gb395))) (fun _ hk => hk.2) (.int .u64 ((rd_T54 t377 x42_2).f0))) (fun _ hk => hk.2) (.int .u64 ((rd_T54 t377 x42_2).f1))) (fun _ hk => ⟨hk.1.1.1, ⟨hk.1.1.2.1, ⟨hk.1.1.2.2.1, ⟨hk.1.1.2.2.2, hk.1.2⟩⟩⟩⟩)⟩
           have n1_ : Aside0 (Kd.R k54 54 ((w22.setCell ⟨gb395, 0, none⟩ (.int .u64 ((rd_T54 t377 x42_2).f0))).setCell ⟨gb395, 1, none⟩ (.int .u64 ((rd_T54 t377 x42_2).f1))) w.heap.size (fun k_ => k_ ≠ gb395) (.slice (some ad394) t377.length co15) t377) := ⟨by (with_reducible repeat (first | apply Kd.R_alloc | apply Kd.R_drewN | apply Kd.R_drew)); exact Kd.R_mono (Kd.R_far (p := ⟨gb395, 1, none⟩) (Kd.R_far (p := ⟨gb395, 0, none⟩) (Kd.R_mono HO_40.out (fun k_ hk => (⟨hk, hk.2⟩ : _ ∧ k_ ≠ gb395))) (fun _ hk => hk.2) (.int .u64 ((rd_T54 t377 x42_2).f0))) (fun _ hk => hk.2) (.int .u64 ((rd_T54 t377 x42_2).f1))) (fun _ hk => hk.1.2)⟩
           have n2_ : Aside0 (Kd.R k54 54 ((w22.setCell ⟨gb395, 0, none⟩ (.int .u64 ((rd_T54 t377 x42_2).f0))).setCell ⟨gb395, 1, none⟩ (.int .u64 ((rd_T54 t377 x42_2).f1))) w.heap.size (fun k_ => k_ ≠ gb395) (.slice (some ad394) t377.length co15) t377) := ⟨by (with_reducible repeat (first | apply Kd.R_alloc | apply Kd.R_drewN | apply Kd.R_drew)); exact Kd.R_mono (Kd.R_far (p := ⟨gb395, 1, none⟩) (Kd.R_far (p := ⟨gb395, 0, none⟩) (Kd.R_mono HO_386000.out (fun k_ hk => (⟨hk, hk.2⟩ : _ ∧ k_ ≠ gb395))) (fun _ hk => hk.2) (.int .u64 ((rd_T54 t377 x42_2).f0))) (fun _ hk => hk.2) (.int .u64 ((rd_T54 t377 x42_2).f1))) (fun _ hk => hk.1.2)⟩
           have n3_ : Aside0 (((w22.setCell ⟨gb395, 0, none⟩ (.int .u64 ((rd_T54 t377 x42_2).f0))).setCell ⟨gb395, 1, none⟩ (.int .u64 ((rd_T54 t377 x42_2).f1))).heap[gb374]? = some (.cells #[.int .i64 a0_0, .int .i64 a0_1, .int .i64 a0_2, .int .u64 a0_3, .int .u64 a0_4, .int .u64 a0_5] 24 (0, 0))) := ⟨by (with_reducible repeat (first | refine blk_drewN ?_ _ | refine blk_drew ?_ | refine blk_alloc ?_ _)); refine blk_far ?_ NB374_395.out _; (with_reducible repeat (first | refine blk_drewN ?_ _ | refine blk_drew ?_ | refine blk_alloc ?_ _)); refine blk_far ?_ NB374_395.out _; (with_reducible repeat (first | refine blk_drewN ?_ _ | refine blk_drew ?_ | refine blk_alloc ?_ _)); exact BK374.out⟩
           have n4_ : Aside0 (((w22.setCell ⟨gb395, 0, none⟩ (.int .u64 ((rd_T54 t377 x42_2).f0))).setCell ⟨gb395, 1, none⟩ (.int .u64 ((rd_T54 t377 x42_2).f1))).heap[gb385]? = some (.cells #[.slice (some ad394) t377.length co15, .int .u64 t380, .int .u64 t381, .int .i64 t382, .int .i64 t383] 68 (0, 0))) := ⟨by (with_reducible repeat (first | refine blk_drewN ?_ _ | refine blk_drew ?_ | refine blk_alloc ?_ _)); refine blk_far ?_ NB385_395.out _; (with_reducible repeat (first | refine blk_drewN ?_ _ | refine blk_drew ?_ | refine blk_alloc ?_ _)); refine blk_far ?_ NB385_395.out _; (with_reducible repeat (first | refine blk_drewN ?_ _ | refine blk_drew ?_ | refine blk_alloc ?_ _)); exact BK385.out⟩
           have n5_ : Aside0 (((w22.setCell ⟨gb395, 0, none⟩ (.int .u64 ((rd_T54 t377 x42_2).f0))).setCell ⟨gb395, 1, none⟩ (.int .u64 ((rd_T54 t377 x42_2).f1))).heap[gb395]? = some (.cells #[.int .u64 ((rd_T54 t377 x42_2).f0), .int .u64 ((rd_T54 t377 x42_2).f1)] 54 (0, 0))) := ⟨by (with_reducible repeat (first | refine blk_drewN ?_ _ | refine blk_drew ?_ | refine blk_alloc ?_ _)); refine blk_put (cs := #[.int .u64 ((rd_T54 t377 x42_2).f0), .int .u64 0]) ?_ 1 _ rfl; (with_reducible repeat (first | refine blk_drewN ?_ _ | refine blk_drew ?_ | refine blk_alloc ?_ _)); refine blk_put (cs := #[.int .u64 0, .int .u64 0]) ?_ 0 _ rfl; (with_reducible repeat (first | refine blk_drewN ?_ _ | refine blk_drew ?_ | refine blk_alloc ?_ _)); exact BK395.out⟩
           have n6_ : Aside0 (Below w.heap.size w ((w22.setCell ⟨gb395, 0, none⟩ (.int .u64 ((rd_T54 t377 x42_2).f0))).setCell ⟨gb395, 1, none⟩ (.int .u64 ((rd_T54 t377 x42_2).f1)))) := ⟨bB⟩
           (try clear HO_10)
           (try clear HO_40)
           (try clear HO_386000)
           (try clear BK374)
           (try clear BK385)
           (try clear BK395)
           (try clear HB)
           generalize ((w22.setCell ⟨gb395, 0, none⟩ (.int .u64 ((rd_T54 t377 x42_2).f0))).setCell ⟨gb395, 1, none⟩ (.int .u64 ((rd_T54 t377 x42_2).f1))) = w26 at n0_ n1_ n2_ n3_ n4_ n5_ n6_ ⊢
           have HO_10 := n0_
           have HO_40 := n1_
           have HO_386000 := n2_
           have BK374 := n3_
           have BK385 := n4_
           have BK395 := n5_
           have HB := n6_
           clear n0_ n1_ n2_ n3_ n4_ n5_ n6_
           have n0_ := Aside0.mk (Kd.N_drew HO_10.out)
           have n1_ := Aside0.mk (Kd.R_drew HO_40.out)
           have n2_ := Aside0.mk (Kd.R_drew HO_386000.out)
           have n3_ := Aside0.mk (blk_drew BK374.out)
           have n4_ := Aside0.mk (blk_drew BK385.out)
           have n5_ := Aside0.mk (blk_drew BK395.out)
           have n6_ := Aside0.mk (below_drew1 HB.out)
           clear HO_10
           clear HO_40
           clear HO_386000
           clear BK374
           clear BK385
           clear BK395
           clear HB
           have HO_10 := n0_
           have HO_40 := n1_
           have HO_386000 := n2_
           have BK374 := n3_
           have BK385 := n4_
           have BK395 := n5_
           have HB := n6_
           clear n0_ n1_ n2_ n3_ n4_ n5_ n6_
           refine start_ (n := 19) (S := fun w' => w'.cell? ⟨gb395, 0, none⟩ = some (.int .u64 ((rd_T54 t377 x42_2).f0)) ∧ w'.cell? ⟨gb395, 1, none⟩ = some (.int .u64 ((rd_T54 t377 x42_2).f1))) (ds := []) #[false, false, false, false, false, false, false, false, false, false, false, false, false, false, false, false, false, false, false] (by kernel_rfl) rfl rfl ⟨(blk_cell BK395.out 0).trans rfl, (blk_cell BK395.out 1).trans rfl⟩ (fun hHeld => ?_); refine with_tabW laws_FnConsistencyMade.tab11 laws_FnConsistencyMade.bits11 (fun HT_ HW_ => ?_)
           generalize w26.drew = w27 at HO_10 HO_40 HO_386000 BK374 BK385 BK395 HB hHeld ⊢
           refine pure_ (i := 0) (N := some 46) (v := ?_) (a' := ?_) #[true, false, false, false, false, false, false, false, false, false, false, false, false, false, false, false, false, false, false] rfl rfl (any_of HT_.out (by kernel_rfl)) (fun _ _ _ h => h) (Or.inl ⟨by rfl, ?_⟩) ?_ ?_
           rotate_left
           ·intro w'
            go_simp
            with_reducible rfl
           rotate_left
           ·simp only [Act.put, List.setIfInBounds_toArray, List.set_cons_zero, List.set_cons_succ, i64_w, i32_w]
            rfl
           refine take_ (i := 1) (N := some 47) (v := ?_) (a' := ?_) #[true, true, false, false, false, false, false, false, false, false, false, false, false, false, false, false, false, false, false] rfl rfl (take_ofW HT_.out HW_.out (by kernel_rfl)) (fun _ _ _ h => h) (Or.inl ⟨by rfl, ?_⟩) hHeld ?_ ?_
           rotate_left
           ·rintro w' ⟨s0, s1⟩
            go_simp
            with_reducible rfl
           rotate_left
           ·simp only [Act.put, List.setIfInBounds_toArray, List.set_cons_zero, List.set_cons_succ, i64_w, i32_w]
            rfl
           refine pure_ (i := 2) (N := some 48) (v := ?_) (a' := ?_) #[true, true, true, false, false, false, false, false, false, false, false, false, false, false, false, false, false, false, false] rfl rfl (any_of HT_.out (by kernel_rfl)) (fun _ _ _ h => h) (Or.inl ⟨by rfl, ?_⟩) ?_ ?_
           rotate_left
           ·intro w'
            go_simp
            with_reducible rfl
           rotate_left
           ·simp only [Act.put, List.setIfInBounds_toArray, List.set_cons_zero, List.set_cons_succ, i64_w, i32_w]
            rfl
           refine pure_ (i := 3) (N := some 49) (v := ?_) (a' := ?_) #[true, true, true, true, false, false, false, false, false, false, false, false, false, false, false, false, false, false, false] rfl rfl (any_of HT_.out (by kernel_rfl)) (fun _ _ _ h => h) (Or.inl ⟨by rfl, ?_⟩) ?_ ?_
           rotate_left
           ·intro w'
            go_simp
            with_reducible rfl
           rotate_left
           ·simp only [Act.put, List.setIfInBounds_toArray, List.set_cons_zero, List.set_cons_succ, i64_w, i32_w]
            rfl
           refine pure_ (i := 4) (N := some 50) (v := undef) (a' := ?_) #[true, true, true, true, true, false, false, false, false, false, false, false, false, false, false, false, false, false, false] rfl rfl (any_of HT_.out (by kernel_rfl)) (fun _ _ _ h => h) (Or.inr ⟨by rfl, rfl⟩) ?_ ?_
           rotate_left
           ·simp only [Act.put, List.setIfInBounds_toArray, List.set_cons_zero, List.set_cons_succ, i64_w, i32_w]
            rfl
           refine pure_ (i := 5) (N := some 51) (v := undef) (a' := ?_) #[true, true, true, true, true, true, false, false, false, false, false, false, false, false, false, false, false, false, false] rfl rfl (any_of HT_.out (by kernel_rfl)) (fun _ _ _ h => h) (Or.inr ⟨by rfl, rfl⟩) ?_ ?_
           rotate_left
           ·simp only [Act.put, List.setIfInBounds_toArray, List.set_cons_zero, List.set_cons_succ, i64_w, i32_w]
            rfl
           refine pure_ (i := 6) (N := some 52) (v := undef) (a' := ?_) #[true, true, true, true, true, true, true, false, false, false, false, false, false, false, false, false, false, false, false] rfl rfl (any_of HT_.out (by kernel_rfl)) (fun _ _ _ h => h) (Or.inr ⟨by rfl, rfl⟩) ?_ ?_
           rotate_left
           ·simp only [Act.put, List.setIfInBounds_toArray, List.set_cons_zero, List.set_cons_succ, i64_w, i32_w]
            rfl
           refine pure_ (i := 7) (N := some 53) (v := undef) (a' := ?_) #[true, true, true, true, true, true, true, true, false, false, false, false, false, false, false, false, false, false, false] rfl rfl (any_of HT_.out (by kernel_rfl)) (fun _ _ _ h => h) (Or.inr ⟨by rfl, rfl⟩) ?_ ?_
           rotate_left
           ·simp only [Act.put, List.setIfInBounds_toArray, List.set_cons_zero, List.set_cons_succ, i64_w, i32_w]
            rfl
           refine pure_ (i := 8) (N := some 54) (v := undef) (a' := ?_) #[true, true, true, true, true, true, true, true, true, false, false, false, false, false, false, false, false, false, false] rfl rfl (any_of HT_.out (by kernel_rfl)) (fun _ _ _ h => h) (Or.inr ⟨by rfl, rfl⟩) ?_ ?_
           rotate_left
           ·simp only [Act.put, List.setIfInBounds_toArray, List.set_cons_zero, List.set_cons_succ, i64_w, i32_w]
            rfl
           refine pure_ (i := 9) (N := some 55) (v := undef) (a' := ?_) #[true, true, true, true, true, true, true, true, true, true, false, false, false, false, false, false, false, false, false] rfl rfl (any_of HT_.out (by kernel_rfl)) (fun _ _ _ h => h) (Or.inr ⟨by rfl, rfl⟩) ?_ ?_
           rotate_left
           ·simp only [Act.put, List.setIfInBounds_toArray, List.set_cons_zero, List.set_cons_succ, i64_w, i32_w]
            rfl
           refine pure_ (i := 10) (N := some 56) (v := undef) (a' := ?_) #[true, true, true, true, true, true, true, true, true, true, true, false, false, false, false, false, false, false, false] rfl rfl (any_of HT_.out (by kernel_rfl)) (fun _ _ _ h => h) (Or.inr ⟨by rfl, rfl⟩) ?_ ?_
           rotate_left
           ·simp only [Act.put, List.setIfInBounds_toArray, List.set_cons_zero, List.set_cons_succ, i64_w, i32_w]
            rfl
           refine pure_ (i := 11) (N := some 57) (v := ?_) (a' := ?_) #[true, true, true, true, true, true, true, true, true, true, true, true, false, false, false, false, false, false, false] rfl rfl (any_of HT_.out (by kernel_rfl)) (fun _ _ _ h => h) (Or.inl ⟨by rfl, ?_⟩) ?_ ?_
           rotate_left
           ·intro w'
            go_simp
            with_reducible rfl
           rotate_left
           ·simp only [Act.put, List.setIfInBounds_toArray, List.set_cons_zero, List.set_cons_succ, i64_w, i32_w]
            rfl
           refine pure_ (i := 12) (N := some 58) (v := ?_) (a' := ?_) #[true, true, true, true, true, true, true, true, true, true, true, true, true, false, false, false, false, false, false] rfl rfl (any_of HT_.out (by kernel_rfl)) (fun _ _ _ h => h) (Or.inl ⟨by rfl, ?_⟩) ?_ ?_
           rotate_left
           ·intro w'
            go_simp
            with_reducible rfl
           rotate_left
           ·simp only [Act.put, List.setIfInBounds_toArray, List.set_cons_zero, List.set_cons_succ, i64_w, i32_w]
            rfl
           refine pure_ (i := 13) (N := some 59) (v := undef) (a' := ?_) #[true, true, true, true, true, true, true, true, true, true, true, true, true, true, false, false, false, false, false] rfl rfl (any_of HT_.out (by kernel_rfl)) (fun _ _ _ h => h) (Or.inr ⟨by rfl, rfl⟩) ?_ ?_
           rotate_left
           ·simp only [Act.put, List.setIfInBounds_toArray, List.set_cons_zero, List.set_cons_succ, i64_w, i32_w]
            rfl
           refine pure_ (i := 14) (N := some 60) (v := undef) (a' := ?_) #[true, true, true, true, true, true, true, true, true, true, true, true, true, true, true, false, false, false, false] rfl rfl (any_of HT_.out (by kernel_rfl)) (fun _ _ _ h => h) (Or.inr ⟨by rfl, rfl⟩) ?_ ?_
           rotate_left
           ·simp only [Act.put, List.setIfInBounds_toArray, List.set_cons_zero, List.set_cons_succ, i64_w, i32_w]
            rfl
           refine pure_ (i := 15) (N := some 61) (v := undef) (a' := ?_) #[true, true, true, true, true, true, true, true, true, true, true, true, true, true, true, true, false, false, false] rfl rfl (any_of HT_.out (by kernel_rfl)) (fun _ _ _ h => h) (Or.inr ⟨by rfl, rfl⟩) ?_ ?_
           rotate_left
           ·simp only [Act.put, List.setIfInBounds_toArray, List.set_cons_zero, List.set_cons_succ, i64_w, i32_w]
            rfl
           refine pure_ (i := 16) (N := some 62) (v := undef) (a' := ?_) #[true, true, true, true, true, true, true, true, true, true, true, true, true, true, true, true, true, false, false] rfl rfl (any_of HT_.out (by kernel_rfl)) (fun _ _ _ h => h) (Or.inr ⟨by rfl, rfl⟩) ?_ ?_
           rotate_left
           ·simp only [Act.put, List.setIfInBounds_toArray, List.set_cons_zero, List.set_cons_succ, i64_w, i32_w]
            rfl
           refine pure_ (i := 17) (N := some 63) (v := undef) (a' := ?_) #[true, true, true, true, true, true, true, true, true, true, true, true, true, true, true, true, true, true, false] rfl rfl (any_of HT_.out (by kernel_rfl)) (fun _ _ _ h => h) (Or.inr ⟨by rfl, rfl⟩) ?_ ?_
           rotate_left
           ·simp only [Act.put, List.setIfInBounds_toArray, List.set_cons_zero, List.set_cons_succ, i64_w, i32_w]
            rfl
           refine pure_ (i := 18) (N := some 64) (v := ?_) (a' := ?_) #[true, true, true, true, true, true, true, true, true, true, true, true, true, true, true, true, true, true, true] rfl rfl (any_of HT_.out (by kernel_rfl)) (fun _ _ _ h => h) (Or.inl ⟨by rfl, ?_⟩) ?_ ?_
           rotate_left
           ·intro w'
            go_simp
            with_reducible rfl
           rotate_left
           ·simp only [Act.put, List.setIfInBounds_toArray, List.set_cons_zero, List.set_cons_succ, i64_w, i32_w]
            rfl
           refine done_ (done_of HT_.out (by kernel_rfl)) ?_
           try go_wp2
           go_ret
           exact ⟨by first | rfl | (simp [errW_none, errW_some] <;> rfl) | (simp [*, errW_none, errW_some] <;> rfl), bB⟩
          ·rw [if_neg c21] at H
           have c21b0 : decide (64 ≤ ((rd_T54 t377 x42_2).f0)) = false := decide_eq_false c21
           clear c21
           replace H := Option.bind_eq_some_iff.mp H
           obtain ⟨⟨t396, t397⟩, A280, H⟩ := H
           replace H : ((spec_Leaves.f ((rd_T54 t377 x42_2).f0) ((rd_T54 t377 x42_2).f1)).bind fun bt398 => (if t396 ≥ bt398.2 then (some false) else ((spec_Leaves.f ((rd_T54 t377 x42_2).f0) ((rd_T54 t377 x42_2).f1)).bind fun bt400 => (if bt400.2 > (IntKind.u64.wrap ((l1.length : Int))) then (some false) else ((spec_NodeHash.f k2 a0_0 a0_1 a0_2 a0_3 a0_4 a0_5 l1 ((rd_T54 t377 x42_2).f0) ((rd_T54 t377 x42_2).f1)).bind fun t402 => (if x10_2.length < 5864062014805 then (laws_FnConsistencyMade.l0 k2 l1 a2 (IntKind.u64.wrap ((l1.length : Int))) t384 (x10_2 ++ [t402]) t377 (t377.length : Int) (wrap64 (x42_2 + 1)) a0_0 a0_1 a0_2 a0_3 a0_4 a0_5) else (none))))))) = some r := H
           have A28 := Aside0.mk A280
           clear A280
           replace H := Option.bind_eq_some_iff.mp H
           obtain ⟨⟨t398, t399⟩, A290, H⟩ := H
           replace H : (if t396 ≥ t399 then (some false) else ((spec_Leaves.f ((rd_T54 t377 x42_2).f0) ((rd_T54 t377 x42_2).f1)).bind fun bt400 => (if bt400.2 > (IntKind.u64.wrap ((l1.length : Int))) then (some false) else ((spec_NodeHash.f k2 a0_0 a0_1 a0_2 a0_3 a0_4 a0_5 l1 ((rd_T54 t377 x42_2).f0) ((rd_T54 t377 x42_2).f1)).bind fun t402 => (if x10_2.length < 5864062014805 then (laws_FnConsistencyMade.l0 k2 l1 a2 (IntKind.u64.wrap ((l1.length : Int))) t384 (x10_2 ++ [t402]) t377 (t377.length : Int) (wrap64 (x42_2 + 1)) a0_0 a0_1 a0_2 a0_3 a0_4 a0_5) else (none)))))) = some r := H
           have A29 := Aside0.mk A290
           clear A290
           by_cases c30 : t396 ≥ t399
           ·rw [if_pos c30] at H
            have c30b0 : decide (t399 ≤ t396) = true := decide_eq_true c30
            clear c30
            obtain rfl := Option.some.inj H
            have p394 : 0 ≤ (x42_2 : Int) := dA
            have q394 : x42_2 < (t377.length : Int) := dA
            obtain ⟨ad394, e394, hx394_0, hx394_1⟩ := at_T54 (Kd.R_reads' HO_40.out).2.2 x42_2 p394 q394
            cases e394
            replace p394 := eq_true p394
            replace q394 := eq_true q394
            try go_wp2_with (first | ((with_reducible refine gate_dst (N := 12) rfl ?_); refine box_event ?hg (N := 12) ?hd (cs := #[.int .u64 0, .int .u64 0]) (t := 54) ?hr ?_; (case hd => rfl); (case hg => rfl); (case hr => first | (go_simp; done) | (go_simp; rfl)); intro gb395 hg w31 hbox hb; have n0_ := Aside0.mk (Kd.N_below (Kd.N_elderB (by (with_reducible repeat (first | apply Kd.N_alloc | apply Kd.N_drewN | apply Kd.N_drew)); exact HO_10.out) gb395 (Nat.le_of_eq hg.symm)) hb); have n1_ := Aside0.mk (Kd.R_below (Kd.R_elderB (kR HO_40.out) gb395 (Nat.le_of_eq hg.symm)) hb); have n2_ := Aside0.mk (Kd.R_below (Kd.R_elderB (kR HO_386000.out) gb395 (Nat.le_of_eq hg.symm)) hb); have n3_ := Aside0.mk (blk_below (g := gb374) (o := .cells #[.int .i64 a0_0, .int .i64 a0_1, .int .i64 a0_2, .int .u64 a0_3, .int .u64 a0_4, .int .u64 a0_5] 24 (0, 0)) (kB BK374.out) hb); have n4_ := Aside0.mk (blk_below (g := gb385) (o := .cells #[.slice (some ad394) t377.length co15, .int .u64 t380, .int .u64 t381, .int .i64 t382, .int .i64 t383] 68 (0, 0)) (kB BK385.out) hb); have n5_ := Aside0.mk (below_step bB hb); have n6_ := Aside0.mk (hbox); have n7_ := Aside0.mk ((by rw [hg]; exact (below_size bB) : w.heap.size ≤ gb395)); have n8_ := Aside0.mk ((by rw [hg]; exact (below_size bB) : w.heap.size ≤ gb395)); have n9_ := Aside0.mk ((by rw [hg]; exact Nat.ne_of_lt (blk_lt (g := gb374) (o := .cells #[.int .i64 a0_0, .int .i64 a0_1, .int .i64 a0_2, .int .u64 a0_3, .int .u64 a0_4, .int .u64 a0_5] 24 (0, 0)) (kB BK374.out)) : gb374 ≠ gb395)); have n10_ := Aside0.mk ((by rw [hg]; exact Nat.ne_of_gt (blk_lt (g := gb374) (o := .cells #[.int .i64 a0_0, .int .i64 a0_1, .int .i64 a0_2, .int .u64 a0_3, .int .u64 a0_4, .int .u64 a0_5] 24 (0, 0)) (kB BK374.out)) : gb395 ≠ gb374)); have n11_ := Aside0.mk ((by rw [hg]; exact Nat.ne_of_lt (blk_lt (g := gb385) (o := .cells #[.slice (some ad394) t377.length co15, .int .u64 t380, .int .u64 t381, .int .i64 t382, .int .i64 t383] 68 (0, 0)) (kB BK385.out)) : gb385 ≠ gb395)); have n12_ := Aside0.mk ((by rw [hg]; exact Nat.ne_of_gt (blk_lt (g := gb385) (o := .cells #[.slice (some ad394) t377.length co15, .int .u64 t380, .int .u64 t381, .int .i64 t382, .int .i64 t383] 68 (0, 0)) (kB BK385.out)) : gb395 ≠ gb385)); clear HO_10; clear HO_40; clear HO_386000; clear BK374; clear BK385; clear HB; have HO_10 := n0_; have HO_40 := n1_; have HO_386000 := n2_; have BK374 := n3_; have BK385 := n4_; have HB := n5_; have BK395 := n6_; have GW395 := n7_; have GE395 := n8_; have NB374_395 := n9_; have NB395_374 := n10_; have NB385_395 := n11_; have NB395_385 := n12_; clear n0_ n1_ n2_ n3_ n4_ n5_ n6_ n7_ n8_ n9_ n10_ n11_ n12_; clear hb hbox hg; have hnb32 := NB395_374.out; have hnc32 := NB374_395.out; have hnb33 := NB395_385.out; have hnc33 := NB385_395.out; have hcz34_0 : w31.cell? ⟨gb395, 0, none⟩ = some (.int .u64 0) := (blk_cell BK395.out 0).trans rfl; have hcz34_1 : w31.cell? ⟨gb395, 1, none⟩ = some (.int .u64 0) := (blk_cell BK395.out 1).trans rfl; have hfz34_0 := blk_frozen BK395.out 0; have hfz34_1 := blk_frozen BK395.out 1))
            have n0_ : Aside0 (Kd.N (Kd.slice 5 (Kd.int .u8)) 27 ((w31.setCell ⟨gb395, 0, none⟩ (.int .u64 ((rd_T54 t377 x42_2).f0))).setCell ⟨gb395, 1, none⟩ (.int .u64 ((rd_T54 t377 x42_2).f1))) w.heap.size (fun k_ => some k_ ≠ (.slice (some ad394) t377.length co15 : Value).ownBlock ∧ some k_ ≠ (.slice (some ad394) t377.length co15 : Value).ownBlock ∧ k_ ≠ gb374 ∧ k_ ≠ gb385 ∧ k_ ≠ gb395) u10 x10_2) := ⟨by (with_reducible repeat (first | apply Kd.N_alloc | apply Kd.N_drewN | apply Kd.N_drew)); exact Kd.N_mono (Kd.N_far (p := ⟨gb395, 1, none⟩) (Kd.N_far (p := ⟨gb395, 0, none⟩) (Kd.N_mono HO_10.out (fun k_ hk => (⟨hk, hk.2⟩ : _ ∧ k_ ≠ gb395))) (fun _ hk => hk.2) (.int .u64 ((rd_T54 t377 x42_2).f0))) (fun _ hk => hk.2) (.int .u64 ((rd_T54 t377 x42_2).f1))) (fun _ hk => ⟨hk.1.1.1, ⟨hk.1.1.2.1, ⟨hk.1.1.2.2.1, ⟨hk.1.1.2.2.2, hk.1.2⟩⟩⟩⟩)⟩
            have n1_ : Aside0 (Kd.R k54 54 ((w31.setCell ⟨gb395, 0, none⟩ (.int .u64 ((rd_T54 t377 x42_2).f0))).setCell ⟨gb395, 1, none⟩ (.int .u64 ((rd_T54 t377 x42_2).f1))) w.heap.size (fun k_ => k_ ≠ gb395) (.slice (some ad394) t377.length co15) t377) := ⟨by (with_reducible repeat (first | apply Kd.R_alloc | apply Kd.R_drewN | apply Kd.R_drew)); exact Kd.R_mono (Kd.R_far (p := ⟨gb395, 1, none⟩) (Kd.R_far (p := ⟨gb395, 0, none⟩) (Kd.R_mono HO_40.out (fun k_ hk => (⟨hk, hk.2⟩ : _ ∧ k_ ≠ gb395))) (fun _ hk => hk.2) (.int .u64 ((rd_T54 t377 x42_2).f0))) (fun _ hk => hk.2) (.int .u64 ((rd_T54 t377 x42_2).f1))) (fun _ hk => hk.1.2)⟩
            have n2_ : Aside0 (Kd.R k54 54 ((w31.setCell ⟨gb395, 0, none⟩ (.int .u64 ((rd_T54 t377 x42_2).f0))).setCell ⟨gb395, 1, none⟩ (.int .u64 ((rd_T54 t377 x42_2).f1))) w.heap.size (fun k_ => k_ ≠ gb395) (.slice (some ad394) t377.length co15) t377) := ⟨by (with_reducible repeat (first | apply Kd.R_alloc | apply Kd.R_drewN | apply Kd.R_drew)); exact Kd.R_mono (Kd.R_far (p := ⟨gb395, 1, none⟩) (Kd.R_far (p := ⟨gb395, 0, none⟩) (Kd.R_mono HO_386000.out (fun k_ hk => (⟨hk, hk.2⟩ : _ ∧ k_ ≠ gb395))) (fun _ hk => hk.2) (.int .u64 ((rd_T54 t377 x42_2).f0))) (fun _ hk => hk.2) (.int .u64 ((rd_T54 t377 x42_2).f1))) (fun _ hk => hk.1.2)⟩
            have n3_ : Aside0 (((w31.setCell ⟨gb395, 0, none⟩ (.int .u64 ((rd_T54 t377 x42_2).f0))).setCell ⟨gb395, 1, none⟩ (.int .u64 ((rd_T54 t377 x42_2).f1))).heap[gb374]? = some (.cells #[.int .i64 a0_0, .int .i64 a0_1, .int .i64 a0_2, .int .u64 a0_3, .int .u64 a0_4, .int .u64 a0_5] 24 (0, 0))) := ⟨by (with_reducible repeat (first | refine blk_drewN ?_ _ | refine blk_drew ?_ | refine blk_alloc ?_ _)); refine blk_far ?_ NB374_395.out _; (with_reducible repeat (first | refine blk_drewN ?_ _ | refine blk_drew ?_ | refine blk_alloc ?_ _)); refine blk_far ?_ NB374_395.out _; (with_reducible repeat (first | refine blk_drewN ?_ _ | refine blk_drew ?_ | refine blk_alloc ?_ _)); exact BK374.out⟩
            have n4_ : Aside0 (((w31.setCell ⟨gb395, 0, none⟩ (.int .u64 ((rd_T54 t377 x42_2).f0))).setCell ⟨gb395, 1, none⟩ (.int .u64 ((rd_T54 t377 x42_2).f1))).heap[gb385]? = some (.cells #[.slice (some ad394) t377.length co15, .int .u64 t380, .int .u64 t381, .int .i64 t382, .int .i64 t383] 68 (0, 0))) := ⟨by (with_reducible repeat (first | refine blk_drewN ?_ _ | refine blk_drew ?_ | refine blk_alloc ?_ _)); refine blk_far ?_ NB385_395.out _; (with_reducible repeat (first | refine blk_drewN ?_ _ | refine blk_drew ?_ | refine blk_alloc ?_ _)); refine blk_far ?_ NB385_395.out _; (with_reducible repeat (first | refine blk_drewN ?_ _ | refine blk_drew ?_ | refine blk_alloc ?_ _)); exact BK385.out⟩
            have n5_ : Aside0 (((w31.setCell ⟨gb395, 0, none⟩ (.int .u64 ((rd_T54 t377 x42_2).f0))).setCell ⟨gb395, 1, none⟩ (.int .u64 ((rd_T54 t377 x42_2).f1))).heap[gb395]? = some (.cells #[.int .u64 ((rd_T54 t377 x42_2).f0), .int .u64 ((rd_T54 t377 x42_2).f1)] 54 (0, 0))) := ⟨by (with_reducible repeat (first | refine blk_drewN ?_ _ | refine blk_drew ?_ | refine blk_alloc ?_ _)); refine blk_put (cs := #[.int .u64 ((rd_T54 t377 x42_2).f0), .int .u64 0]) ?_ 1 _ rfl; (with_reducible repeat (first | refine blk_drewN ?_ _ | refine blk_drew ?_ | refine blk_alloc ?_ _)); refine blk_put (cs := #[.int .u64 0, .int .u64 0]) ?_ 0 _ rfl; (with_reducible repeat (first | refine blk_drewN ?_ _ | refine blk_drew ?_ | refine blk_alloc ?_ _)); exact BK395.out⟩
            have n6_ : Aside0 (Below w.heap.size w ((w31.setCell ⟨gb395, 0, none⟩ (.int .u64 ((rd_T54 t377 x42_2).f0))).setCell ⟨gb395, 1, none⟩ (.int .u64 ((rd_T54 t377 x42_2).f1)))) := ⟨bB⟩
            (try clear HO_10)
            (try clear HO_40)
            (try clear HO_386000)
            (try clear BK374)
            (try clear BK385)
            (try clear BK395)
            (try clear HB)
            generalize ((w31.setCell ⟨gb395, 0, none⟩ (.int .u64 ((rd_T54 t377 x42_2).f0))).setCell ⟨gb395, 1, none⟩ (.int .u64 ((rd_T54 t377 x42_2).f1))) = w35 at n0_ n1_ n2_ n3_ n4_ n5_ n6_ ⊢
            have HO_10 := n0_
            have HO_40 := n1_
            have HO_386000 := n2_
            have BK374 := n3_
            have BK385 := n4_
            have BK395 := n5_
            have HB := n6_
            clear n0_ n1_ n2_ n3_ n4_ n5_ n6_
            have n0_ := Aside0.mk (Kd.N_drew HO_10.out)
            have n1_ := Aside0.mk (Kd.R_drew HO_40.out)
            have n2_ := Aside0.mk (Kd.R_drew HO_386000.out)
            have n3_ := Aside0.mk (blk_drew BK374.out)
            have n4_ := Aside0.mk (blk_drew BK385.out)
            have n5_ := Aside0.mk (blk_drew BK395.out)
            have n6_ := Aside0.mk (below_drew1 HB.out)
            clear HO_10
            clear HO_40
            clear HO_386000
            clear BK374
            clear BK385
            clear BK395
            clear HB
            have HO_10 := n0_
            have HO_40 := n1_
            have HO_386000 := n2_
            have BK374 := n3_
            have BK385 := n4_
            have BK395 := n5_
            have HB := n6_
            clear n0_ n1_ n2_ n3_ n4_ n5_ n6_
            refine start_ (n := 19) (S := fun w' => w'.cell? ⟨gb395, 0, none⟩ = some (.int .u64 ((rd_T54 t377 x42_2).f0)) ∧ w'.cell? ⟨gb395, 1, none⟩ = some (.int .u64 ((rd_T54 t377 x42_2).f1))) (ds := []) #[false, false, false, false, false, false, false, false, false, false, false, false, false, false, false, false, false, false, false] (by kernel_rfl) rfl rfl ⟨(blk_cell BK395.out 0).trans rfl, (blk_cell BK395.out 1).trans rfl⟩ (fun hHeld => ?_); refine with_tabW laws_FnConsistencyMade.tab11 laws_FnConsistencyMade.bits11 (fun HT_ HW_ => ?_)
            generalize w35.drew = w36 at HO_10 HO_40 HO_386000 BK374 BK385 BK395 HB hHeld ⊢
            refine pure_ (i := 0) (N := some 46) (v := ?_) (a' := ?_) #[true, false, false, false, false, false, false, false, false, false, false, false, false, false, false, false, false, false, false] rfl rfl (any_of HT_.out (by kernel_rfl)) (fun _ _ _ h => h) (Or.inl ⟨by rfl, ?_⟩) ?_ ?_
            rotate_left
            ·intro w'
             go_simp
             with_reducible rfl
            rotate_left
            ·simp only [Act.put, List.setIfInBounds_toArray, List.set_cons_zero, List.set_cons_succ, i64_w, i32_w]
             rfl
            refine take_ (i := 1) (N := some 47) (v := ?_) (a' := ?_) #[true, true, false, false, false, false, false, false, false, false, false, false, false, false, false, false, false, false, false] rfl rfl (take_ofW HT_.out HW_.out (by kernel_rfl)) (fun _ _ _ h => h) (Or.inl ⟨by rfl, ?_⟩) hHeld ?_ ?_
            rotate_left
            ·rintro w' ⟨s0, s1⟩
             go_simp
             with_reducible rfl
            rotate_left
            ·simp only [Act.put, List.setIfInBounds_toArray, List.set_cons_zero, List.set_cons_succ, i64_w, i32_w]
             rfl
            refine pure_ (i := 2) (N := some 48) (v := ?_) (a' := ?_) #[true, true, true, false, false, false, false, false, false, false, false, false, false, false, false, false, false, false, false] rfl rfl (any_of HT_.out (by kernel_rfl)) (fun _ _ _ h => h) (Or.inl ⟨by rfl, ?_⟩) ?_ ?_
            rotate_left
            ·intro w'
             go_simp
             with_reducible rfl
            rotate_left
            ·simp only [Act.put, List.setIfInBounds_toArray, List.set_cons_zero, List.set_cons_succ, i64_w, i32_w]
             rfl
            refine pure_ (i := 3) (N := some 49) (v := ?_) (a' := ?_) #[true, true, true, true, false, false, false, false, false, false, false, false, false, false, false, false, false, false, false] rfl rfl (any_of HT_.out (by kernel_rfl)) (fun _ _ _ h => h) (Or.inl ⟨by rfl, ?_⟩) ?_ ?_
            rotate_left
            ·intro w'
             go_simp
             with_reducible rfl
            rotate_left
            ·simp only [Act.put, List.setIfInBounds_toArray, List.set_cons_zero, List.set_cons_succ, i64_w, i32_w]
             rfl
            refine take_ (i := 4) (N := some 50) (v := ?_) (a' := ?_) #[true, true, true, true, true, false, false, false, false, false, false, false, false, false, false, false, false, false, false] rfl rfl (take_ofW HT_.out HW_.out (by kernel_rfl)) (fun _ _ _ h => h) (Or.inl ⟨by rfl, ?_⟩) hHeld ?_ ?_
            rotate_left
            ·rintro w' ⟨s0, s1⟩
             go_simp
             with_reducible rfl
            rotate_left
            ·simp only [Act.put, List.setIfInBounds_toArray, List.set_cons_zero, List.set_cons_succ, i64_w, i32_w]
             rfl
            refine take_ (i := 7) (N := some 53) (v := ?_) (a' := ?_) #[true, true, true, true, true, false, false, true, false, false, false, false, false, false, false, false, false, false, false] rfl rfl (take_ofW HT_.out HW_.out (by kernel_rfl)) (fun _ _ _ h => h) (Or.inl ⟨by rfl, ?_⟩) hHeld ?_ ?_
            rotate_left
            ·rintro w' ⟨s0, s1⟩
             go_simp
             with_reducible rfl
            rotate_left
            ·simp only [Act.put, List.setIfInBounds_toArray, List.set_cons_zero, List.set_cons_succ, i64_w, i32_w]
             rfl
            refine one_ (i := 5) (N := some 51) #[true, true, true, true, true, true, false, true, false, false, false, false, false, false, false, false, false, false, false] rfl rfl (one_of HT_.out (by kernel_rfl)) (by decide) (fun K hK => ?_)
            refine goes_ Tryd.func30 (by kernel_rfl) rfl #[.agg #[.int .u64 ((rd_T54 t377 x42_2).f0), .int .u64 ((rd_T54 t377 x42_2).f1)]] (by rfl) rfl rfl aV ?_
            with_reducible refine (spec_Leaves.calls ((rd_T54 t377 x42_2).f0) ((rd_T54 t377 x42_2).f1) t396 t397 _ A28.out).mono ?_
            rintro e w37 ⟨rfl, hb⟩
            refine ⟨_, rfl, ?_⟩
            have n0_ := Aside0.mk (Kd.N_below (by (with_reducible repeat (first | apply Kd.N_alloc | apply Kd.N_drewN | apply Kd.N_drew)); exact HO_10.out) hb)
            have n1_ := Aside0.mk (Kd.R_below (kR HO_40.out) hb)
            have n2_ := Aside0.mk (Kd.R_below (kR HO_386000.out) hb)
            have n3_ := Aside0.mk (blk_below (g := gb374) (o := .cells #[.int .i64 a0_0, .int .i64 a0_1, .int .i64 a0_2, .int .u64 a0_3, .int .u64 a0_4, .int .u64 a0_5] 24 (0, 0)) (kB BK374.out) hb)
            have n4_ := Aside0.mk (blk_below (g := gb385) (o := .cells #[.slice (some ad394) t377.length co15, .int .u64 t380, .int .u64 t381, .int .i64 t382, .int .i64 t383] 68 (0, 0)) (kB BK385.out) hb)
            have n5_ := Aside0.mk (blk_below (g := gb395) (o := .cells #[.int .u64 ((rd_T54 t377 x42_2).f0), .int .u64 ((rd_T54 t377 x42_2).f1)] 54 (0, 0)) (kB BK395.out) hb)
            have n6_ := Aside0.mk (below_step bB hb)
            clear HO_10
            clear HO_40
            clear HO_386000
            clear BK374
            clear BK385
            clear BK395
            clear HB
            have HO_10 := n0_
            have HO_40 := n1_
            have HO_386000 := n2_
            have BK374 := n3_
            have BK385 := n4_
            have BK395 := n5_
            have HB := n6_
            clear n0_ n1_ n2_ n3_ n4_ n5_ n6_
            (try clear hb)
            (try clear hb2)
            (try clear hk)
            (try clear hi)
            refine hK.out _ _ ⟨(blk_cell BK395.out 0).trans rfl, (blk_cell BK395.out 1).trans rfl⟩ (fun hHeld => ?_)
            clear hK K
            refine norm_ (a' := ?_) ?_ ?_
            rotate_left
            ·show Act.put _ (some 51) _ = _
             simp only [Act.put, List.setIfInBounds_toArray, List.set_cons_zero, List.set_cons_succ, i64_w, i32_w]
             rfl
            refine pure_ (i := 6) (N := some 52) (v := ?_) (a' := ?_) #[true, true, true, true, true, true, true, true, false, false, false, false, false, false, false, false, false, false, false] rfl rfl (any_of HT_.out (by kernel_rfl)) (fun _ _ _ h => h) (Or.inl ⟨by rfl, ?_⟩) ?_ ?_
            rotate_left
            ·intro w'
             go_simp
             with_reducible rfl
            rotate_left
            ·simp only [Act.put, List.setIfInBounds_toArray, List.set_cons_zero, List.set_cons_succ, i64_w, i32_w]
             rfl
            refine one_ (i := 8) (N := some 54) #[true, true, true, true, true, true, true, true, true, false, false, false, false, false, false, false, false, false, false] rfl rfl (one_of HT_.out (by kernel_rfl)) (by decide) (fun K hK => ?_)
            refine goes_ Tryd.func30 (by kernel_rfl) rfl #[.agg #[.int .u64 ((rd_T54 t377 x42_2).f0), .int .u64 ((rd_T54 t377 x42_2).f1)]] (by rfl) rfl rfl aV ?_
            with_reducible refine (spec_Leaves.calls ((rd_T54 t377 x42_2).f0) ((rd_T54 t377 x42_2).f1) t398 t399 _ A29.out).mono ?_
            rintro e w38 ⟨rfl, hb⟩
            refine ⟨_, rfl, ?_⟩
            have n0_ := Aside0.mk (Kd.N_below (by (with_reducible repeat (first | apply Kd.N_alloc | apply Kd.N_drewN | apply Kd.N_drew)); exact HO_10.out) hb)
            have n1_ := Aside0.mk (Kd.R_below (kR HO_40.out) hb)
            have n2_ := Aside0.mk (Kd.R_below (kR HO_386000.out) hb)
            have n3_ := Aside0.mk (blk_below (g := gb374) (o := .cells #[.int .i64 a0_0, .int .i64 a0_1, .int .i64 a0_2, .int .u64 a0_3, .int .u64 a0_4, .int .u64 a0_5] 24 (0, 0)) (kB BK374.out) hb)
            have n4_ := Aside0.mk (blk_below (g := gb385) (o := .cells #[.slice (some ad394) t377.length co15, .int .u64 t380, .int .u64 t381, .int .i64 t382, .int .i64 t383] 68 (0, 0)) (kB BK385.out) hb)
            have n5_ := Aside0.mk (blk_below (g := gb395) (o := .cells #[.int .u64 ((rd_T54 t377 x42_2).f0), .int .u64 ((rd_T54 t377 x42_2).f1)] 54 (0, 0)) (kB BK395.out) hb)
            have n6_ := Aside0.mk (below_step bB hb)
            clear HO_10
            clear HO_40
            clear HO_386000
            clear BK374
            clear BK385
            clear BK395
            clear HB
            have HO_10 := n0_
            have HO_40 := n1_
            have HO_386000 := n2_
            have BK374 := n3_
            have BK385 := n4_
            have BK395 := n5_
            have HB := n6_
            clear n0_ n1_ n2_ n3_ n4_ n5_ n6_
            (try clear hb)
            (try clear hb2)
            (try clear hk)
            (try clear hi)
            refine hK.out _ _ ⟨(blk_cell BK395.out 0).trans rfl, (blk_cell BK395.out 1).trans rfl⟩ (fun hHeld => ?_)
            clear hK K
            refine norm_ (a' := ?_) ?_ ?_
            rotate_left
            ·show Act.put _ (some 54) _ = _
             simp only [Act.put, List.setIfInBounds_toArray, List.set_cons_zero, List.set_cons_succ, i64_w, i32_w]
             rfl
            refine pure_ (i := 9) (N := some 55) (v := ?_) (a' := ?_) #[true, true, true, true, true, true, true, true, true, true, false, false, false, false, false, false, false, false, false] rfl rfl (any_of HT_.out (by kernel_rfl)) (fun _ _ _ h => h) (Or.inl ⟨by rfl, ?_⟩) ?_ ?_
            rotate_left
            ·intro w'
             go_simp
             with_reducible rfl
            rotate_left
            ·simp only [Act.put, List.setIfInBounds_toArray, List.set_cons_zero, List.set_cons_succ, i64_w, i32_w]
             rfl
            refine pure_ (i := 10) (N := some 56) (v := ?_) (a' := ?_) #[true, true, true, true, true, true, true, true, true, true, true, false, false, false, false, false, false, false, false] rfl rfl (any_of HT_.out (by kernel_rfl)) (fun _ _ _ h => h) (Or.inl ⟨by rfl, ?_⟩) ?_ ?_
            rotate_left
            ·intro w'
             go_simp
             with_reducible rfl
            rotate_left
            ·simp only [Act.put, List.setIfInBounds_toArray, List.set_cons_zero, List.set_cons_succ, i64_w, i32_w]
             rfl
            refine pure_ (i := 11) (N := some 57) (v := ?_) (a' := ?_) #[true, true, true, true, true, true, true, true, true, true, true, true, false, false, false, false, false, false, false] rfl rfl (any_of HT_.out (by kernel_rfl)) (fun _ _ _ h => h) (Or.inl ⟨by rfl, ?_⟩) ?_ ?_
            rotate_left
            ·intro w'
             go_simp
             with_reducible rfl
            rotate_left
            ·simp only [Act.put, List.setIfInBounds_toArray, List.set_cons_zero, List.set_cons_succ, i64_w, i32_w]
             rfl
            refine pure_ (i := 12) (N := some 58) (v := ?_) (a' := ?_) #[true, true, true, true, true, true, true, true, true, true, true, true, true, false, false, false, false, false, false] rfl rfl (any_of HT_.out (by kernel_rfl)) (fun _ _ _ h => h) (Or.inl ⟨by rfl, ?_⟩) ?_ ?_
            rotate_left
            ·intro w'
             go_simp
             with_reducible rfl
            rotate_left
            ·simp only [Act.put, List.setIfInBounds_toArray, List.set_cons_zero, List.set_cons_succ, i64_w, i32_w]
             rfl
            refine pure_ (i := 13) (N := some 59) (v := undef) (a' := ?_) #[true, true, true, true, true, true, true, true, true, true, true, true, true, true, false, false, false, false, false] rfl rfl (any_of HT_.out (by kernel_rfl)) (fun _ _ _ h => h) (Or.inr ⟨by rfl, rfl⟩) ?_ ?_
            rotate_left
            ·simp only [Act.put, List.setIfInBounds_toArray, List.set_cons_zero, List.set_cons_succ, i64_w, i32_w]
             rfl
            refine pure_ (i := 14) (N := some 60) (v := undef) (a' := ?_) #[true, true, true, true, true, true, true, true, true, true, true, true, true, true, true, false, false, false, false] rfl rfl (any_of HT_.out (by kernel_rfl)) (fun _ _ _ h => h) (Or.inr ⟨by rfl, rfl⟩) ?_ ?_
            rotate_left
            ·simp only [Act.put, List.setIfInBounds_toArray, List.set_cons_zero, List.set_cons_succ, i64_w, i32_w]
             rfl
            refine pure_ (i := 15) (N := some 61) (v := undef) (a' := ?_) #[true, true, true, true, true, true, true, true, true, true, true, true, true, true, true, true, false, false, false] rfl rfl (any_of HT_.out (by kernel_rfl)) (fun _ _ _ h => h) (Or.inr ⟨by rfl, rfl⟩) ?_ ?_
            rotate_left
            ·simp only [Act.put, List.setIfInBounds_toArray, List.set_cons_zero, List.set_cons_succ, i64_w, i32_w]
             rfl
            refine pure_ (i := 16) (N := some 62) (v := undef) (a' := ?_) #[true, true, true, true, true, true, true, true, true, true, true, true, true, true, true, true, true, false, false] rfl rfl (any_of HT_.out (by kernel_rfl)) (fun _ _ _ h => h) (Or.inr ⟨by rfl, rfl⟩) ?_ ?_
            rotate_left
            ·simp only [Act.put, List.setIfInBounds_toArray, List.set_cons_zero, List.set_cons_succ, i64_w, i32_w]
             rfl
            refine pure_ (i := 17) (N := some 63) (v := undef) (a' := ?_) #[true, true, true, true, true, true, true, true, true, true, true, true, true, true, true, true, true, true, false] rfl rfl (any_of HT_.out (by kernel_rfl)) (fun _ _ _ h => h) (Or.inr ⟨by rfl, rfl⟩) ?_ ?_
            rotate_left
            ·simp only [Act.put, List.setIfInBounds_toArray, List.set_cons_zero, List.set_cons_succ, i64_w, i32_w]
             rfl
            refine pure_ (i := 18) (N := some 64) (v := ?_) (a' := ?_) #[true, true, true, true, true, true, true, true, true, true, true, true, true, true, true, true, true, true, true] rfl rfl (any_of HT_.out (by kernel_rfl)) (fun _ _ _ h => h) (Or.inl ⟨by rfl, ?_⟩) ?_ ?_
            rotate_left
            ·intro w'
             go_simp
             with_reducible rfl
            rotate_left
            ·simp only [Act.put, List.setIfInBounds_toArray, List.set_cons_zero, List.set_cons_succ, i64_w, i32_w]
             rfl
            refine done_ (done_of HT_.out (by kernel_rfl)) ?_
            try go_wp2
            go_ret
            exact ⟨by first | rfl | (simp [errW_none, errW_some] <;> rfl) | (simp [*, errW_none, errW_some] <;> rfl), bB⟩
           ·rw [if_neg c30] at H
            have c30b0 : decide (t399 ≤ t396) = false := decide_eq_false c30
            clear c30
            replace H := Option.bind_eq_some_iff.mp H
            obtain ⟨⟨t400, t401⟩, A390, H⟩ := H
            replace H : (if t401 > (IntKind.u64.wrap ((l1.length : Int))) then (some false) else ((spec_NodeHash.f k2 a0_0 a0_1 a0_2 a0_3 a0_4 a0_5 l1 ((rd_T54 t377 x42_2).f0) ((rd_T54 t377 x42_2).f1)).bind fun t402 => (if x10_2.length < 5864062014805 then (laws_FnConsistencyMade.l0 k2 l1 a2 (IntKind.u64.wrap ((l1.length : Int))) t384 (x10_2 ++ [t402]) t377 (t377.length : Int) (wrap64 (x42_2 + 1)) a0_0 a0_1 a0_2 a0_3 a0_4 a0_5) else (none)))) = some r := H
            have A39 := Aside0.mk A390
            clear A390
            by_cases c40 : t401 > (IntKind.u64.wrap ((l1.length : Int)))
            ·rw [if_pos c40] at H
             have c40b0 : decide ((IntKind.u64.wrap ((l1.length : Int))) < t401) = true := decide_eq_true c40
             clear c40
             obtain rfl := Option.some.inj H
             have p394 : 0 ≤ (x42_2 : Int) := dA
             have q394 : x42_2 < (t377.length : Int) := dA
             obtain ⟨ad394, e394, hx394_0, hx394_1⟩ := at_T54 (Kd.R_reads' HO_40.out).2.2 x42_2 p394 q394
             cases e394
             replace p394 := eq_true p394
             replace q394 := eq_true q394
             try go_wp2_with (first | ((with_reducible refine gate_dst (N := 12) rfl ?_); refine box_event ?hg (N := 12) ?hd (cs := #[.int .u64 0, .int .u64 0]) (t := 54) ?hr ?_; (case hd => rfl); (case hg => rfl); (case hr => first | (go_simp; done) | (go_simp; rfl)); intro gb395 hg w41 hbox hb; have n0_ := Aside0.mk (Kd.N_below (Kd.N_elderB (by (with_reducible repeat (first | apply Kd.N_alloc | apply Kd.N_drewN | apply Kd.N_drew)); exact HO_10.out) gb395 (Nat.le_of_eq hg.symm)) hb); have n1_ := Aside0.mk (Kd.R_below (Kd.R_elderB (kR HO_40.out) gb395 (Nat.le_of_eq hg.symm)) hb); have n2_ := Aside0.mk (Kd.R_below (Kd.R_elderB (kR HO_386000.out) gb395 (Nat.le_of_eq hg.symm)) hb); have n3_ := Aside0.mk (blk_below (g := gb374) (o := .cells #[.int .i64 a0_0, .int .i64 a0_1, .int .i64 a0_2, .int .u64 a0_3, .int .u64 a0_4, .int .u64 a0_5] 24 (0, 0)) (kB BK374.out) hb); have n4_ := Aside0.mk (blk_below (g := gb385) (o := .cells #[.slice (some ad394) t377.length co15, .int .u64 t380, .int .u64 t381, .int .i64 t382, .int .i64 t383] 68 (0, 0)) (kB BK385.out) hb); have n5_ := Aside0.mk (below_step bB hb); have n6_ := Aside0.mk (hbox); have n7_ := Aside0.mk ((by rw [hg]; exact (below_size bB) : w.heap.size ≤ gb395)); have n8_ := Aside0.mk ((by rw [hg]; exact (below_size bB) : w.heap.size ≤ gb395)); have n9_ := Aside0.mk ((by rw [hg]; exact Nat.ne_of_lt (blk_lt (g := gb374) (o := .cells #[.int .i64 a0_0, .int .i64 a0_1, .int .i64 a0_2, .int .u64 a0_3, .int .u64 a0_4, .int .u64 a0_5] 24 (0, 0)) (kB BK374.out)) : gb374 ≠ gb395)); have n10_ := Aside0.mk ((by rw [hg]; exact Nat.ne_of_gt (blk_lt (g := gb374) (o := .cells #[.int .i64 a0_0, .int .i64 a0_1, .int .i64 a0_2, .int .u64 a0_3, .int .u64 a0_4, .int .u64 a0_5] 24 (0, 0)) (kB BK374.out)) : gb395 ≠ gb374)); have n11_ := Aside0.mk ((by rw [hg]; exact Nat.ne_of_lt (blk_lt (g := gb385) (o := .cells #[.slice (some ad394) t377.length co15, .int .u64 t380, .int .u64 t381, .int .i64 t382, .int .i64 t383] 68 (0, 0)) (kB BK385.out)) : gb385 ≠ gb395)); have n12_ := Aside0.mk ((by rw [hg]; exact Nat.ne_of_gt (blk_lt (g := gb385) (o := .cells #[.slice (some ad394) t377.length co15, .int .u64 t380, .int .u64 t381, .int .i64 t382, .int .i64 t383] 68 (0, 0)) (kB BK385.out)) : gb395 ≠ gb385)); clear HO_10; clear HO_40; clear HO_386000; clear BK374; clear BK385; clear HB; have HO_10 := n0_; have HO_40 := n1_; have HO_386000 := n2_; have BK374 := n3_; have BK385 := n4_; have HB := n5_; have BK395 := n6_; have GW395 := n7_; have GE395 := n8_; have NB374_395 := n9_; have NB395_374 := n10_; have NB385_395 := n11_; have NB395_385 := n12_; clear n0_ n1_ n2_ n3_ n4_ n5_ n6_ n7_ n8_ n9_ n10_ n11_ n12_; clear hb hbox hg; have hnb42 := NB395_374.out; have hnc42 := NB374_395.out; have hnb43 := NB395_385.out; have hnc43 := NB385_395.out; have hcz44_0 : w41.cell? ⟨gb395, 0, none⟩ = some (.int .u64 0) := (blk_cell BK395.out 0).trans rfl; have hcz44_1 : w41.cell? ⟨gb395, 1, none⟩ = some (.int .u64 0) := (blk_cell BK395.out 1).trans rfl; have hfz44_0 := blk_frozen BK395.out 0; have hfz44_1 := blk_frozen BK395.out 1))
             have n0_ : Aside0 (Kd.N (Kd.slice 5 (Kd.int .u8)) 27 ((w41.setCell ⟨gb395, 0, none⟩ (.int .u64 ((rd_T54 t377 x42_2).f0))).setCell ⟨gb395, 1, none⟩ (.int .u64 ((rd_T54 t377 x42_2).f1))) w.heap.size (fun k_ => some k_ ≠ (.slice (some ad394) t377.length co15 : Value).ownBlock ∧ some k_ ≠ (.slice (some ad394) t377.length co15 : Value).ownBlock ∧ k_ ≠ gb374 ∧ k_ ≠ gb385 ∧ k_ ≠ gb395) u10 x10_2) := ⟨by (with_reducible repeat (first | apply Kd.N_alloc | apply Kd.N_drewN | apply Kd.N_drew)); exact Kd.N_mono (Kd.N_far (p := ⟨gb395, 1, none⟩) (Kd.N_far (p := ⟨gb395, 0, none⟩) (Kd.N_mono HO_10.out (fun k_ hk => (⟨hk, hk.2⟩ : _ ∧ k_ ≠ gb395))) (fun _ hk => hk.2) (.int .u64 ((rd_T54 t377 x42_2).f0))) (fun _ hk => hk.2) (.int .u64 ((rd_T54 t377 x42_2).f1))) (fun _ hk => ⟨hk.1.1.1, ⟨hk.1.1.2.1, ⟨hk.1.1.2.2.1, ⟨hk.1.1.2.2.2, hk.1.2⟩⟩⟩⟩)⟩
             have n1_ : Aside0 (Kd.R k54 54 ((w41.setCell ⟨gb395, 0, none⟩ (.int .u64 ((rd_T54 t377 x42_2).f0))).setCell ⟨gb395, 1, none⟩ (.int .u64 ((rd_T54 t377 x42_2).f1))) w.heap.size (fun k_ => k_ ≠ gb395) (.slice (some ad394) t377.length co15) t377) := ⟨by (with_reducible repeat (first | apply Kd.R_alloc | apply Kd.R_drewN | apply Kd.R_drew)); exact Kd.R_mono (Kd.R_far (p := ⟨gb395, 1, none⟩) (Kd.R_far (p := ⟨gb395, 0, none⟩) (Kd.R_mono HO_40.out (fun k_ hk => (⟨hk, hk.2⟩ : _ ∧ k_ ≠ gb395))) (fun _ hk => hk.2) (.int .u64 ((rd_T54 t377 x42_2).f0))) (fun _ hk => hk.2) (.int .u64 ((rd_T54 t377 x42_2).f1))) (fun _ hk => hk.1.2)⟩
             have n2_ : Aside0 (Kd.R k54 54 ((w41.setCell ⟨gb395, 0, none⟩ (.int .u64 ((rd_T54 t377 x42_2).f0))).setCell ⟨gb395, 1, none⟩ (.int .u64 ((rd_T54 t377 x42_2).f1))) w.heap.size (fun k_ => k_ ≠ gb395) (.slice (some ad394) t377.length co15) t377) := ⟨by (with_reducible repeat (first | apply Kd.R_alloc | apply Kd.R_drewN | apply Kd.R_drew)); exact Kd.R_mono (Kd.R_far (p := ⟨gb395, 1, none⟩) (Kd.R_far (p := ⟨gb395, 0, none⟩) (Kd.R_mono HO_386000.out (fun k_ hk => (⟨hk, hk.2⟩ : _ ∧ k_ ≠ gb395))) (fun _ hk => hk.2) (.int .u64 ((rd_T54 t377 x42_2).f0))) (fun _ hk => hk.2) (.int .u64 ((rd_T54 t377 x42_2).f1))) (fun _ hk => hk.1.2)⟩
             have n3_ : Aside0 (((w41.setCell ⟨gb395, 0, none⟩ (.int .u64 ((rd_T54 t377 x42_2).f0))).setCell ⟨gb395, 1, none⟩ (.int .u64 ((rd_T54 t377 x42_2).f1))).heap[gb374]? = some (.cells #[.int .i64 a0_0, .int .i64 a0_1, .int .i64 a0_2, .int .u64 a0_3, .int .u64 a0_4, .int .u64 a0_5] 24 (0, 0))) := ⟨by (with_reducible repeat (first | refine blk_drewN ?_ _ | refine blk_drew ?_ | refine blk_alloc ?_ _)); refine blk_far ?_ NB374_395.out _; (with_reducible repeat (first | refine blk_drewN ?_ _ | refine blk_drew ?_ | refine blk_alloc ?_ _)); refine blk_far ?_ NB374_395.out _; (with_reducible repeat (first | refine blk_drewN ?_ _ | refine blk_drew ?_ | refine blk_alloc ?_ _)); exact BK374.out⟩
             have n4_ : Aside0 (((w41.setCell ⟨gb395, 0, none⟩ (.int .u64 ((rd_T54 t377 x42_2).f0))).setCell ⟨gb395, 1, none⟩ (.int .u64 ((rd_T54 t377 x42_2).f1))).heap[gb385]? = some (.cells #[.slice (some ad394) t377.length co15, .int .u64 t380, .int .u64 t381, .int .i64 t382, .int .i64 t383] 68 (0, 0))) := ⟨by (with_reducible repeat (first | refine blk_drewN ?_ _ | refine blk_drew ?_ | refine blk_alloc ?_ _)); refine blk_far ?_ NB385_395.out _; (with_reducible repeat (first | refine blk_drewN ?_ _ | refine blk_drew ?_ | refine blk_alloc ?_ _)); refine blk_far ?_ NB385_395.out _; (with_reducible repeat (first | refine blk_drewN ?_ _ | refine blk_drew ?_ | refine blk_alloc ?_ _)); exact BK385.out⟩
             have n5_ : Aside0 (((w41.setCell ⟨gb395, 0, none⟩ (.int .u64 ((rd_T54 t377 x42_2).f0))).setCell ⟨gb395, 1, none⟩ (.int .u64 ((rd_T54 t377 x42_2).f1))).heap[gb395]? = some (.cells #[.int .u64 ((rd_T54 t377 x42_2).f0), .int .u64 ((rd_T54 t377 x42_2).f1)] 54 (0, 0))) := ⟨by (with_reducible repeat (first | refine blk_drewN ?_ _ | refine blk_drew ?_ | refine blk_alloc ?_ _)); refine blk_put (cs := #[.int .u64 ((rd_T54 t377 x42_2).f0), .int .u64 0]) ?_ 1 _ rfl; (with_reducible repeat (first | refine blk_drewN ?_ _ | refine blk_drew ?_ | refine blk_alloc ?_ _)); refine blk_put (cs := #[.int .u64 0, .int .u64 0]) ?_ 0 _ rfl; (with_reducible repeat (first | refine blk_drewN ?_ _ | refine blk_drew ?_ | refine blk_alloc ?_ _)); exact BK395.out⟩
             have n6_ : Aside0 (Below w.heap.size w ((w41.setCell ⟨gb395, 0, none⟩ (.int .u64 ((rd_T54 t377 x42_2).f0))).setCell ⟨gb395, 1, none⟩ (.int .u64 ((rd_T54 t377 x42_2).f1)))) := ⟨bB⟩
             (try clear HO_10)
             (try clear HO_40)
             (try clear HO_386000)
             (try clear BK374)
             (try clear BK385)
             (try clear BK395)
             (try clear HB)
             generalize ((w41.setCell ⟨gb395, 0, none⟩ (.int .u64 ((rd_T54 t377 x42_2).f0))).setCell ⟨gb395, 1, none⟩ (.int .u64 ((rd_T54 t377 x42_2).f1))) = w45 at n0_ n1_ n2_ n3_ n4_ n5_ n6_ ⊢
             have HO_10 := n0_
             have HO_40 := n1_
             have HO_386000 := n2_
             have BK374 := n3_
             have BK385 := n4_
             have BK395 := n5_
             have HB := n6_
             clear n0_ n1_ n2_ n3_ n4_ n5_ n6_
             have n0_ := Aside0.mk (Kd.N_drew HO_10.out)
             have n1_ := Aside0.mk (Kd.R_drew HO_40.out)
             have n2_ := Aside0.mk (Kd.R_drew HO_386000.out)
             have n3_ := Aside0.mk (blk_drew BK374.out)
             have n4_ := Aside0.mk (blk_drew BK385.out)
             have n5_ := Aside0.mk (blk_drew BK395.out)
             have n6_ := Aside0.mk (below_drew1 HB.out)
             clear HO_10
             clear HO_40
             clear HO_386000
             clear BK374
             clear BK385
             clear BK395
             clear HB
             have HO_10 := n0_
             have HO_40 := n1_
             have HO_386000 := n2_
             have BK374 := n3_
             have BK385 := n4_
             have BK395 := n5_
             have HB := n6_
             clear n0_ n1_ n2_ n3_ n4_ n5_ n6_
             refine start_ (n := 19) (S := fun w' => w'.cell? ⟨gb395, 0, none⟩ = some (.int .u64 ((rd_T54 t377 x42_2).f0)) ∧ w'.cell? ⟨gb395, 1, none⟩ = some (.int .u64 ((rd_T54 t377 x42_2).f1))) (ds := []) #[false, false, false, false, false, false, false, false, false, false, false, false, false, false, false, false, false, false, false] (by kernel_rfl) rfl rfl ⟨(blk_cell BK395.out 0).trans rfl, (blk_cell BK395.out 1).trans rfl⟩ (fun hHeld => ?_); refine with_tabW laws_FnConsistencyMade.tab11 laws_FnConsistencyMade.bits11 (fun HT_ HW_ => ?_)
             generalize w45.drew = w46 at HO_10 HO_40 HO_386000 BK374 BK385 BK395 HB hHeld ⊢
             refine pure_ (i := 0) (N := some 46) (v := ?_) (a' := ?_) #[true, false, false, false, false, false, false, false, false, false, false, false, false, false, false, false, false, false, false] rfl rfl (any_of HT_.out (by kernel_rfl)) (fun _ _ _ h => h) (Or.inl ⟨by rfl, ?_⟩) ?_ ?_
             rotate_left
             ·intro w'
              go_simp
              with_reducible rfl
             rotate_left
             ·simp only [Act.put, List.setIfInBounds_toArray, List.set_cons_zero, List.set_cons_succ, i64_w, i32_w]
              rfl
             refine take_ (i := 1) (N := some 47) (v := ?_) (a' := ?_) #[true, true, false, false, false, false, false, false, false, false, false, false, false, false, false, false, false, false, false] rfl rfl (take_ofW HT_.out HW_.out (by kernel_rfl)) (fun _ _ _ h => h) (Or.inl ⟨by rfl, ?_⟩) hHeld ?_ ?_
             rotate_left
             ·rintro w' ⟨s0, s1⟩
              go_simp
              with_reducible rfl
             rotate_left
             ·simp only [Act.put, List.setIfInBounds_toArray, List.set_cons_zero, List.set_cons_succ, i64_w, i32_w]
              rfl
             refine pure_ (i := 2) (N := some 48) (v := ?_) (a' := ?_) #[true, true, true, false, false, false, false, false, false, false, false, false, false, false, false, false, false, false, false] rfl rfl (any_of HT_.out (by kernel_rfl)) (fun _ _ _ h => h) (Or.inl ⟨by rfl, ?_⟩) ?_ ?_
             rotate_left
             ·intro w'
              go_simp
              with_reducible rfl
             rotate_left
             ·simp only [Act.put, List.setIfInBounds_toArray, List.set_cons_zero, List.set_cons_succ, i64_w, i32_w]
              rfl
             refine pure_ (i := 3) (N := some 49) (v := ?_) (a' := ?_) #[true, true, true, true, false, false, false, false, false, false, false, false, false, false, false, false, false, false, false] rfl rfl (any_of HT_.out (by kernel_rfl)) (fun _ _ _ h => h) (Or.inl ⟨by rfl, ?_⟩) ?_ ?_
             rotate_left
             ·intro w'
              go_simp
              with_reducible rfl
             rotate_left
             ·simp only [Act.put, List.setIfInBounds_toArray, List.set_cons_zero, List.set_cons_succ, i64_w, i32_w]
              rfl
             refine take_ (i := 4) (N := some 50) (v := ?_) (a' := ?_) #[true, true, true, true, true, false, false, false, false, false, false, false, false, false, false, false, false, false, false] rfl rfl (take_ofW HT_.out HW_.out (by kernel_rfl)) (fun _ _ _ h => h) (Or.inl ⟨by rfl, ?_⟩) hHeld ?_ ?_
             rotate_left
             ·rintro w' ⟨s0, s1⟩
              go_simp
              with_reducible rfl
             rotate_left
             ·simp only [Act.put, List.setIfInBounds_toArray, List.set_cons_zero, List.set_cons_succ, i64_w, i32_w]
              rfl
             refine take_ (i := 7) (N := some 53) (v := ?_) (a' := ?_) #[true, true, true, true, true, false, false, true, false, false, false, false, false, false, false, false, false, false, false] rfl rfl (take_ofW HT_.out HW_.out (by kernel_rfl)) (fun _ _ _ h => h) (Or.inl ⟨by rfl, ?_⟩) hHeld ?_ ?_
             rotate_left
             ·rintro w' ⟨s0, s1⟩
              go_simp
              with_reducible rfl
             rotate_left
             ·simp only [Act.put, List.setIfInBounds_toArray, List.set_cons_zero, List.set_cons_succ, i64_w, i32_w]
              rfl
             refine one_ (i := 5) (N := some 51) #[true, true, true, true, true, true, false, true, false, false, false, false, false, false, false, false, false, false, false] rfl rfl (one_of HT_.out (by kernel_rfl)) (by decide) (fun K hK => ?_)
             refine goes_ Tryd.func30 (by kernel_rfl) rfl #[.agg #[.int .u64 ((rd_T54 t377 x42_2).f0), .int .u64 ((rd_T54 t377 x42_2).f1)]] (by rfl) rfl rfl aV ?_
             with_reducible refine (spec_Leaves.calls ((rd_T54 t377 x42_2).f0) ((rd_T54 t377 x42_2).f1) t396 t397 _ A28.out).mono ?_
             rintro e w47 ⟨rfl, hb⟩
             refine ⟨_, rfl, ?_⟩
             have n0_ := Aside0.mk (Kd.N_below (by (with_reducible repeat (first | apply Kd.N_alloc | apply Kd.N_drewN | apply Kd.N_drew)); exact HO_10.out) hb)
             have n1_ := Aside0.mk (Kd.R_below (kR HO_40.out) hb)
             have n2_ := Aside0.mk (Kd.R_below (kR HO_386000.out) hb)
             have n3_ := Aside0.mk (blk_below (g := gb374) (o := .cells #[.int .i64 a0_0, .int .i64 a0_1, .int .i64 a0_2, .int .u64 a0_3, .int .u64 a0_4, .int .u64 a0_5] 24 (0, 0)) (kB BK374.out) hb)
             have n4_ := Aside0.mk (blk_below (g := gb385) (o := .cells #[.slice (some ad394) t377.length co15, .int .u64 t380, .int .u64 t381, .int .i64 t382, .int .i64 t383] 68 (0, 0)) (kB BK385.out) hb)
             have n5_ := Aside0.mk (blk_below (g := gb395) (o := .cells #[.int .u64 ((rd_T54 t377 x42_2).f0), .int .u64 ((rd_T54 t377 x42_2).f1)] 54 (0, 0)) (kB BK395.out) hb)
             have n6_ := Aside0.mk (below_step bB hb)
             clear HO_10
             clear HO_40
             clear HO_386000
             clear BK374
             clear BK385
             clear BK395
             clear HB
             have HO_10 := n0_
             have HO_40 := n1_
             have HO_386000 := n2_
             have BK374 := n3_
             have BK385 := n4_
             have BK395 := n5_
             have HB := n6_
             clear n0_ n1_ n2_ n3_ n4_ n5_ n6_
             (try clear hb)
             (try clear hb2)
             (try clear hk)
             (try clear hi)
             refine hK.out _ _ ⟨(blk_cell BK395.out 0).trans rfl, (blk_cell BK395.out 1).trans rfl⟩ (fun hHeld => ?_)
             clear hK K
             refine norm_ (a' := ?_) ?_ ?_
             rotate_left
             ·show Act.put _ (some 51) _ = _
              simp only [Act.put, List.setIfInBounds_toArray, List.set_cons_zero, List.set_cons_succ, i64_w, i32_w]
              rfl
             refine pure_ (i := 6) (N := some 52) (v := ?_) (a' := ?_) #[true, true, true, true, true, true, true, true, false, false, false, false, false, false, false, false, false, false, false] rfl rfl (any_of HT_.out (by kernel_rfl)) (fun _ _ _ h => h) (Or.inl ⟨by rfl, ?_⟩) ?_ ?_
             rotate_left
             ·intro w'
              go_simp
              with_reducible rfl
             rotate_left
             ·simp only [Act.put, List.setIfInBounds_toArray, List.set_cons_zero, List.set_cons_succ, i64_w, i32_w]
              rfl
             refine one_ (i := 8) (N := some 54) #[true, true, true, true, true, true, true, true, true, false, false, false, false, false, false, false, false, false, false] rfl rfl (one_of HT_.out (by kernel_rfl)) (by decide) (fun K hK => ?_)
             refine goes_ Tryd.func30 (by kernel_rfl) rfl #[.agg #[.int .u64 ((rd_T54 t377 x42_2).f0), .int .u64 ((rd_T54 t377 x42_2).f1)]] (by rfl) rfl rfl aV ?_
             with_reducible refine (spec_Leaves.calls ((rd_T54 t377 x42_2).f0) ((rd_T54 t377 x42_2).f1) t398 t399 _ A29.out).mono ?_
             rintro e w48 ⟨rfl, hb⟩
             refine ⟨_, rfl, ?_⟩
             have n0_ := Aside0.mk (Kd.N_below (by (with_reducible repeat (first | apply Kd.N_alloc | apply Kd.N_drewN | apply Kd.N_drew)); exact HO_10.out) hb)
             have n1_ := Aside0.mk (Kd.R_below (kR HO_40.out) hb)
             have n2_ := Aside0.mk (Kd.R_below (kR HO_386000.out) hb)
             have n3_ := Aside0.mk (blk_below (g := gb374) (o := .cells #[.int .i64 a0_0, .int .i64 a0_1, .int .i64 a0_2, .int .u64 a0_3, .int .u64 a0_4, .int .u64 a0_5] 24 (0, 0)) (kB BK374.out) hb)
             have n4_ := Aside0.mk (blk_below (g := gb385) (o := .cells #[.slice (some ad394) t377.length co15, .int .u64 t380, .int .u64 t381, .int .i64 t382, .int .i64 t383] 68 (0, 0)) (kB BK385.out) hb)
             have n5_ := Aside0.mk (blk_below (g := gb395) (o := .cells #[.int .u64 ((rd_T54 t377 x42_2).f0), .int .u64 ((rd_T54 t377 x42_2).f1)] 54 (0, 0)) (kB BK395.out) hb)
             have n6_ := Aside0.mk (below_step bB hb)
             clear HO_10
             clear HO_40
             clear HO_386000
             clear BK374
             clear BK385
             clear BK395
             clear HB
             have HO_10 := n0_
             have HO_40 := n1_
             have HO_386000 := n2_
             have BK374 := n3_
             have BK385 := n4_
             have BK395 := n5_
             have HB := n6_
             clear n0_ n1_ n2_ n3_ n4_ n5_ n6_
             (try clear hb)
             (try clear hb2)
             (try clear hk)
             (try clear hi)
             refine hK.out _ _ ⟨(blk_cell BK395.out 0).trans rfl, (blk_cell BK395.out 1).trans rfl⟩ (fun hHeld => ?_)
             clear hK K
             refine norm_ (a' := ?_) ?_ ?_
             rotate_left
             ·show Act.put _ (some 54) _ = _
              simp only [Act.put, List.setIfInBounds_toArray, List.set_cons_zero, List.set_cons_succ, i64_w, i32_w]
              rfl
             refine pure_ (i := 9) (N := some 55) (v := ?_) (a' := ?_) #[true, true, true, true, true, true, true, true, true, true, false, false, false, false, false, false, false, false, false] rfl rfl (any_of HT_.out (by kernel_rfl)) (fun _ _ _ h => h) (Or.inl ⟨by rfl, ?_⟩) ?_ ?_
             rotate_left
             ·intro w'
              go_simp
              with_reducible rfl
             rotate_left
             ·simp only [Act.put, List.setIfInBounds_toArray, List.set_cons_zero, List.set_cons_succ, i64_w, i32_w]
              rfl
             refine pure_ (i := 10) (N := some 56) (v := ?_) (a' := ?_) #[true, true, true, true, true, true, true, true, true, true, true, false, false, false, false, false, false, false, false] rfl rfl (any_of HT_.out (by kernel_rfl)) (fun _ _ _ h => h) (Or.inl ⟨by rfl, ?_⟩) ?_ ?_
             rotate_left
             ·intro w'
              go_simp
              with_reducible rfl
             rotate_left
             ·simp only [Act.put, List.setIfInBounds_toArray, List.set_cons_zero, List.set_cons_succ, i64_w, i32_w]
              rfl
             refine pure_ (i := 11) (N := some 57) (v := ?_) (a' := ?_) #[true, true, true, true, true, true, true, true, true, true, true, true, false, false, false, false, false, false, false] rfl rfl (any_of HT_.out (by kernel_rfl)) (fun _ _ _ h => h) (Or.inl ⟨by rfl, ?_⟩) ?_ ?_
             rotate_left
             ·intro w'
              go_simp
              with_reducible rfl
             rotate_left
             ·simp only [Act.put, List.setIfInBounds_toArray, List.set_cons_zero, List.set_cons_succ, i64_w, i32_w]
              rfl
             refine pure_ (i := 12) (N := some 58) (v := ?_) (a' := ?_) #[true, true, true, true, true, true, true, true, true, true, true, true, true, false, false, false, false, false, false] rfl rfl (any_of HT_.out (by kernel_rfl)) (fun _ _ _ h => h) (Or.inl ⟨by rfl, ?_⟩) ?_ ?_
             rotate_left
             ·intro w'
              go_simp
              with_reducible rfl
             rotate_left
             ·simp only [Act.put, List.setIfInBounds_toArray, List.set_cons_zero, List.set_cons_succ, i64_w, i32_w]
              rfl
             refine pure_ (i := 16) (N := some 62) (v := ?_) (a' := ?_) #[true, true, true, true, true, true, true, true, true, true, true, true, true, false, false, false, true, false, false] rfl rfl (any_of HT_.out (by kernel_rfl)) (fun _ _ _ h => h) (Or.inl ⟨by rfl, ?_⟩) ?_ ?_
             rotate_left
             ·intro w'
              go_simp
              with_reducible rfl
             rotate_left
             ·simp only [Act.put, List.setIfInBounds_toArray, List.set_cons_zero, List.set_cons_succ, i64_w, i32_w]
              rfl
             refine take_ (i := 13) (N := some 59) (v := ?_) (a' := ?_) #[true, true, true, true, true, true, true, true, true, true, true, true, true, true, false, false, true, false, false] rfl rfl (take_ofW HT_.out HW_.out (by kernel_rfl)) (fun _ _ _ h => h) (Or.inl ⟨by rfl, ?_⟩) hHeld ?_ ?_
             rotate_left
             ·rintro w' ⟨s0, s1⟩
              go_simp
              with_reducible rfl
             rotate_left
             ·simp only [Act.put, List.setIfInBounds_toArray, List.set_cons_zero, List.set_cons_succ, i64_w, i32_w]
              rfl
             refine one_ (i := 14) (N := some 60) #[true, true, true, true, true, true, true, true, true, true, true, true, true, true, true, false, true, false, false] rfl rfl (one_of HT_.out (by kernel_rfl)) (by decide) (fun K hK => ?_)
             refine goes_ Tryd.func30 (by kernel_rfl) rfl #[.agg #[.int .u64 ((rd_T54 t377 x42_2).f0), .int .u64 ((rd_T54 t377 x42_2).f1)]] (by rfl) rfl rfl aV ?_
             with_reducible refine (spec_Leaves.calls ((rd_T54 t377 x42_2).f0) ((rd_T54 t377 x42_2).f1) t400 t401 _ A39.out).mono ?_
             rintro e w49 ⟨rfl, hb⟩
             refine ⟨_, rfl, ?_⟩
             have n0_ := Aside0.mk (Kd.N_below (by (with_reducible repeat (first | apply Kd.N_alloc | apply Kd.N_drewN | apply Kd.N_drew)); exact HO_10.out) hb)
             have n1_ := Aside0.mk (Kd.R_below (kR HO_40.out) hb)
             have n2_ := Aside0.mk (Kd.R_below (kR HO_386000.out) hb)
             have n3_ := Aside0.mk (blk_below (g := gb374) (o := .cells #[.int .i64 a0_0, .int .i64 a0_1, .int .i64 a0_2, .int .u64 a0_3, .int .u64 a0_4, .int .u64 a0_5] 24 (0, 0)) (kB BK374.out) hb)
             have n4_ := Aside0.mk (blk_below (g := gb385) (o := .cells #[.slice (some ad394) t377.length co15, .int .u64 t380, .int .u64 t381, .int .i64 t382, .int .i64 t383] 68 (0, 0)) (kB BK385.out) hb)
             have n5_ := Aside0.mk (blk_below (g := gb395) (o := .cells #[.int .u64 ((rd_T54 t377 x42_2).f0), .int .u64 ((rd_T54 t377 x42_2).f1)] 54 (0, 0)) (kB BK395.out) hb)
             have n6_ := Aside0.mk (below_step bB hb)
             clear HO_10
             clear HO_40
             clear HO_386000
             clear BK374
             clear BK385
             clear BK395
             clear HB
             have HO_10 := n0_
             have HO_40 := n1_
             have HO_386000 := n2_
             have BK374 := n3_
             have BK385 := n4_
             have BK395 := n5_
             have HB := n6_
             clear n0_ n1_ n2_ n3_ n4_ n5_ n6_
             (try clear hb)
             (try clear hb2)
             (try clear hk)
             (try clear hi)
             refine hK.out _ _ ⟨(blk_cell BK395.out 0).trans rfl, (blk_cell BK395.out 1).trans rfl⟩ (fun hHeld => ?_)
             clear hK K
             refine norm_ (a' := ?_) ?_ ?_
             rotate_left
             ·show Act.put _ (some 60) _ = _
              simp only [Act.put, List.setIfInBounds_toArray, List.set_cons_zero, List.set_cons_succ, i64_w, i32_w]
              rfl
             refine pure_ (i := 15) (N := some 61) (v := ?_) (a' := ?_) #[true, true, true, true, true, true, true, true, true, true, true, true, true, true, true, true, true, false, false] rfl rfl (any_of HT_.out (by kernel_rfl)) (fun _ _ _ h => h) (Or.inl ⟨by rfl, ?_⟩) ?_ ?_
             rotate_left
             ·intro w'
              go_simp
              with_reducible rfl
             rotate_left
             ·simp only [Act.put, List.setIfInBounds_toArray, List.set_cons_zero, List.set_cons_succ, i64_w, i32_w]
              rfl
             refine pure_ (i := 17) (N := some 63) (v := ?_) (a' := ?_) #[true, true, true, true, true, true, true, true, true, true, true, true, true, true, true, true, true, true, false] rfl rfl (any_of HT_.out (by kernel_rfl)) (fun _ _ _ h => h) (Or.inl ⟨by rfl, ?_⟩) ?_ ?_
             rotate_left
             ·intro w'
              go_simp
              with_reducible rfl
             rotate_left
             ·simp only [Act.put, List.setIfInBounds_toArray, List.set_cons_zero, List.set_cons_succ, i64_w, i32_w]
              rfl
             refine pure_ (i := 18) (N := some 64) (v := ?_) (a' := ?_) #[true, true, true, true, true, true, true, true, true, true, true, true, true, true, true, true, true, true, true] rfl rfl (any_of HT_.out (by kernel_rfl)) (fun _ _ _ h => h) (Or.inl ⟨by rfl, ?_⟩) ?_ ?_
             rotate_left
             ·intro w'
              go_simp
              with_reducible rfl
             rotate_left
             ·simp only [Act.put, List.setIfInBounds_toArray, List.set_cons_zero, List.set_cons_succ, i64_w, i32_w]
              rfl
             refine done_ (done_of HT_.out (by kernel_rfl)) ?_
             try go_wp2
             go_ret
             exact ⟨by first | rfl | (simp [errW_none, errW_some] <;> rfl) | (simp [*, errW_none, errW_some] <;> rfl), bB⟩
            ·rw [if_neg c40] at H
             have c40b0 : decide ((IntKind.u64.wrap ((l1.length : Int))) < t401) = false := decide_eq_false c40
             clear c40
             replace H := Option.bind_eq_some_iff.mp H
             obtain ⟨t402, A500, H⟩ := H
             replace H : (if x10_2.length < 5864062014805 then (laws_FnConsistencyMade.l0 k2 l1 a2 (IntKind.u64.wrap ((l1.length : Int))) t384 (x10_2 ++ [t402]) t377 (t377.length : Int) (wrap64 (x42_2 + 1)) a0_0 a0_1 a0_2 a0_3 a0_4 a0_5) else (none)) = some r := H
             have A50 := Aside0.mk A500
             clear A500
             by_cases c51 : x10_2.length < 5864062014805
             ·rw [if_pos c51] at H
              have LMc51 := Aside0.mk c51
              clear c51
              obtain ⟨y405, hy405⟩ : ∃ y_ : List (List Int), y_ = (x10_2 ++ [t402]) := ⟨_, rfl⟩
              replace H : (laws_FnConsistencyMade.l0 k2 l1 a2 (IntKind.u64.wrap ((l1.length : Int))) t384 y405 t377 (t377.length : Int) (wrap64 (x42_2 + 1)) a0_0 a0_1 a0_2 a0_3 a0_4 a0_5) = some r := by first | (rw [hy405]; with_reducible exact H) | (have H2_ := (Option.bind_some _ _).symm.trans H; rw [hy405]; with_reducible exact H2_) | (have H2_ := (Option.bind_some _ _).symm.trans H; with_reducible exact H2_) | with_reducible exact H | (rw [hy405]; exact H) | exact H
              have Ny405 := Aside0.mk hy405
              clear hy405
              have H' := Aside0.mk H
              clear H
              have p394 : 0 ≤ (x42_2 : Int) := dA
              have q394 : x42_2 < (t377.length : Int) := dA
              obtain ⟨ad394, e394, hx394_0, hx394_1⟩ := at_T54 (Kd.R_reads' HO_40.out).2.2 x42_2 p394 q394
              cases e394
              replace p394 := eq_true p394
              replace q394 := eq_true q394
              try go_wp2_with (first | ((with_reducible refine gate_dst (N := 12) rfl ?_); refine box_event ?hg (N := 12) ?hd (cs := #[.int .u64 0, .int .u64 0]) (t := 54) ?hr ?_; (case hd => rfl); (case hg => rfl); (case hr => first | (go_simp; done) | (go_simp; rfl)); intro gb395 hg w52 hbox hb; have n0_ := Aside0.mk (Kd.N_below (Kd.N_elderB (by (with_reducible repeat (first | apply Kd.N_alloc | apply Kd.N_drewN | apply Kd.N_drew)); exact HO_10.out) gb395 (Nat.le_of_eq hg.symm)) hb); have n1_ := Aside0.mk (Kd.R_below (Kd.R_elderB (kR HO_40.out) gb395 (Nat.le_of_eq hg.symm)) hb); have n2_ := Aside0.mk (Kd.R_below (Kd.R_elderB (kR HO_386000.out) gb395 (Nat.le_of_eq hg.symm)) hb); have n3_ := Aside0.mk (blk_below (g := gb374) (o := .cells #[.int .i64 a0_0, .int .i64 a0_1, .int .i64 a0_2, .int .u64 a0_3, .int .u64 a0_4, .int .u64 a0_5] 24 (0, 0)) (kB BK374.out) hb); have n4_ := Aside0.mk (blk_below (g := gb385) (o := .cells #[.slice (some ad394) t377.length co15, .int .u64 t380, .int .u64 t381, .int .i64 t382, .int .i64 t383] 68 (0, 0)) (kB BK385.out) hb); have n5_ := Aside0.mk (below_step bB hb); have n6_ := Aside0.mk (hbox); have n7_ := Aside0.mk ((by rw [hg]; exact (below_size bB) : w.heap.size ≤ gb395)); have n8_ := Aside0.mk ((by rw [hg]; exact (below_size bB) : w.heap.size ≤ gb395)); have n9_ := Aside0.mk ((by rw [hg]; exact Nat.ne_of_lt (blk_lt (g := gb374) (o := .cells #[.int .i64 a0_0, .int .i64 a0_1, .int .i64 a0_2, .int .u64 a0_3, .int .u64 a0_4, .int .u64 a0_5] 24 (0, 0)) (kB BK374.out)) : gb374 ≠ gb395)); have n10_ := Aside0.mk ((by rw [hg]; exact Nat.ne_of_gt (blk_lt (g := gb374) (o := .cells #[.int .i64 a0_0, .int .i64 a0_1, .int .i64 a0_2, .int .u64 a0_3, .int .u64 a0_4, .int .u64 a0_5] 24 (0, 0)) (kB BK374.out)) : gb395 ≠ gb374)); have n11_ := Aside0.mk ((by rw [hg]; exact Nat.ne_of_lt (blk_lt (g := gb385) (o := .cells #[.slice (some ad394) t377.length co15, .int .u64 t380, .int .u64 t381, .int .i64 t382, .int .i64 t383] 68 (0, 0)) (kB BK385.out)) : gb385 ≠ gb395)); have n12_ := Aside0.mk ((by rw [hg]; exact Nat.ne_of_gt (blk_lt (g := gb385) (o := .cells #[.slice (some ad394) t377.length co15, .int .u64 t380, .int .u64 t381, .int .i64 t382, .int .i64 t383] 68 (0, 0)) (kB BK385.out)) : gb395 ≠ gb385)); clear HO_10; clear HO_40; clear HO_386000; clear BK374; clear BK385; clear HB; have HO_10 := n0_; have HO_40 := n1_; have HO_386000 := n2_; have BK374 := n3_; have BK385 := n4_; have HB := n5_; have BK395 := n6_; have GW395 := n7_; have GE395 := n8_; have NB374_395 := n9_; have NB395_374 := n10_; have NB385_395 := n11_; have NB395_385 := n12_; clear n0_ n1_ n2_ n3_ n4_ n5_ n6_ n7_ n8_ n9_ n10_ n11_ n12_; clear hb hbox hg; have hnb53 := NB395_374.out; have hnc53 := NB374_395.out; have hnb54 := NB395_385.out; have hnc54 := NB385_395.out; have hcz55_0 : w52.cell? ⟨gb395, 0, none⟩ = some (.int .u64 0) := (blk_cell BK395.out 0).trans rfl; have hcz55_1 : w52.cell? ⟨gb395, 1, none⟩ = some (.int .u64 0) := (blk_cell BK395.out 1).trans rfl; have hfz55_0 := blk_frozen BK395.out 0; have hfz55_1 := blk_frozen BK395.out 1))
              have n0_ : Aside0 (Kd.N (Kd.slice 5 (Kd.int .u8)) 27 ((w52.setCell ⟨gb395, 0, none⟩ (.int .u64 ((rd_T54 t377 x42_2).f0))).setCell ⟨gb395, 1, none⟩ (.int .u64 ((rd_T54 t377 x42_2).f1))) w.heap.size (fun k_ => some k_ ≠ (.slice (some ad394) t377.length co15 : Value).ownBlock ∧ some k_ ≠ (.slice (some ad394) t377.length co15 : Value).ownBlock ∧ k_ ≠ gb374 ∧ k_ ≠ gb385 ∧ k_ ≠ gb395) u10 x10_2) := ⟨by (with_reducible repeat (first | apply Kd.N_alloc | apply Kd.N_drewN | apply Kd.N_drew)); exact Kd.N_mono (Kd.N_far (p := ⟨gb395, 1, none⟩) (Kd.N_far (p := ⟨gb395, 0, none⟩) (Kd.N_mono HO_10.out (fun k_ hk => (⟨hk, hk.2⟩ : _ ∧ k_ ≠ gb395))) (fun _ hk => hk.2) (.int .u64 ((rd_T54 t377 x42_2).f0))) (fun _ hk => hk.2) (.int .u64 ((rd_T54 t377 x42_2).f1))) (fun _ hk => ⟨hk.1.1.1, ⟨hk.1.1.2.1, ⟨hk.1.1.2.2.1, ⟨hk.1.1.2.2.2, hk.1.2⟩⟩⟩⟩)⟩
              have n1_ : Aside0 (Kd.R k54 54 ((w52.setCell ⟨gb395, 0, none⟩ (.int .u64 ((rd_T54 t377 x42_2).f0))).setCell ⟨gb395, 1, none⟩ (.int .u64 ((rd_T54 t377 x42_2).f1))) w.heap.size (fun k_ => k_ ≠ gb395) (.slice (some ad394) t377.length co15) t377) := ⟨by (with_reducible repeat (first | apply Kd.R_alloc | apply Kd.R_drewN | apply Kd.R_drew)); exact Kd.R_mono (Kd.R_far (p := ⟨gb395, 1, none⟩) (Kd.R_far (p := ⟨gb395, 0, none⟩) (Kd.R_mono HO_40.out (fun k_ hk => (⟨hk, hk.2⟩ : _ ∧ k_ ≠ gb395))) (fun _ hk => hk.2) (.int .u64 ((rd_T54 t377 x42_2).f0))) (fun _ hk => hk.2) (.int .u64 ((rd_T54 t377 x42_2).f1))) (fun _ hk => hk.1.2)⟩
              have n2_ : Aside0 (Kd.R k54 54 ((w52.setCell ⟨gb395, 0, none⟩ (.int .u64 ((rd_T54 t377 x42_2).f0))).setCell ⟨gb395, 1, none⟩ (.int .u64 ((rd_T54 t377 x42_2).f1))) w.heap.size (fun k_ => k_ ≠ gb395) (.slice (some ad394) t377.length co15) t377) := ⟨by (with_reducible repeat (first | apply Kd.R_alloc | apply Kd.R_drewN | apply Kd.R_drew)); exact Kd.R_mono (Kd.R_far (p := ⟨gb395, 1, none⟩) (Kd.R_far (p := ⟨gb395, 0, none⟩) (Kd.R_mono HO_386000.out (fun k_ hk => (⟨hk, hk.2⟩ : _ ∧ k_ ≠ gb395))) (fun _ hk => hk.2) (.int .u64 ((rd_T54 t377 x42_2).f0))) (fun _ hk => hk.2) (.int .u64 ((rd_T54 t377 x42_2).f1))) (fun _ hk => hk.1.2)⟩
              have n3_ : Aside0 (((w52.setCell ⟨gb395, 0, none⟩ (.int .u64 ((rd_T54 t377 x42_2).f0))).setCell ⟨gb395, 1, none⟩ (.int .u64 ((rd_T54 t377 x42_2).f1))).heap[gb374]? = some (.cells #[.int .i64 a0_0, .int .i64 a0_1, .int .i64 a0_2, .int .u64 a0_3, .int .u64 a0_4, .int .u64 a0_5] 24 (0, 0))) := ⟨by (with_reducible repeat (first | refine blk_drewN ?_ _ | refine blk_drew ?_ | refine blk_alloc ?_ _)); refine blk_far ?_ NB374_395.out _; (with_reducible repeat (first | refine blk_drewN ?_ _ | refine blk_drew ?_ | refine blk_alloc ?_ _)); refine blk_far ?_ NB374_395.out _; (with_reducible repeat (first | refine blk_drewN ?_ _ | refine blk_drew ?_ | refine blk_alloc ?_ _)); exact BK374.out⟩
              have n4_ : Aside0 (((w52.setCell ⟨gb395, 0, none⟩ (.int .u64 ((rd_T54 t377 x42_2).f0))).setCell ⟨gb395, 1, none⟩ (.int .u64 ((rd_T54 t377 x42_2).f1))).heap[gb385]? = some (.cells #[.slice (some ad394) t377.length co15, .int .u64 t380, .int .u64 t381, .int .i64 t382, .int .i64 t383] 68 (0, 0))) := ⟨by (with_reducible repeat (first | refine blk_drewN ?_ _ | refine blk_drew ?_ | refine blk_alloc ?_ _)); refine blk_far ?_ NB385_395.out _; (with_reducible repeat (first | refine blk_drewN ?_ _ | refine blk_drew ?_ | refine blk_alloc ?_ _)); refine blk_far ?_ NB385_395.out _; (with_reducible repeat (first | refine blk_drewN ?_ _ | refine blk_drew ?_ | refine blk_alloc ?_ _)); exact BK385.out⟩
              have n5_ : Aside0 (((w52.setCell ⟨gb395, 0, none⟩ (.int .u64 ((rd_T54 t377 x42_2).f0))).setCell ⟨gb395, 1, none⟩ (.int .u64 ((rd_T54 t377 x42_2).f1))).heap[gb395]? = some (.cells #[.int .u64 ((rd_T54 t377 x42_2).f0), .int .u64 ((rd_T54 t377 x42_2).f1)] 54 (0, 0))) := ⟨by (with_reducible repeat (first | refine blk_drewN ?_ _ | refine blk_drew ?_ | refine blk_alloc ?_ _)); refine blk_put (cs := #[.int .u64 ((rd_T54 t377 x42_2).f0), .int .u64 0]) ?_ 1 _ rfl; (with_reducible repeat (first | refine blk_drewN ?_ _ | refine blk_drew ?_ | refine blk_alloc ?_ _)); refine blk_put (cs := #[.int .u64 0, .int .u64 0]) ?_ 0 _ rfl; (with_reducible repeat (first | refine blk_drewN ?_ _ | refine blk_drew ?_ | refine blk_alloc ?_ _)); exact BK395.out⟩
              have n6_ : Aside0 (Below w.heap.size w ((w52.setCell ⟨gb395, 0, none⟩ (.int .u64 ((rd_T54 t377 x42_2).f0))).setCell ⟨gb395, 1, none⟩ (.int .u64 ((rd_T54 t377 x42_2).f1)))) := ⟨bB⟩
              (try clear HO_10)
              (try clear HO_40)
              (try clear HO_386000)
              (try clear BK374)
              (try clear BK385)
              (try clear BK395)
              (try clear HB)
              generalize ((w52.setCell ⟨gb395, 0, none⟩ (.int .u64 ((rd_T54 t377 x42_2).f0))).setCell ⟨gb395, 1, none⟩ (.int .u64 ((rd_T54 t377 x42_2).f1))) = w56 at n0_ n1_ n2_ n3_ n4_ n5_ n6_ ⊢
              have HO_10 := n0_
              have HO_40 := n1_
              have HO_386000 := n2_
              have BK374 := n3_
              have BK385 := n4_
              have BK395 := n5_
              have HB := n6_
              clear n0_ n1_ n2_ n3_ n4_ n5_ n6_
              have n0_ := Aside0.mk (Kd.N_drew HO_10.out)
              have n1_ := Aside0.mk (Kd.R_drew HO_40.out)
              have n2_ := Aside0.mk (Kd.R_drew HO_386000.out)
              have n3_ := Aside0.mk (blk_drew BK374.out)
              have n4_ := Aside0.mk (blk_drew BK385.out)
              have n5_ := Aside0.mk (blk_drew BK395.out)
              have n6_ := Aside0.mk (below_drew1 HB.out)
              clear HO_10
              clear HO_40
              clear HO_386000
              clear BK374
              clear BK385
              clear BK395
              clear HB
              have HO_10 := n0_
              have HO_40 := n1_
              have HO_386000 := n2_
              have BK374 := n3_
              have BK385 := n4_
              have BK395 := n5_
              have HB := n6_
              clear n0_ n1_ n2_ n3_ n4_ n5_ n6_
              refine start_ (n := 19) (S := fun w' => w'.cell? ⟨gb395, 0, none⟩ = some (.int .u64 ((rd_T54 t377 x42_2).f0)) ∧ w'.cell? ⟨gb395, 1, none⟩ = some (.int .u64 ((rd_T54 t377 x42_2).f1))) (ds := []) #[false, false, false, false, false, false, false, false, false, false, false, false, false, false, false, false, false, false, false] (by kernel_rfl) rfl rfl ⟨(blk_cell BK395.out 0).trans rfl, (blk_cell BK395.out 1).trans rfl⟩ (fun hHeld => ?_); refine with_tabW laws_FnConsistencyMade.tab11 laws_FnConsistencyMade.bits11 (fun HT_ HW_ => ?_)
              generalize w56.drew = w57 at HO_10 HO_40 HO_386000 BK374 BK385 BK395 HB hHeld ⊢
              refine pure_ (i := 0) (N := some 46) (v := ?_) (a' := ?_) #[true, false, false, false, false, false, false, false, false, false, false, false, false, false, false, false, false, false, false] rfl rfl (any_of HT_.out (by kernel_rfl)) (fun _ _ _ h => h) (Or.inl ⟨by rfl, ?_⟩) ?_ ?_
              rotate_left
              ·intro w'
               go_simp
               with_reducible rfl
              rotate_left
              ·simp only [Act.put, List.setIfInBounds_toArray, List.set_cons_zero, List.set_cons_succ, i64_w, i32_w]
               rfl
              refine take_ (i := 1) (N := some 47) (v := ?_) (a' := ?_) #[true, true, false, false, false, false, false, false, false, false, false, false, false, false, false, false, false, false, false] rfl rfl (take_ofW HT_.out HW_.out (by kernel_rfl)) (fun _ _ _ h => h) (Or.inl ⟨by rfl, ?_⟩) hHeld ?_ ?_
              rotate_left
              ·rintro w' ⟨s0, s1⟩
               go_simp
               with_reducible rfl
              rotate_left
              ·simp only [Act.put, List.setIfInBounds_toArray, List.set_cons_zero, List.set_cons_succ, i64_w, i32_w]
               rfl
              refine pure_ (i := 2) (N := some 48) (v := ?_) (a' := ?_) #[true, true, true, false, false, false, false, false, false, false, false, false, false, false, false, false, false, false, false] rfl rfl (any_of HT_.out (by kernel_rfl)) (fun _ _ _ h => h) (Or.inl ⟨by rfl, ?_⟩) ?_ ?_
              rotate_left
              ·intro w'
               go_simp
               with_reducible rfl
              rotate_left
              ·simp only [Act.put, List.setIfInBounds_toArray, List.set_cons_zero, List.set_cons_succ, i64_w, i32_w]
               rfl
              refine pure_ (i := 3) (N := some 49) (v := ?_) (a' := ?_) #[true, true, true, true, false, false, false, false, false, false, false, false, false, false, false, false, false, false, false] rfl rfl (any_of HT_.out (by kernel_rfl)) (fun _ _ _ h => h) (Or.inl ⟨by rfl, ?_⟩) ?_ ?_
              rotate_left
              ·intro w'
               go_simp
               with_reducible rfl
              rotate_left
              ·simp only [Act.put, List.setIfInBounds_toArray, List.set_cons_zero, List.set_cons_succ, i64_w, i32_w]
               rfl
              refine take_ (i := 4) (N := some 50) (v := ?_) (a' := ?_) #[true, true, true, true, true, false, false, false, false, false, false, false, false, false, false, false, false, false, false] rfl rfl (take_ofW HT_.out HW_.out (by kernel_rfl)) (fun _ _ _ h => h) (Or.inl ⟨by rfl, ?_⟩) hHeld ?_ ?_
              rotate_left
              ·rintro w' ⟨s0, s1⟩
               go_simp
               with_reducible rfl
              rotate_left
              ·simp only [Act.put, List.setIfInBounds_toArray, List.set_cons_zero, List.set_cons_succ, i64_w, i32_w]
               rfl
              refine take_ (i := 7) (N := some 53) (v := ?_) (a' := ?_) #[true, true, true, true, true, false, false, true, false, false, false, false, false, false, false, false, false, false, false] rfl rfl (take_ofW HT_.out HW_.out (by kernel_rfl)) (fun _ _ _ h => h) (Or.inl ⟨by rfl, ?_⟩) hHeld ?_ ?_
              rotate_left
              ·rintro w' ⟨s0, s1⟩
               go_simp
               with_reducible rfl
              rotate_left
              ·simp only [Act.put, List.setIfInBounds_toArray, List.set_cons_zero, List.set_cons_succ, i64_w, i32_w]
               rfl
              refine one_ (i := 5) (N := some 51) #[true, true, true, true, true, true, false, true, false, false, false, false, false, false, false, false, false, false, false] rfl rfl (one_of HT_.out (by kernel_rfl)) (by decide) (fun K hK => ?_)
              refine goes_ Tryd.func30 (by kernel_rfl) rfl #[.agg #[.int .u64 ((rd_T54 t377 x42_2).f0), .int .u64 ((rd_T54 t377 x42_2).f1)]] (by rfl) rfl rfl aV ?_
              with_reducible refine (spec_Leaves.calls ((rd_T54 t377 x42_2).f0) ((rd_T54 t377 x42_2).f1) t396 t397 _ A28.out).mono ?_
              rintro e w58 ⟨rfl, hb⟩
              refine ⟨_, rfl, ?_⟩
              have n0_ := Aside0.mk (Kd.N_below (by (with_reducible repeat (first | apply Kd.N_alloc | apply Kd.N_drewN | apply Kd.N_drew)); exact HO_10.out) hb)
              have n1_ := Aside0.mk (Kd.R_below (kR HO_40.out) hb)
              have n2_ := Aside0.mk (Kd.R_below (kR HO_386000.out) hb)
              have n3_ := Aside0.mk (blk_below (g := gb374) (o := .cells #[.int .i64 a0_0, .int .i64 a0_1, .int .i64 a0_2, .int .u64 a0_3, .int .u64 a0_4, .int .u64 a0_5] 24 (0, 0)) (kB BK374.out) hb)
              have n4_ := Aside0.mk (blk_below (g := gb385) (o := .cells #[.slice (some ad394) t377.length co15, .int .u64 t380, .int .u64 t381, .int .i64 t382, .int .i64 t383] 68 (0, 0)) (kB BK385.out) hb)
              have n5_ := Aside0.mk (blk_below (g := gb395) (o := .cells #[.int .u64 ((rd_T54 t377 x42_2).f0), .int .u64 ((rd_T54 t377 x42_2).f1)] 54 (0, 0)) (kB BK395.out) hb)
              have n6_ := Aside0.mk (below_step bB hb)
              clear HO_10
              clear HO_40
              clear HO_386000
              clear BK374
              clear BK385
              clear BK395
              clear HB
              have HO_10 := n0_
              have HO_40 := n1_
              have HO_386000 := n2_
              have BK374 := n3_
              have BK385 := n4_
              have BK395 := n5_
              have HB := n6_
              clear n0_ n1_ n2_ n3_ n4_ n5_ n6_
              (try clear hb)
              (try clear hb2)
              (try clear hk)
              (try clear hi)
              refine hK.out _ _ ⟨(blk_cell BK395.out 0).trans rfl, (blk_cell BK395.out 1).trans rfl⟩ (fun hHeld => ?_)
              clear hK K
              refine norm_ (a' := ?_) ?_ ?_
              rotate_left
              ·show Act.put _ (some 51) _ = _
               simp only [Act.put, List.setIfInBounds_toArray, List.set_cons_zero, List.set_cons_succ, i64_w, i32_w]
               rfl
              refine pure_ (i := 6) (N := some 52) (v := ?_) (a' := ?_) #[true, true, true, true, true, true, true, true, false, false, false, false, false, false, false, false, false, false, false] rfl rfl (any_of HT_.out (by kernel_rfl)) (fun _ _ _ h => h) (Or.inl ⟨by rfl, ?_⟩) ?_ ?_
              rotate_left
              ·intro w'
               go_simp
               with_reducible rfl
              rotate_left
              ·simp only [Act.put, List.setIfInBounds_toArray, List.set_cons_zero, List.set_cons_succ, i64_w, i32_w]
               rfl
              refine one_ (i := 8) (N := some 54) #[true, true, true, true, true, true, true, true, true, false, false, false, false, false, false, false, false, false, false] rfl rfl (one_of HT_.out (by kernel_rfl)) (by decide) (fun K hK => ?_)
              refine goes_ Tryd.func30 (by kernel_rfl) rfl #[.agg #[.int .u64 ((rd_T54 t377 x42_2).f0), .int .u64 ((rd_T54 t377 x42_2).f1)]] (by rfl) rfl rfl aV ?_
              with_reducible refine (spec_Leaves.calls ((rd_T54 t377 x42_2).f0) ((rd_T54 t377 x42_2).f1) t398 t399 _ A29.out).mono ?_
              rintro e w59 ⟨rfl, hb⟩
              refine ⟨_, rfl, ?_⟩
              have n0_ := Aside0.mk (Kd.N_below (by (with_reducible repeat (first | apply Kd.N_alloc | apply Kd.N_drewN | apply Kd.N_drew)); exact HO_10.out) hb)
              have n1_ := Aside0.mk (Kd.R_below (kR HO_40.out) hb)
              have n2_ := Aside0.mk (Kd.R_below (kR HO_386000.out) hb)
              have n3_ := Aside0.mk (blk_below (g := gb374) (o := .cells #[.int .i64 a0_0, .int .i64 a0_1, .int .i64 a0_2, .int .u64 a0_3, .int .u64 a0_4, .int .u64 a0_5] 24 (0, 0)) (kB BK374.out) hb)
              have n4_ := Aside0.mk (blk_below (g := gb385) (o := .cells #[.slice (some ad394) t377.length co15, .int .u64 t380, .int .u64 t381, .int .i64 t382, .int .i64 t383] 68 (0, 0)) (kB BK385.out) hb)
              have n5_ := Aside0.mk (blk_below (g := gb395) (o := .cells #[.int .u64 ((rd_T54 t377 x42_2).f0), .int .u64 ((rd_T54 t377 x42_2).f1)] 54 (0, 0)) (kB BK395.out) hb)
              have n6_ := Aside0.mk (below_step bB hb)
              clear HO_10
              clear HO_40
              clear HO_386000
              clear BK374
              clear BK385
              clear BK395
              clear HB
              have HO_10 := n0_
              have HO_40 := n1_
              have HO_386000 := n2_
              have BK374 := n3_
              have BK385 := n4_
              have BK395 := n5_
              have HB := n6_
              clear n0_ n1_ n2_ n3_ n4_ n5_ n6_
              (try clear hb)
              (try clear hb2)
              (try clear hk)
              (try clear hi)
              refine hK.out _ _ ⟨(blk_cell BK395.out 0).trans rfl, (blk_cell BK395.out 1).trans rfl⟩ (fun hHeld => ?_)
              clear hK K
              refine norm_ (a' := ?_) ?_ ?_
              rotate_left
              ·show Act.put _ (some 54) _ = _
               simp only [Act.put, List.setIfInBounds_toArray, List.set_cons_zero, List.set_cons_succ, i64_w, i32_w]
               rfl
              refine pure_ (i := 9) (N := some 55) (v := ?_) (a' := ?_) #[true, true, true, true, true, true, true, true, true, true, false, false, false, false, false, false, false, false, false] rfl rfl (any_of HT_.out (by kernel_rfl)) (fun _ _ _ h => h) (Or.inl ⟨by rfl, ?_⟩) ?_ ?_
              rotate_left
              ·intro w'
               go_simp
               with_reducible rfl
              rotate_left
              ·simp only [Act.put, List.setIfInBounds_toArray, List.set_cons_zero, List.set_cons_succ, i64_w, i32_w]
               rfl
              refine pure_ (i := 10) (N := some 56) (v := ?_) (a' := ?_) #[true, true, true, true, true, true, true, true, true, true, true, false, false, false, false, false, false, false, false] rfl rfl (any_of HT_.out (by kernel_rfl)) (fun _ _ _ h => h) (Or.inl ⟨by rfl, ?_⟩) ?_ ?_
              rotate_left
              ·intro w'
               go_simp
               with_reducible rfl
              rotate_left
              ·simp only [Act.put, List.setIfInBounds_toArray, List.set_cons_zero, List.set_cons_succ, i64_w, i32_w]
               rfl
              refine pure_ (i := 11) (N := some 57) (v := ?_) (a' := ?_) #[true, true, true, true, true, true, true, true, true, true, true, true, false, false, false, false, false, false, false] rfl rfl (any_of HT_.out (by kernel_rfl)) (fun _ _ _ h => h) (Or.inl ⟨by rfl, ?_⟩) ?_ ?_
              rotate_left
              ·intro w'
               go_simp
               with_reducible rfl
              rotate_left
              ·simp only [Act.put, List.setIfInBounds_toArray, List.set_cons_zero, List.set_cons_succ, i64_w, i32_w]
               rfl
              refine pure_ (i := 12) (N := some 58) (v := ?_) (a' := ?_) #[true, true, true, true, true, true, true, true, true, true, true, true, true, false, false, false, false, false, false] rfl rfl (any_of HT_.out (by kernel_rfl)) (fun _ _ _ h => h) (Or.inl ⟨by rfl, ?_⟩) ?_ ?_
              rotate_left
              ·intro w'
               go_simp
               with_reducible rfl
              rotate_left
              ·simp only [Act.put, List.setIfInBounds_toArray, List.set_cons_zero, List.set_cons_succ, i64_w, i32_w]
               rfl
              refine pure_ (i := 16) (N := some 62) (v := ?_) (a' := ?_) #[true, true, true, true, true, true, true, true, true, true, true, true, true, false, false, false, true, false, false] rfl rfl (any_of HT_.out (by kernel_rfl)) (fun _ _ _ h => h) (Or.inl ⟨by rfl, ?_⟩) ?_ ?_
              rotate_left
              ·intro w'
               go_simp
               with_reducible rfl
              rotate_left
              ·simp only [Act.put, List.setIfInBounds_toArray, List.set_cons_zero, List.set_cons_succ, i64_w, i32_w]
               rfl
              refine take_ (i := 13) (N := some 59) (v := ?_) (a' := ?_) #[true, true, true, true, true, true, true, true, true, true, true, true, true, true, false, false, true, false, false] rfl rfl (take_ofW HT_.out HW_.out (by kernel_rfl)) (fun _ _ _ h => h) (Or.inl ⟨by rfl, ?_⟩) hHeld ?_ ?_
              rotate_left
              ·rintro w' ⟨s0, s1⟩
               go_simp
               with_reducible rfl
              rotate_left
              ·simp only [Act.put, List.setIfInBounds_toArray, List.set_cons_zero, List.set_cons_succ, i64_w, i32_w]
               rfl
              refine one_ (i := 14) (N := some 60) #[true, true, true, true, true, true, true, true, true, true, true, true, true, true, true, false, true, false, false] rfl rfl (one_of HT_.out (by kernel_rfl)) (by decide) (fun K hK => ?_)
              refine goes_ Tryd.func30 (by kernel_rfl) rfl #[.agg #[.int .u64 ((rd_T54 t377 x42_2).f0), .int .u64 ((rd_T54 t377 x42_2).f1)]] (by rfl) rfl rfl aV ?_
              with_reducible refine (spec_Leaves.calls ((rd_T54 t377 x42_2).f0) ((rd_T54 t377 x42_2).f1) t400 t401 _ A39.out).mono ?_
              rintro e w60 ⟨rfl, hb⟩
              refine ⟨_, rfl, ?_⟩
              have n0_ := Aside0.mk (Kd.N_below (by (with_reducible repeat (first | apply Kd.N_alloc | apply Kd.N_drewN | apply Kd.N_drew)); exact HO_10.out) hb)
              have n1_ := Aside0.mk (Kd.R_below (kR HO_40.out) hb)
              have n2_ := Aside0.mk (Kd.R_below (kR HO_386000.out) hb)
              have n3_ := Aside0.mk (blk_below (g := gb374) (o := .cells #[.int .i64 a0_0, .int .i64 a0_1, .int .i64 a0_2, .int .u64 a0_3, .int .u64 a0_4, .int .u64 a0_5] 24 (0, 0)) (kB BK374.out) hb)
              have n4_ := Aside0.mk (blk_below (g := gb385) (o := .cells #[.slice (some ad394) t377.length co15, .int .u64 t380, .int .u64 t381, .int .i64 t382, .int .i64 t383] 68 (0, 0)) (kB BK385.out) hb)
              have n5_ := Aside0.mk (blk_below (g := gb395) (o := .cells #[.int .u64 ((rd_T54 t377 x42_2).f0), .int .u64 ((rd_T54 t377 x42_2).f1)] 54 (0, 0)) (kB BK395.out) hb)
              have n6_ := Aside0.mk (below_step bB hb)
              clear HO_10
              clear HO_40
              clear HO_386000
              clear BK374
              clear BK385
              clear BK395
              clear HB
              have HO_10 := n0_
              have HO_40 := n1_
              have HO_386000 := n2_
              have BK374 := n3_
              have BK385 := n4_
              have BK395 := n5_
              have HB := n6_
              clear n0_ n1_ n2_ n3_ n4_ n5_ n6_
              (try clear hb)
              (try clear hb2)
              (try clear hk)
              (try clear hi)
              refine hK.out _ _ ⟨(blk_cell BK395.out 0).trans rfl, (blk_cell BK395.out 1).trans rfl⟩ (fun hHeld => ?_)
              clear hK K
              refine norm_ (a' := ?_) ?_ ?_
              rotate_left
              ·show Act.put _ (some 60) _ = _
               simp only [Act.put, List.setIfInBounds_toArray, List.set_cons_zero, List.set_cons_succ, i64_w, i32_w]
               rfl
              refine pure_ (i := 15) (N := some 61) (v := ?_) (a' := ?_) #[true, true, true, true, true, true, true, true, true, true, true, true, true, true, true, true, true, false, false] rfl rfl (any_of HT_.out (by kernel_rfl)) (fun _ _ _ h => h) (Or.inl ⟨by rfl, ?_⟩) ?_ ?_
              rotate_left
              ·intro w'
               go_simp
               with_reducible rfl
              rotate_left
              ·simp only [Act.put, List.setIfInBounds_toArray, List.set_cons_zero, List.set_cons_succ, i64_w, i32_w]
               rfl
              refine pure_ (i := 17) (N := some 63) (v := ?_) (a' := ?_) #[true, true, true, true, true, true, true, true, true, true, true, true, true, true, true, true, true, true, false] rfl rfl (any_of HT_.out (by kernel_rfl)) (fun _ _ _ h => h) (Or.inl ⟨by rfl, ?_⟩) ?_ ?_
              rotate_left
              ·intro w'
               go_simp
               with_reducible rfl
              rotate_left
              ·simp only [Act.put, List.setIfInBounds_toArray, List.set_cons_zero, List.set_cons_succ, i64_w, i32_w]
               rfl
              refine pure_ (i := 18) (N := some 64) (v := ?_) (a' := ?_) #[true, true, true, true, true, true, true, true, true, true, true, true, true, true, true, true, true, true, true] rfl rfl (any_of HT_.out (by kernel_rfl)) (fun _ _ _ h => h) (Or.inl ⟨by rfl, ?_⟩) ?_ ?_
              rotate_left
              ·intro w'
               go_simp
               with_reducible rfl
              rotate_left
              ·simp only [Act.put, List.setIfInBounds_toArray, List.set_cons_zero, List.set_cons_succ, i64_w, i32_w]
               rfl
              refine done_ (done_of HT_.out (by kernel_rfl)) ?_
              have hnb61 := NB374_385.out
              have hnc61 := NB385_374.out
              have hcz62_0 : w60.cell? ⟨gb374, 0, none⟩ = some (.int .i64 a0_0) := (blk_cell BK374.out 0).trans rfl
              have hcz62_1 : w60.cell? ⟨gb374, 1, none⟩ = some (.int .i64 a0_1) := (blk_cell BK374.out 1).trans rfl
              have hcz62_2 : w60.cell? ⟨gb374, 2, none⟩ = some (.int .i64 a0_2) := (blk_cell BK374.out 2).trans rfl
              have hcz62_3 : w60.cell? ⟨gb374, 3, none⟩ = some (.int .u64 a0_3) := (blk_cell BK374.out 3).trans rfl
              have hcz62_4 : w60.cell? ⟨gb374, 4, none⟩ = some (.int .u64 a0_4) := (blk_cell BK374.out 4).trans rfl
              have hcz62_5 : w60.cell? ⟨gb374, 5, none⟩ = some (.int .u64 a0_5) := (blk_cell BK374.out 5).trans rfl
              have hfz62_0 := blk_frozen BK374.out 0
              have hfz62_1 := blk_frozen BK374.out 1
              have hfz62_2 := blk_frozen BK374.out 2
              have hfz62_3 := blk_frozen BK374.out 3
              have hfz62_4 := blk_frozen BK374.out 4
              have hfz62_5 := blk_frozen BK374.out 5
              have hcz63_0 : w60.cell? ⟨gb395, 0, none⟩ = some (.int .u64 ((rd_T54 t377 x42_2).f0)) := (blk_cell BK395.out 0).trans rfl
              have hcz63_1 : w60.cell? ⟨gb395, 1, none⟩ = some (.int .u64 ((rd_T54 t377 x42_2).f1)) := (blk_cell BK395.out 1).trans rfl
              have hfz63_0 := blk_frozen BK395.out 0
              have hfz63_1 := blk_frozen BK395.out 1
              try go_wp2_with (first | ((with_reducible refine gate_callee (f := 35) rfl ?_); refine goesL_ (some 69) rfl rfl Tryd.func35 (by kernel_rfl) rfl #[.agg #[.int .i64 a0_0, .int .i64 a0_1, .int .i64 a0_2, .int .u64 a0_3, .int .u64 a0_4, .int .u64 a0_5], .slice A1 l1.length c1, .agg #[.int .u64 ((rd_T54 t377 x42_2).f0), .int .u64 ((rd_T54 t377 x42_2).f1)]] rfl aV ?_; (with_reducible refine (spec_NodeHash.calls k2 a0_0 a0_1 a0_2 a0_3 a0_4 a0_5 (fun k_ => k_ < w.heap.size) _ _ l1 ((rd_T54 t377 x42_2).f0) ((rd_T54 t377 x42_2).f1) t402 _ ?side1 A50.out).mono ?_); (case side1 => first | exact Kd.V_mk HC1.out (Kd.F_below (Kd.C_F (Kd.heap_slice 5 (Kd.heap_int .u8)) HR1.out) bB) | exact Kd.V_mono Kd.V_mk HC1.out (Kd.F_below (Kd.C_F (Kd.heap_slice 5 (Kd.heap_int .u8)) HR1.out) bB) (fun k_ h_ => by simp only [and_assoc] at h_ ⊢; exact h_)); rintro e w64 ⟨v403, rfl, ho0, hb⟩; refine ⟨_, rfl, ?_⟩; have n0_ := Aside0.mk (Kd.N_below (by (with_reducible repeat (first | apply Kd.N_alloc | apply Kd.N_drewN | apply Kd.N_drew)); exact HO_10.out) hb); have n1_ := Aside0.mk (Kd.R_below (kR HO_40.out) hb); have n2_ := Aside0.mk (Kd.R_below (kR HO_386000.out) hb); have n3_ := Aside0.mk (Kd.V_lower (Kd.V_mono (ok' := fun k_ => some k_ ≠ (u10 : Value).ownBlock ∧ some k_ ≠ (.slice (some ad394) t377.length co15 : Value).ownBlock ∧ some k_ ≠ (.slice (some ad394) t377.length co15 : Value).ownBlock ∧ k_ ≠ gb374 ∧ k_ ≠ gb385 ∧ k_ ≠ gb395) ho0 (fun k_ hk_ => ⟨Or.elim hk_ (fun hs_ => fun e_ => Nat.not_le.2 hs_ (Kd.N_base HO_10.out k_ e_.symm)) (fun hn_ => (Kd.fresh' (Kd.N_lt (by (with_reducible repeat (first | apply Kd.N_alloc | apply Kd.N_drewN | apply Kd.N_drew)); exact HO_10.out)) k_ hn_)), Or.elim hk_ (fun hs_ => fun e_ => Nat.not_le.2 hs_ (Kd.R_base HO_40.out k_ e_.symm)) (fun hn_ => (Kd.fresh' (Kd.R_lt (kR HO_40.out)) k_ hn_)), Or.elim hk_ (fun hs_ => fun e_ => Nat.not_le.2 hs_ (Kd.R_base HO_386000.out k_ e_.symm)) (fun hn_ => (Kd.fresh' (Kd.R_lt (kR HO_386000.out)) k_ hn_)), Or.elim hk_ (fun hs_ => fun e_ => Nat.not_le.2 hs_ (by rw [e_]; exact GW374.out)) (fun hn_ => (Kd.freshB (g := gb374) (o := .cells #[.int .i64 a0_0, .int .i64 a0_1, .int .i64 a0_2, .int .u64 a0_3, .int .u64 a0_4, .int .u64 a0_5] 24 (0, 0)) (kB BK374.out) k_ hn_)), Or.elim hk_ (fun hs_ => fun e_ => Nat.not_le.2 hs_ (by rw [e_]; exact GW385.out)) (fun hn_ => (Kd.freshB (g := gb385) (o := .cells #[.slice (some ad394) t377.length co15, .int .u64 t380, .int .u64 t381, .int .i64 t382, .int .i64 t383] 68 (0, 0)) (kB BK385.out) k_ hn_)), Or.elim hk_ (fun hs_ => fun e_ => Nat.not_le.2 hs_ (by rw [e_]; exact GW395.out)) (fun hn_ => (Kd.freshB (g := gb395) (o := .cells #[.int .u64 ((rd_T54 t377 x42_2).f0), .int .u64 ((rd_T54 t377 x42_2).f1)] 54 (0, 0)) (kB BK395.out) k_ hn_))⟩)) (below_size bB)); have n4_ := Aside0.mk (blk_below (g := gb374) (o := .cells #[.int .i64 a0_0, .int .i64 a0_1, .int .i64 a0_2, .int .u64 a0_3, .int .u64 a0_4, .int .u64 a0_5] 24 (0, 0)) (kB BK374.out) hb); have n5_ := Aside0.mk (blk_below (g := gb385) (o := .cells #[.slice (some ad394) t377.length co15, .int .u64 t380, .int .u64 t381, .int .i64 t382, .int .i64 t383] 68 (0, 0)) (kB BK385.out) hb); have n6_ := Aside0.mk (blk_below (g := gb395) (o := .cells #[.int .u64 ((rd_T54 t377 x42_2).f0), .int .u64 ((rd_T54 t377 x42_2).f1)] 54 (0, 0)) (kB BK395.out) hb); have n7_ := Aside0.mk (below_step bB hb); clear HO_10; clear HO_40; clear HO_386000; clear BK374; clear BK385; clear BK395; clear HB; have HO_10 := n0_; have HO_40 := n1_; have HO_386000 := n2_; have HO404 := n3_; have BK374 := n4_; have BK385 := n5_; have BK395 := n6_; have HB := n7_; clear n0_ n1_ n2_ n3_ n4_ n5_ n6_ n7_; (try clear hb); (try clear hb2); (try clear hk); (try clear hi); (try clear ho0); obtain ⟨Ao66, co66, eo66⟩ := Kd.V_slice HO404.out; subst eo66) | ((with_reducible refine gate_builtin (b := .append) (xs := #[.tmp 65, .tmp 70]) rfl ?_); at_builtin; refine Kd.N_append (Kd.slice 5 (Kd.int .u8)) (w0 := w) w.heap.size rfl (.tmp 65) (.tmp 70) 25 27 (.slice none 0 0) 24 rfl Tryd.underlying25 info27 rfl (by decide) (by omega) u10 x10_2 t402 [.slice Ao66 t402.length co66] (fun k_ => some k_ ≠ (.slice (some ad394) t377.length co15 : Value).ownBlock ∧ some k_ ≠ (.slice (some ad394) t377.length co15 : Value).ownBlock ∧ k_ ≠ gb374 ∧ k_ ≠ gb385 ∧ k_ ≠ gb395) (fun k_ => ((fun k_ => some k_ ≠ (.slice (some ad394) t377.length co15 : Value).ownBlock ∧ some k_ ≠ (.slice (some ad394) t377.length co15 : Value).ownBlock ∧ k_ ≠ gb374 ∧ k_ ≠ gb385 ∧ k_ ≠ gb395)) k_ ∧ some k_ ≠ (u10 : Value).ownBlock) rfl rfl ?aP (fun _ hk => hk) ?aF ?aO ?aB ?aS ?aL ?_; (case aP => exact (Kd.FK_slice_mk (Kd.V_reads' (Kd.V_mono (ok' := (fun k_ => ((fun k_ => some k_ ≠ (.slice (some ad394) t377.length co15 : Value).ownBlock ∧ some k_ ≠ (.slice (some ad394) t377.length co15 : Value).ownBlock ∧ k_ ≠ gb374 ∧ k_ ≠ gb385 ∧ k_ ≠ gb395)) k_ ∧ some k_ ≠ (u10 : Value).ownBlock)) (HO404.out) (fun k_ hk => ⟨⟨hk.2.1, ⟨hk.2.2.1, ⟨hk.2.2.2.1, ⟨hk.2.2.2.2.1, hk.2.2.2.2.2⟩⟩⟩⟩, hk.1⟩))).2.1 (Kd.V_F (Kd.V_mono (ok' := (fun k_ => ((fun k_ => some k_ ≠ (.slice (some ad394) t377.length co15 : Value).ownBlock ∧ some k_ ≠ (.slice (some ad394) t377.length co15 : Value).ownBlock ∧ k_ ≠ gb374 ∧ k_ ≠ gb385 ∧ k_ ≠ gb395)) k_ ∧ some k_ ≠ (u10 : Value).ownBlock)) (HO404.out) (fun k_ hk => ⟨⟨hk.2.1, ⟨hk.2.2.1, ⟨hk.2.2.2.1, ⟨hk.2.2.2.2.1, hk.2.2.2.2.2⟩⟩⟩⟩, hk.1⟩))))); (case aB => exact bB); (case aF => exact (fun k_ hk => ⟨Kd.fresh' (Kd.R_lt (kR HO_40.out)) k_ hk, Kd.fresh' (Kd.R_lt (kR HO_386000.out)) k_ hk, Kd.freshB (g := gb374) (o := .cells #[.int .i64 a0_0, .int .i64 a0_1, .int .i64 a0_2, .int .u64 a0_3, .int .u64 a0_4, .int .u64 a0_5] 24 (0, 0)) (kB BK374.out) k_ hk, Kd.freshB (g := gb385) (o := .cells #[.slice (some ad394) t377.length co15, .int .u64 t380, .int .u64 t381, .int .i64 t382, .int .i64 t383] 68 (0, 0)) (kB BK385.out) k_ hk, Kd.freshB (g := gb395) (o := .cells #[.int .u64 ((rd_T54 t377 x42_2).f0), .int .u64 ((rd_T54 t377 x42_2).f1)] 54 (0, 0)) (kB BK395.out) k_ hk⟩)); (case aO => exact (by (with_reducible repeat (first | apply Kd.N_alloc | apply Kd.N_drewN | apply Kd.N_drew)); exact HO_10.out)); (case aS => exact (below_size bB)); (case aL => have := LMc51.out; omega); intro v406 w65 ho hb hg hat; rw [← Ny405.out] at ho; have n0_ := Aside0.mk (Kd.R_over' (kR HO_40.out) (Kd.N_typed (by (with_reducible repeat (first | apply Kd.N_alloc | apply Kd.N_drewN | apply Kd.N_drew)); exact HO_10.out)) (by decide) hg); have n1_ := Aside0.mk (Kd.R_over' (kR HO_386000.out) (Kd.N_typed (by (with_reducible repeat (first | apply Kd.N_alloc | apply Kd.N_drewN | apply Kd.N_drew)); exact HO_10.out)) (by decide) hg); have n2_ := Aside0.mk (blk_grown (g := gb374) (o := .cells #[.int .i64 a0_0, .int .i64 a0_1, .int .i64 a0_2, .int .u64 a0_3, .int .u64 a0_4, .int .u64 a0_5] 24 (0, 0)) (kB BK374.out) hg (Kd.N_ne HO_10.out BK374.out (by decide))); have n3_ := Aside0.mk (blk_grown (g := gb385) (o := .cells #[.slice (some ad394) t377.length co15, .int .u64 t380, .int .u64 t381, .int .i64 t382, .int .i64 t383] 68 (0, 0)) (kB BK385.out) hg (Kd.N_ne HO_10.out BK385.out (by decide))); have n4_ := Aside0.mk (blk_grown (g := gb395) (o := .cells #[.int .u64 ((rd_T54 t377 x42_2).f0), .int .u64 ((rd_T54 t377 x42_2).f1)] 54 (0, 0)) (kB BK395.out) hg (Kd.N_ne HO_10.out BK395.out (by decide))); have n5_ := Aside0.mk (Kd.V_afterv (ok := (fun k_ => some k_ ≠ (.slice (some ad394) t377.length co15 : Value).ownBlock ∧ some k_ ≠ (.slice (some ad394) t377.length co15 : Value).ownBlock ∧ k_ ≠ gb374 ∧ k_ ≠ gb385 ∧ k_ ≠ gb395)) (by (with_reducible repeat (first | apply Kd.V_alloc | apply Kd.V_drewN | apply Kd.V_drew)); exact Kd.V_mono HO404.out (fun _ hk => ⟨⟨hk.2.1, ⟨hk.2.2.1, ⟨hk.2.2.2.1, ⟨hk.2.2.2.2.1, hk.2.2.2.2.2⟩⟩⟩⟩, hk.1⟩)) hg hat); have n6_ := Aside0.mk (hb); have n7_ := Aside0.mk (ho); clear HO_40; clear HO_386000; clear BK374; clear BK385; clear BK395; clear HO404; clear HB; clear HO_10; have HO_40 := n0_; have HO_386000 := n1_; have BK374 := n2_; have BK385 := n3_; have BK395 := n4_; have HO404 := n5_; have HB := n6_; have HO407 := n7_; clear n0_ n1_ n2_ n3_ n4_ n5_ n6_ n7_; clear ho hb hg hat))
              go_roundg k2
              case measure => have := HJ5.out; have := HK2.out; omega
              case rel => exact ⟨(y405), (wrap64 (x42_2 + 1)), (by first | rfl | (simp; done) | (simp [*]; done)), H', ⟨by have := HJ5.out; have := HK2.out; omega⟩, ⟨by (with_reducible repeat (first | apply Kd.N_alloc | apply Kd.N_drewN | apply Kd.N_drew)); exact Kd.N_mono HO407.out (fun _ hk => ⟨hk.1, ⟨hk.2.1, ⟨hk.2.2.1, hk.2.2.2.1⟩⟩⟩)⟩, ⟨by (with_reducible repeat (first | apply Kd.R_alloc | apply Kd.R_drewN | apply Kd.R_drew)); exact Kd.R_mono HO_40.out (fun _ hk => trivial)⟩, ⟨by (with_reducible repeat (first | apply Kd.R_alloc | apply Kd.R_drewN | apply Kd.R_drew)); exact Kd.R_mono HO_386000.out (fun _ hk => trivial)⟩, ⟨by (with_reducible repeat (first | refine blk_drewN ?_ _ | refine blk_drew ?_ | refine blk_alloc ?_ _)); exact BK374.out⟩, ⟨by (with_reducible repeat (first | refine blk_drewN ?_ _ | refine blk_drew ?_ | refine blk_alloc ?_ _)); exact BK385.out⟩, ⟨bB⟩⟩
             ·rw [if_neg c51] at H
              exact absurd H (by simp)
         ·rw [if_neg c20] at H
          exact absurd H (by simp)
        ·rw [if_neg c19] at H
         exact absurd H (by simp)
       ·rw [if_neg c18] at H
        have c18b0 : decide (x42_2 < (t377.length : Int)) = false := decide_eq_false c18
        clear c18
        replace H := Option.bind_eq_some_iff.mp H
        obtain ⟨⟨t386, t389⟩, A670, H⟩ := H
        replace H : (if t384 = true then (if t389 = true then ((spec_Proof.f k2 a0_0 a0_1 a0_2 a0_3 a0_4 a0_5 l1 a2).bind fun t390 => ((spec_Same.f k2 t386 t390).bind fun t393 => (some t393))) else (some false)) else (some false)) = some r := H
        have A67 := Aside0.mk A670
        clear A670
        by_cases c68 : t384 = true
        ·subst c68
         have H1 : (if t389 = true then ((spec_Proof.f k2 a0_0 a0_1 a0_2 a0_3 a0_4 a0_5 l1 a2).bind fun t390 => ((spec_Same.f k2 t386 t390).bind fun t393 => (some t393))) else (some false)) = some r := by rw [if_pos rfl] at H; exact H
         clear H
         have H := H1
         clear H1
         by_cases c69 : t389 = true
         ·subst c69
          have H1 : ((spec_Proof.f k2 a0_0 a0_1 a0_2 a0_3 a0_4 a0_5 l1 a2).bind fun t390 => ((spec_Same.f k2 t386 t390).bind fun t393 => (some t393))) = some r := by rw [if_pos rfl] at H; exact H
          clear H
          have H := H1
          clear H1
          replace H := Option.bind_eq_some_iff.mp H
          obtain ⟨t390, A700, H⟩ := H
          replace H : ((spec_Same.f k2 t386 t390).bind fun t393 => (some t393)) = some r := H
          have A70 := Aside0.mk A700
          clear A700
          replace H := Option.bind_eq_some_iff.mp H
          obtain ⟨t393, A710, H⟩ := H
          replace H : (some t393) = some r := H
          have A71 := Aside0.mk A710
          clear A710
          obtain rfl := Option.some.inj H
          have hnb72 := NB374_385.out
          have hnc72 := NB385_374.out
          have hcz73_0 : wr.cell? ⟨gb374, 0, none⟩ = some (.int .i64 a0_0) := (blk_cell BK374.out 0).trans rfl
          have hcz73_1 : wr.cell? ⟨gb374, 1, none⟩ = some (.int .i64 a0_1) := (blk_cell BK374.out 1).trans rfl
          have hcz73_2 : wr.cell? ⟨gb374, 2, none⟩ = some (.int .i64 a0_2) := (blk_cell BK374.out 2).trans rfl
          have hcz73_3 : wr.cell? ⟨gb374, 3, none⟩ = some (.int .u64 a0_3) := (blk_cell BK374.out 3).trans rfl
          have hcz73_4 : wr.cell? ⟨gb374, 4, none⟩ = some (.int .u64 a0_4) := (blk_cell BK374.out 4).trans rfl
          have hcz73_5 : wr.cell? ⟨gb374, 5, none⟩ = some (.int .u64 a0_5) := (blk_cell BK374.out 5).trans rfl
          have hfz73_0 := blk_frozen BK374.out 0
          have hfz73_1 := blk_frozen BK374.out 1
          have hfz73_2 := blk_frozen BK374.out 2
          have hfz73_3 := blk_frozen BK374.out 3
          have hfz73_4 := blk_frozen BK374.out 4
          have hfz73_5 := blk_frozen BK374.out 5
          obtain ⟨Ao74, co74, eo74⟩ := Kd.N_slice HO_10.out
          subst eo74
          go_wp2_with (first | ((with_reducible refine gate_callee (f := 36) rfl ?_); refine goesL_ (some 78) rfl rfl Tryd.func36 (by kernel_rfl) rfl #[.agg #[.int .i64 a0_0, .int .i64 a0_1, .int .i64 a0_2, .int .u64 a0_3, .int .u64 a0_4, .int .u64 a0_5], .int .u64 a2, .int .u64 (IntKind.u64.wrap ((l1.length : Int))), .slice Ao74 x10_2.length co74] rfl aV ?_; (with_reducible refine (impl_ConsistencyHashes.calls k2 a0_0 a0_1 a0_2 a0_3 a0_4 a0_5 a2 (IntKind.u64.wrap ((l1.length : Int))) _ _ x10_2 t386 true _ ?side1 ?side2 ?side3 A67.out).mono ?_); (case side1 => exact TabOK.below HT.out bB); (case side2 => repeat (first | exact (Kd.N_reads' HO_10.out).2.2 | (with_reducible refine Kd.C_alloc ?_ _) | (with_reducible refine Kd.C_drewN ?_ _) | (with_reducible refine Kd.C_drew ?_))); (case side3 => exact (Kd.N_reads' HO_10.out).2.1); rintro e w75 ⟨v387, rfl, ho0, hb⟩; refine ⟨_, rfl, ?_⟩; have n0_ := Aside0.mk (Kd.N_elder' (by (with_reducible repeat (first | apply Kd.N_alloc | apply Kd.N_drewN | apply Kd.N_drew)); exact HO_10.out) (Kd.N_base (Kd.S_N ho0)) hb); have n1_ := Aside0.mk (Kd.R_below (kR HO_40.out) hb); have n2_ := Aside0.mk (Kd.R_below (kR HO_386000.out) hb); have n3_ := Aside0.mk (Kd.N_lower (Kd.N_mono (ok' := fun k_ => some k_ ≠ (.slice Ao74 x10_2.length co74 : Value).ownBlock ∧ some k_ ≠ (.slice Ao15 t377.length co15 : Value).ownBlock ∧ some k_ ≠ (.slice Ao15 t377.length co15 : Value).ownBlock ∧ k_ ≠ gb374 ∧ k_ ≠ gb385) (Kd.S_N (Kd.S_bound ho0)) (fun k_ hk_ => ⟨(Kd.fresh' (Kd.N_lt (by (with_reducible repeat (first | apply Kd.N_alloc | apply Kd.N_drewN | apply Kd.N_drew)); exact HO_10.out)) k_ hk_.2.1), (Kd.fresh' (Kd.R_lt (kR HO_40.out)) k_ hk_.2.1), (Kd.fresh' (Kd.R_lt (kR HO_386000.out)) k_ hk_.2.1), (Kd.freshB (g := gb374) (o := .cells #[.int .i64 a0_0, .int .i64 a0_1, .int .i64 a0_2, .int .u64 a0_3, .int .u64 a0_4, .int .u64 a0_5] 24 (0, 0)) (kB BK374.out) k_ hk_.2.1), (Kd.freshB (g := gb385) (o := .cells #[.slice Ao15 t377.length co15, .int .u64 t380, .int .u64 t381, .int .i64 t382, .int .i64 t383] 68 (0, 0)) (kB BK385.out) k_ hk_.2.1)⟩)) (below_size bB)); have n4_ := Aside0.mk (blk_below (g := gb374) (o := .cells #[.int .i64 a0_0, .int .i64 a0_1, .int .i64 a0_2, .int .u64 a0_3, .int .u64 a0_4, .int .u64 a0_5] 24 (0, 0)) (kB BK374.out) hb); have n5_ := Aside0.mk (blk_below (g := gb385) (o := .cells #[.slice Ao15 t377.length co15, .int .u64 t380, .int .u64 t381, .int .i64 t382, .int .i64 t383] 68 (0, 0)) (kB BK385.out) hb); have n6_ := Aside0.mk (below_step bB hb); clear HO_10; clear HO_40; clear HO_386000; clear BK374; clear BK385; clear HB; have HO_10 := n0_; have HO_40 := n1_; have HO_386000 := n2_; have HO388 := n3_; have BK374 := n4_; have BK385 := n5_; have HB := n6_; clear n0_ n1_ n2_ n3_ n4_ n5_ n6_; (try clear hb); (try clear hb2); (try clear hk); (try clear hi); (try clear ho0); have hcz76_0 : w75.cell? ⟨gb374, 0, none⟩ = some (.int .i64 a0_0) := (blk_cell BK374.out 0).trans rfl; have hcz76_1 : w75.cell? ⟨gb374, 1, none⟩ = some (.int .i64 a0_1) := (blk_cell BK374.out 1).trans rfl; have hcz76_2 : w75.cell? ⟨gb374, 2, none⟩ = some (.int .i64 a0_2) := (blk_cell BK374.out 2).trans rfl; have hcz76_3 : w75.cell? ⟨gb374, 3, none⟩ = some (.int .u64 a0_3) := (blk_cell BK374.out 3).trans rfl; have hcz76_4 : w75.cell? ⟨gb374, 4, none⟩ = some (.int .u64 a0_4) := (blk_cell BK374.out 4).trans rfl; have hcz76_5 : w75.cell? ⟨gb374, 5, none⟩ = some (.int .u64 a0_5) := (blk_cell BK374.out 5).trans rfl; have hfz76_0 := blk_frozen BK374.out 0; have hfz76_1 := blk_frozen BK374.out 1; have hfz76_2 := blk_frozen BK374.out 2; have hfz76_3 := blk_frozen BK374.out 3; have hfz76_4 := blk_frozen BK374.out 4; have hfz76_5 := blk_frozen BK374.out 5) | (go_at_call 37; (with_reducible refine (spec_Proof.calls k2 a0_0 a0_1 a0_2 a0_3 a0_4 a0_5 (fun k_ => k_ < w.heap.size) _ _ l1 a2 t390 _ ?side1 A70.out).mono ?_); (case side1 => first | exact Kd.V_mk HC1.out (Kd.F_below (Kd.C_F (Kd.heap_slice 5 (Kd.heap_int .u8)) HR1.out) bB) | exact Kd.V_mono Kd.V_mk HC1.out (Kd.F_below (Kd.C_F (Kd.heap_slice 5 (Kd.heap_int .u8)) HR1.out) bB) (fun k_ h_ => by simp only [and_assoc] at h_ ⊢; exact h_)); rintro e w77 ⟨v391, rfl, ho0, hb⟩; have n0_ := Aside0.mk (Kd.N_elder' (by (with_reducible repeat (first | apply Kd.N_alloc | apply Kd.N_drewN | apply Kd.N_drew)); exact HO_10.out) (Kd.N_base ho0) hb); have n1_ := Aside0.mk (Kd.R_below (kR HO_40.out) hb); have n2_ := Aside0.mk (Kd.R_below (kR HO_386000.out) hb); have n3_ := Aside0.mk (Kd.N_elder' (by (with_reducible repeat (first | apply Kd.N_alloc | apply Kd.N_drewN | apply Kd.N_drew)); exact HO388.out) (Kd.N_base ho0) hb); have n4_ := Aside0.mk (Kd.N_lower (Kd.N_mono (ok' := fun k_ => some k_ ≠ (.slice Ao74 x10_2.length co74 : Value).ownBlock ∧ some k_ ≠ (.slice Ao15 t377.length co15 : Value).ownBlock ∧ some k_ ≠ (.slice Ao15 t377.length co15 : Value).ownBlock ∧ some k_ ≠ (v387 : Value).ownBlock ∧ k_ ≠ gb374 ∧ k_ ≠ gb385) ho0 (fun k_ hk_ => ⟨Or.elim hk_ (fun hs_ => fun e_ => Nat.not_le.2 hs_ (Kd.N_base HO_10.out k_ e_.symm)) (fun hn_ => (Kd.fresh' (Kd.N_lt (by (with_reducible repeat (first | apply Kd.N_alloc | apply Kd.N_drewN | apply Kd.N_drew)); exact HO_10.out)) k_ hn_)), Or.elim hk_ (fun hs_ => fun e_ => Nat.not_le.2 hs_ (Kd.R_base HO_40.out k_ e_.symm)) (fun hn_ => (Kd.fresh' (Kd.R_lt (kR HO_40.out)) k_ hn_)), Or.elim hk_ (fun hs_ => fun e_ => Nat.not_le.2 hs_ (Kd.R_base HO_386000.out k_ e_.symm)) (fun hn_ => (Kd.fresh' (Kd.R_lt (kR HO_386000.out)) k_ hn_)), Or.elim hk_ (fun hs_ => fun e_ => Nat.not_le.2 hs_ (Kd.N_base HO388.out k_ e_.symm)) (fun hn_ => (Kd.fresh' (Kd.N_lt (by (with_reducible repeat (first | apply Kd.N_alloc | apply Kd.N_drewN | apply Kd.N_drew)); exact HO388.out)) k_ hn_)), Or.elim hk_ (fun hs_ => fun e_ => Nat.not_le.2 hs_ (by rw [e_]; exact GW374.out)) (fun hn_ => (Kd.freshB (g := gb374) (o := .cells #[.int .i64 a0_0, .int .i64 a0_1, .int .i64 a0_2, .int .u64 a0_3, .int .u64 a0_4, .int .u64 a0_5] 24 (0, 0)) (kB BK374.out) k_ hn_)), Or.elim hk_ (fun hs_ => fun e_ => Nat.not_le.2 hs_ (by rw [e_]; exact GW385.out)) (fun hn_ => (Kd.freshB (g := gb385) (o := .cells #[.slice Ao15 t377.length co15, .int .u64 t380, .int .u64 t381, .int .i64 t382, .int .i64 t383] 68 (0, 0)) (kB BK385.out) k_ hn_))⟩)) (below_size bB)); have n5_ := Aside0.mk (blk_below (g := gb374) (o := .cells #[.int .i64 a0_0, .int .i64 a0_1, .int .i64 a0_2, .int .u64 a0_3, .int .u64 a0_4, .int .u64 a0_5] 24 (0, 0)) (kB BK374.out) hb); have n6_ := Aside0.mk (blk_below (g := gb385) (o := .cells #[.slice Ao15 t377.length co15, .int .u64 t380, .int .u64 t381, .int .i64 t382, .int .i64 t383] 68 (0, 0)) (kB BK385.out) hb); have n7_ := Aside0.mk (below_step bB hb); clear HO_10; clear HO_40; clear HO_386000; clear HO388; clear BK374; clear BK385; clear HB; have HO_10 := n0_; have HO_40 := n1_; have HO_386000 := n2_; have HO388 := n3_; have HO392 := n4_; have BK374 := n5_; have BK385 := n6_; have HB := n7_; clear n0_ n1_ n2_ n3_ n4_ n5_ n6_ n7_; (try clear hb); (try clear hb2); (try clear hk); (try clear hi); (try clear ho0); obtain ⟨Ao78, co78, eo78⟩ := Kd.N_slice HO388.out; subst eo78; obtain ⟨Ao79, co79, eo79⟩ := Kd.N_slice HO392.out; subst eo79) | (go_at_call 17; (with_reducible refine (spec_Same.calls k2 _ _ t386 _ _ t390 t393 _ ?side1 ?side2 ?side3 ?side4 A71.out).mono ?_); (case side1 => repeat (first | exact (Kd.N_reads' HO388.out).2.2 | (with_reducible refine Kd.C_alloc ?_ _) | (with_reducible refine Kd.C_drewN ?_ _) | (with_reducible refine Kd.C_drew ?_))); (case side2 => exact (Kd.N_reads' HO388.out).2.1); (case side3 => repeat (first | exact (Kd.N_reads' HO392.out).2.2 | (with_reducible refine Kd.C_alloc ?_ _) | (with_reducible refine Kd.C_drewN ?_ _) | (with_reducible refine Kd.C_drew ?_))); (case side4 => exact (Kd.N_reads' HO392.out).2.1); rintro e w' ⟨rfl, ⟨nd, rfl⟩⟩))
          go_ret
          exact ⟨by first | rfl | (simp [errW_none, errW_some] <;> rfl) | (simp [*, errW_none, errW_some] <;> rfl), bB⟩
         ·replace c69 := Bool.eq_false_iff.mpr c69
          subst c69
          have H1 : (some false) = some r := by rw [if_neg (show ¬ (false = true) by decide)] at H; exact H
          clear H
          have H := H1
          clear H1
          obtain rfl := Option.some.inj H
          have hnb80 := NB374_385.out
          have hnc80 := NB385_374.out
          have hcz81_0 : wr.cell? ⟨gb374, 0, none⟩ = some (.int .i64 a0_0) := (blk_cell BK374.out 0).trans rfl
          have hcz81_1 : wr.cell? ⟨gb374, 1, none⟩ = some (.int .i64 a0_1) := (blk_cell BK374.out 1).trans rfl
          have hcz81_2 : wr.cell? ⟨gb374, 2, none⟩ = some (.int .i64 a0_2) := (blk_cell BK374.out 2).trans rfl
          have hcz81_3 : wr.cell? ⟨gb374, 3, none⟩ = some (.int .u64 a0_3) := (blk_cell BK374.out 3).trans rfl
          have hcz81_4 : wr.cell? ⟨gb374, 4, none⟩ = some (.int .u64 a0_4) := (blk_cell BK374.out 4).trans rfl
          have hcz81_5 : wr.cell? ⟨gb374, 5, none⟩ = some (.int .u64 a0_5) := (blk_cell BK374.out 5).trans rfl
          have hfz81_0 := blk_frozen BK374.out 0
          have hfz81_1 := blk_frozen BK374.out 1
          have hfz81_2 := blk_frozen BK374.out 2
          have hfz81_3 := blk_frozen BK374.out 3
          have hfz81_4 := blk_frozen BK374.out 4
          have hfz81_5 := blk_frozen BK374.out 5
          obtain ⟨Ao82, co82, eo82⟩ := Kd.N_slice HO_10.out
          subst eo82
          go_wp2_with (first | ((with_reducible refine gate_callee (f := 36) rfl ?_); refine goesL_ (some 78) rfl rfl Tryd.func36 (by kernel_rfl) rfl #[.agg #[.int .i64 a0_0, .int .i64 a0_1, .int .i64 a0_2, .int .u64 a0_3, .int .u64 a0_4, .int .u64 a0_5], .int .u64 a2, .int .u64 (IntKind.u64.wrap ((l1.length : Int))), .slice Ao82 x10_2.length co82] rfl aV ?_; (with_reducible refine (impl_ConsistencyHashes.calls k2 a0_0 a0_1 a0_2 a0_3 a0_4 a0_5 a2 (IntKind.u64.wrap ((l1.length : Int))) _ _ x10_2 t386 false _ ?side1 ?side2 ?side3 A67.out).mono ?_); (case side1 => exact TabOK.below HT.out bB); (case side2 => repeat (first | exact (Kd.N_reads' HO_10.out).2.2 | (with_reducible refine Kd.C_alloc ?_ _) | (with_reducible refine Kd.C_drewN ?_ _) | (with_reducible refine Kd.C_drew ?_))); (case side3 => exact (Kd.N_reads' HO_10.out).2.1); rintro e w83 ⟨v387, rfl, ho0, hb⟩; refine ⟨_, rfl, ?_⟩; have n0_ := Aside0.mk (Kd.N_elder' (by (with_reducible repeat (first | apply Kd.N_alloc | apply Kd.N_drewN | apply Kd.N_drew)); exact HO_10.out) (Kd.N_base (Kd.S_N ho0)) hb); have n1_ := Aside0.mk (Kd.R_below (kR HO_40.out) hb); have n2_ := Aside0.mk (Kd.R_below (kR HO_386000.out) hb); have n3_ := Aside0.mk (Kd.N_lower (Kd.N_mono (ok' := fun k_ => some k_ ≠ (.slice Ao82 x10_2.length co82 : Value).ownBlock ∧ some k_ ≠ (.slice Ao15 t377.length co15 : Value).ownBlock ∧ some k_ ≠ (.slice Ao15 t377.length co15 : Value).ownBlock ∧ k_ ≠ gb374 ∧ k_ ≠ gb385) (Kd.S_N (Kd.S_bound ho0)) (fun k_ hk_ => ⟨(Kd.fresh' (Kd.N_lt (by (with_reducible repeat (first | apply Kd.N_alloc | apply Kd.N_drewN | apply Kd.N_drew)); exact HO_10.out)) k_ hk_.2.1), (Kd.fresh' (Kd.R_lt (kR HO_40.out)) k_ hk_.2.1), (Kd.fresh' (Kd.R_lt (kR HO_386000.out)) k_ hk_.2.1), (Kd.freshB (g := gb374) (o := .cells #[.int .i64 a0_0, .int .i64 a0_1, .int .i64 a0_2, .int .u64 a0_3, .int .u64 a0_4, .int .u64 a0_5] 24 (0, 0)) (kB BK374.out) k_ hk_.2.1), (Kd.freshB (g := gb385) (o := .cells #[.slice Ao15 t377.length co15, .int .u64 t380, .int .u64 t381, .int .i64 t382, .int .i64 t383] 68 (0, 0)) (kB BK385.out) k_ hk_.2.1)⟩)) (below_size bB)); have n4_ := Aside0.mk (blk_below (g := gb374) (o := .cells #[.int .i64 a0_0, .int .i64 a0_1, .int .i64 a0_2, .int .u64 a0_3, .int .u64 a0_4, .int .u64 a0_5] 24 (0, 0)) (kB BK374.out) hb); have n5_ := Aside0.mk (blk_below (g := gb385) (o := .cells #[.slice Ao15 t377.length co15, .int .u64 t380, .int .u64 t381, .int .i64 t382, .int .i64 t383] 68 (0, 0)) (kB BK385.out) hb); have n6_ := Aside0.mk (below_step bB hb); clear HO_10; clear HO_40; clear HO_386000; clear BK374; clear BK385; clear HB; have HO_10 := n0_; have HO_40 := n1_; have HO_386000 := n2_; have HO388 := n3_; have BK374 := n4_; have BK385 := n5_; have HB := n6_; clear n0_ n1_ n2_ n3_ n4_ n5_ n6_; (try clear hb); (try clear hb2); (try clear hk); (try clear hi); (try clear ho0)))
          go_ret
          exact ⟨by first | rfl | (simp [errW_none, errW_some] <;> rfl) | (simp [*, errW_none, errW_some] <;> rfl), bB⟩
        ·replace c68 := Bool.eq_false_iff.mpr c68
         subst c68
         have H1 : (some false) = some r := by rw [if_neg (show ¬ (false = true) by decide)] at H; exact H
         clear H
         have H := H1
         clear H1
         obtain rfl := Option.some.inj H
         have hnb84 := NB374_385.out
         have hnc84 := NB385_374.out
         have hcz85_0 : wr.cell? ⟨gb374, 0, none⟩ = some (.int .i64 a0_0) := (blk_cell BK374.out 0).trans rfl
         have hcz85_1 : wr.cell? ⟨gb374, 1, none⟩ = some (.int .i64 a0_1) := (blk_cell BK374.out 1).trans rfl
         have hcz85_2 : wr.cell? ⟨gb374, 2, none⟩ = some (.int .i64 a0_2) := (blk_cell BK374.out 2).trans rfl
         have hcz85_3 : wr.cell? ⟨gb374, 3, none⟩ = some (.int .u64 a0_3) := (blk_cell BK374.out 3).trans rfl
         have hcz85_4 : wr.cell? ⟨gb374, 4, none⟩ = some (.int .u64 a0_4) := (blk_cell BK374.out 4).trans rfl
         have hcz85_5 : wr.cell? ⟨gb374, 5, none⟩ = some (.int .u64 a0_5) := (blk_cell BK374.out 5).trans rfl
         have hfz85_0 := blk_frozen BK374.out 0
         have hfz85_1 := blk_frozen BK374.out 1
         have hfz85_2 := blk_frozen BK374.out 2
         have hfz85_3 := blk_frozen BK374.out 3
         have hfz85_4 := blk_frozen BK374.out 4
         have hfz85_5 := blk_frozen BK374.out 5
         obtain ⟨Ao86, co86, eo86⟩ := Kd.N_slice HO_10.out
         subst eo86
         go_wp2_with (first | ((with_reducible refine gate_callee (f := 36) rfl ?_); refine goesL_ (some 78) rfl rfl Tryd.func36 (by kernel_rfl) rfl #[.agg #[.int .i64 a0_0, .int .i64 a0_1, .int .i64 a0_2, .int .u64 a0_3, .int .u64 a0_4, .int .u64 a0_5], .int .u64 a2, .int .u64 (IntKind.u64.wrap ((l1.length : Int))), .slice Ao86 x10_2.length co86] rfl aV ?_; (with_reducible refine (impl_ConsistencyHashes.calls k2 a0_0 a0_1 a0_2 a0_3 a0_4 a0_5 a2 (IntKind.u64.wrap ((l1.length : Int))) _ _ x10_2 t386 t389 _ ?side1 ?side2 ?side3 A67.out).mono ?_); (case side1 => exact TabOK.below HT.out bB); (case side2 => repeat (first | exact (Kd.N_reads' HO_10.out).2.2 | (with_reducible refine Kd.C_alloc ?_ _) | (with_reducible refine Kd.C_drewN ?_ _) | (with_reducible refine Kd.C_drew ?_))); (case side3 => exact (Kd.N_reads' HO_10.out).2.1); rintro e w87 ⟨v387, rfl, ho0, hb⟩; refine ⟨_, rfl, ?_⟩; have n0_ := Aside0.mk (Kd.N_elder' (by (with_reducible repeat (first | apply Kd.N_alloc | apply Kd.N_drewN | apply Kd.N_drew)); exact HO_10.out) (Kd.N_base (Kd.S_N ho0)) hb); have n1_ := Aside0.mk (Kd.R_below (kR HO_40.out) hb); have n2_ := Aside0.mk (Kd.R_below (kR HO_386000.out) hb); have n3_ := Aside0.mk (Kd.N_lower (Kd.N_mono (ok' := fun k_ => some k_ ≠ (.slice Ao86 x10_2.length co86 : Value).ownBlock ∧ some k_ ≠ (.slice Ao15 t377.length co15 : Value).ownBlock ∧ some k_ ≠ (.slice Ao15 t377.length co15 : Value).ownBlock ∧ k_ ≠ gb374 ∧ k_ ≠ gb385) (Kd.S_N (Kd.S_bound ho0)) (fun k_ hk_ => ⟨(Kd.fresh' (Kd.N_lt (by (with_reducible repeat (first | apply Kd.N_alloc | apply Kd.N_drewN | apply Kd.N_drew)); exact HO_10.out)) k_ hk_.2.1), (Kd.fresh' (Kd.R_lt (kR HO_40.out)) k_ hk_.2.1), (Kd.fresh' (Kd.R_lt (kR HO_386000.out)) k_ hk_.2.1), (Kd.freshB (g := gb374) (o := .cells #[.int .i64 a0_0, .int .i64 a0_1, .int .i64 a0_2, .int .u64 a0_3, .int .u64 a0_4, .int .u64 a0_5] 24 (0, 0)) (kB BK374.out) k_ hk_.2.1), (Kd.freshB (g := gb385) (o := .cells #[.slice Ao15 t377.length co15, .int .u64 t380, .int .u64 t381, .int .i64 t382, .int .i64 t383] 68 (0, 0)) (kB BK385.out) k_ hk_.2.1)⟩)) (below_size bB)); have n4_ := Aside0.mk (blk_below (g := gb374) (o := .cells #[.int .i64 a0_0, .int .i64 a0_1, .int .i64 a0_2, .int .u64 a0_3, .int .u64 a0_4, .int .u64 a0_5] 24 (0, 0)) (kB BK374.out) hb); have n5_ := Aside0.mk (blk_below (g := gb385) (o := .cells #[.slice Ao15 t377.length co15, .int .u64 t380, .int .u64 t381, .int .i64 t382, .int .i64 t383] 68 (0, 0)) (kB BK385.out) hb); have n6_ := Aside0.mk (below_step bB hb); clear HO_10; clear HO_40; clear HO_386000; clear BK374; clear BK385; clear HB; have HO_10 := n0_; have HO_40 := n1_; have HO_386000 := n2_; have HO388 := n3_; have BK374 := n4_; have BK385 := n5_; have HB := n6_; clear n0_ n1_ n2_ n3_ n4_ n5_ n6_; (try clear hb); (try clear hb2); (try clear hk); (try clear hi); (try clear ho0)))
         go_ret
         exact ⟨by first | rfl | (simp [errW_none, errW_some] <;> rfl) | (simp [*, errW_none, errW_some] <;> rfl), bB⟩
 ·replace c5 := Bool.eq_false_iff.mpr c5
  subst c5
  have H1 : (some true) = some r := by rw [if_neg (show ¬ (false = true) by decide)] at H; exact H
  clear H
  have H := H1
  clear H1
  obtain rfl := Option.some.inj H
  go_enter Tryd.func9, Tryd.ntmps9
  go_wp2_with (first | ((with_reducible refine gate_dst (N := 3) rfl ?_); refine box_event ?hg (N := 3) ?hd (cs := #[.int .i64 a0_0, .int .i64 a0_1, .int .i64 a0_2, .int .u64 a0_3, .int .u64 a0_4, .int .u64 a0_5]) (t := 24) ?hr ?_; (case hd => rfl); (case hg => rfl); (case hr => first | (go_simp; done) | (go_simp; rfl)); intro gb374 hg w88 hbox hb; have n0_ := Aside0.mk (below_step bB hb); have n1_ := Aside0.mk (hbox); have n2_ := Aside0.mk ((by rw [hg]; exact (below_size bB) : w.heap.size ≤ gb374)); have n3_ := Aside0.mk ((by rw [hg]; exact (below_size bB) : w.heap.size ≤ gb374)); clear HB; have HB := n0_; have BK374 := n1_; have GW374 := n2_; have GE374 := n3_; clear n0_ n1_ n2_ n3_; clear hb hbox hg) | ((with_reducible refine gate_callee (f := 12) rfl ?_); refine goesL_ (some 16) rfl rfl Tryd.func12 (by kernel_rfl) rfl #[.slice A1 l1.length c1] rfl aV ?_; (with_reducible refine (laws_zzFits2.calls k _ _ l1 false _ ?side1 ?side2 A4.out).mono ?_); (case side1 => repeat (first | exact (Kd.C_below HR1.out HB.out) | (with_reducible refine Kd.C_alloc ?_ _) | (with_reducible refine Kd.C_drewN ?_ _) | (with_reducible refine Kd.C_drew ?_))); (case side2 => exact HC1.out); rintro e w' ⟨rfl, ⟨nd, rfl⟩⟩; refine ⟨_, rfl, ?_⟩))
  go_ret
  exact ⟨by first | rfl | (simp [errW_none, errW_some] <;> rfl) | (simp [*, errW_none, errW_some] <;> rfl), bB⟩

end Go.Proofs.YtkmdkmlgahfcpaaDoor.M

