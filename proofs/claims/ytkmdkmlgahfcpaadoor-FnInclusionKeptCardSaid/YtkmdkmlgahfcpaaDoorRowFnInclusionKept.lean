/- FnInclusionKept: out of a log that grew, the range of the leaves behind a leaf, put together with the range of those that came later, still proves the leaf in the grown log; and the two logs are one. -/
import Derived.Test.YtkmdkmlgahfcpaaDoorRows
import Derived.Test.YtkmdkmlgahfcpaaDoorCards
import Derived.Test.YtkmdkmlgahfcpaaDoorTie
import Derived.Test.YtkmdkmlgahfcpaaDoorLawB
import Derived.Test.YtkmdkmlgahfcpaaDoorOpenRows
import Derived.Test.YtkmdkmlgahfcpaaDoorTabLaid
import Derived.WalkKit
import Derived.ProofKit
import Derived.OpenShut
import Derived.ShutString
import Derived.ChangeOld
import Derived.Below
import Derived.SizedLaws
import Derived.Lib.SmallJoins
import Derived.Carry
import Derived.LaidMore
import Derived.Lib.LaidTab
import Derived.SevenTiedAt
import Derived.LaidLaws
namespace Go.Proofs.YtkmdkmlgahfcpaaDoor.fnInclusionKept
open Go.ChangeShapes Go.WideShapes Go.ChangeAt Go.RowKit Go.Proofs.YtkmdkmlgahfcpaaDoor.M Go.Proofs.YtkmdkmlgahfcpaaDoorW.PrintWords
set_option linter.unusedVariables false
theorem own : ownKnob Tryd.prog.godebug = none := by kernel_rfl
theorem laidOut : laidOutB Tryd.prog = true := by kernel_rfl
theorem door_met (os : Os) (args : Array Value) : laidMetH Tryd.prog Rows.fnInclusionKeptRow.laid ((World.doorLaid Tryd.prog 14 os).forCall (fun _ _ => 0) ⟨#[], args, []⟩).memory :=
  laidMetH_of_parts3 (fuel := 8) (laidMet_of_run' 8 (by kernel_rfl) (by kernel_rfl)) (by kernel_rfl) (by kernel_rfl)
theorem tab_of {W : World} (h : laidMetH Tryd.prog Rows.fnInclusionKeptRow.laid W) : TabOK W := tabOK_of_laid (by rw [MakeChecks.laidMetH_plain _ _ _ (by kernel_rfl)] at h; exact h)
set_option maxRecDepth 100000 in
set_option maxHeartbeats 1000000 in
theorem lifted (os : Os) (started : os.Started) (H : Type) (enc : TypeId × Value → H) :
    ReturnsInHanded {} Tryd.checked os 11 .any (fun w args => (Rows.fnInclusionKeptSpec.pre enc Tryd.prog Tryd.f11 [] false w args ∧ laidMetH Tryd.prog Rows.fnInclusionKeptRow.laid w) ∧ sizedMet enc Tryd.prog Tryd.f11 (OpenSpec.ofChange Rows.fnInclusionKeptSpec) false w args)
      (Rows.fnInclusionKeptSpec.post enc Tryd.prog Tryd.f11 false true false false) := by
  refine returnsInHanded_of_change_and (C := Tryd.checked) (X := fun w _ => laidMetH Tryd.prog Rows.fnInclusionKeptRow.laid w) (fun _ _ _ hh h => h.of_heap hh) own started (by kernel_rfl) Tryd.func11
    (ChangeSpec.witness_shaped (enc := enc) (C := Tryd.checked) (os := os) (X := fun w _ => laidMetH Tryd.prog Rows.fnInclusionKeptRow.laid w) false (World.doorLaid Tryd.prog 14 os) #[.agg #[.int .i64 0, .int .i64 0, .int .i64 0, .int .u64 0, .int .u64 0, .int .u64 0], .agg #[.int .u64 0, .int .u64 0, .slice none 0 0], .slice none 0 0, .agg #[.int .u64 0, .int .u64 0, .slice none 0 0], .agg #[.int .u64 0, .int .u64 0, .slice none 0 0]] 8 rfl (World.shaped_of_RefB (by kernel_rfl) (by kernel_rfl)) (by kernel_rfl) (by kernel_rfl) (by kernel_rfl) (door_met os _)) ?_
  intro W base args ds gs before hval0 hW _ _ hL _
  have hval : ∀ (j : Nat) t v, Tryd.f11.params[j]? = some t → args[j]? = some v → Value.okWide Tryd.prog W .any base t v := hval0
  have hW' := hW
  obtain ⟨p, q, hA0, hV, rfl, hfz, hnd⟩ := hW
  have hA : DataW.TrodAll enc Tryd.prog W 0 (fun _ => true) true Tryd.f11.params.toList args.toList ds p := hA0
  rw [Tryd.params11] at hA hval
  obtain ⟨v0, vs0, d0, ds0, p0, q0, hargs, rfl, rfl, h0, r0⟩ := trodAll_cons hA
  obtain ⟨v1, vs1, d1, ds1, p1, q1, rfl, rfl, rfl, h1, r1⟩ := trodAll_cons r0
  obtain ⟨v2, vs2, d2, ds2, p2, q2, rfl, rfl, rfl, h2, r2⟩ := trodAll_cons r1
  obtain ⟨v3, vs3, d3, ds3, p3, q3, rfl, rfl, rfl, h3, r3⟩ := trodAll_cons r2
  obtain ⟨v4, vs4, d4, ds4, p4, q4, rfl, rfl, rfl, h4, r4⟩ := trodAll_cons r3
  obtain ⟨rfl, rfl, rfl⟩ := trodAll_nil r4
  obtain rfl : args = #[v0, v1, v2, v3, v4] := by cases args; simp_all
  obtain ⟨rfl, rfl⟩ := trodVars_none hV
  have k0 := h0
  have lt0 : ∀ x ∈ p0, x.block < W.heap.size := by obtain ⟨m, hm⟩ := k0; exact DataW.trod_lt m _ _ _ hm
  obtain ⟨c0_0v, c0_1v, c0_2v, c0_3v, c0_4v, c0_5v, y0_0, y0_1, y0_2, y0_3, y0_4, y0_5, m0, rfl, _, _, hy0_0, hy0_1, hy0_2, hy0_3, hy0_4, hy0_5⟩ := OpenRows.open_agg6 Tryd.underlying24 (by kernel_rfl) (by kernel_rfl) (hval 0 24 v0 rfl rfl) h0
  obtain ⟨a0_0, e0_0, _, w0_0⟩ := DataW.trod_int Tryd.underlying3 hy0_0
  obtain rfl := (List.cons.inj e0_0).1
  obtain ⟨a0_1, e0_1, _, w0_1⟩ := DataW.trod_int Tryd.underlying3 hy0_1
  obtain rfl := (List.cons.inj e0_1).1
  obtain ⟨a0_2, e0_2, _, w0_2⟩ := DataW.trod_int Tryd.underlying3 hy0_2
  obtain rfl := (List.cons.inj e0_2).1
  obtain ⟨a0_3, e0_3, _, w0_3⟩ := DataW.trod_int Tryd.underlying22 hy0_3
  obtain rfl := (List.cons.inj e0_3).1
  obtain ⟨a0_4, e0_4, _, w0_4⟩ := DataW.trod_int Tryd.underlying22 hy0_4
  obtain rfl := (List.cons.inj e0_4).1
  obtain ⟨a0_5, e0_5, _, w0_5⟩ := DataW.trod_int Tryd.underlying22 hy0_5
  obtain rfl := (List.cons.inj e0_5).1
  have k1 := h1
  have lt1 : ∀ x ∈ p1, x.block < W.heap.size := by obtain ⟨m, hm⟩ := k1; exact DataW.trod_lt m _ _ _ hm
  obtain ⟨c1_0v, c1_1v, c1_2v, y1_0, y1_1, y1_2, m1, rfl, _, _, hy1_0, hy1_1, hy1_2⟩ := Joins.open_agg3 Tryd.underlying39 (by kernel_rfl) (by kernel_rfl) (hval 1 39 v1 rfl rfl) h1
  obtain ⟨a1_0, e1_0, _, w1_0⟩ := DataW.trod_int Tryd.underlying22 hy1_0
  obtain rfl := (List.cons.inj e1_0).1
  obtain ⟨a1_1, e1_1, _, w1_1⟩ := DataW.trod_int Tryd.underlying22 hy1_1
  obtain rfl := (List.cons.inj e1_1).1
  obtain ⟨A1_2, c1_2, l1_2, e1_2, hl1_2, _, hC1_2, hB1_2⟩ := OpenRows.rows Tryd.underlying25 (by kernel_rfl) Tryd.underlying27 (by kernel_rfl) Tryd.underlying5 5 hy1_2
  obtain rfl := (List.cons.inj e1_2).1
  have k2 := h2
  have lt2 : ∀ x ∈ p2, x.block < W.heap.size := by obtain ⟨m, hm⟩ := k2; exact DataW.trod_lt m _ _ _ hm
  obtain ⟨sa2, sn2, sc2, rfl⟩ := Go.WideShapes.okWide_slice Tryd.underlying27 (hval 2 27 v2 rfl rfl)
  obtain ⟨m2, h2⟩ := h2
  obtain ⟨A2, c2, l2, e2, hl2, _, hC2, hB2⟩ := OpenRows.bytes Tryd.underlying27 (by kernel_rfl) Tryd.underlying5 h2
  obtain ⟨rfl, rfl, rfl⟩ : sa2 = A2 ∧ sn2 = l2.length ∧ sc2 = c2 := by injection e2 with e _; injection e with e1 e2 e3; exact ⟨e1, e2, e3⟩
  have k3 := h3
  have lt3 : ∀ x ∈ p3, x.block < W.heap.size := by obtain ⟨m, hm⟩ := k3; exact DataW.trod_lt m _ _ _ hm
  obtain ⟨c3_0v, c3_1v, c3_2v, y3_0, y3_1, y3_2, m3, rfl, _, _, hy3_0, hy3_1, hy3_2⟩ := Joins.open_agg3 Tryd.underlying39 (by kernel_rfl) (by kernel_rfl) (hval 3 39 v3 rfl rfl) h3
  obtain ⟨a3_0, e3_0, _, w3_0⟩ := DataW.trod_int Tryd.underlying22 hy3_0
  obtain rfl := (List.cons.inj e3_0).1
  obtain ⟨a3_1, e3_1, _, w3_1⟩ := DataW.trod_int Tryd.underlying22 hy3_1
  obtain rfl := (List.cons.inj e3_1).1
  obtain ⟨A3_2, c3_2, l3_2, e3_2, hl3_2, _, hC3_2, hB3_2⟩ := OpenRows.rows Tryd.underlying25 (by kernel_rfl) Tryd.underlying27 (by kernel_rfl) Tryd.underlying5 5 hy3_2
  obtain rfl := (List.cons.inj e3_2).1
  have k4 := h4
  have lt4 : ∀ x ∈ p4, x.block < W.heap.size := by obtain ⟨m, hm⟩ := k4; exact DataW.trod_lt m _ _ _ hm
  obtain ⟨c4_0v, c4_1v, c4_2v, y4_0, y4_1, y4_2, m4, rfl, _, _, hy4_0, hy4_1, hy4_2⟩ := Joins.open_agg3 Tryd.underlying39 (by kernel_rfl) (by kernel_rfl) (hval 4 39 v4 rfl rfl) h4
  obtain ⟨a4_0, e4_0, _, w4_0⟩ := DataW.trod_int Tryd.underlying22 hy4_0
  obtain rfl := (List.cons.inj e4_0).1
  obtain ⟨a4_1, e4_1, _, w4_1⟩ := DataW.trod_int Tryd.underlying22 hy4_1
  obtain rfl := (List.cons.inj e4_1).1
  obtain ⟨A4_2, c4_2, l4_2, e4_2, hl4_2, _, hC4_2, hB4_2⟩ := OpenRows.rows Tryd.underlying25 (by kernel_rfl) Tryd.underlying27 (by kernel_rfl) Tryd.underlying5 5 hy4_2
  obtain rfl := (List.cons.inj e4_2).1
  clear hA0 hval0
  obtain ⟨k, h⟩ := Ev.rounds (g := fun k => laws_FnInclusionKept.f k a0_0 a0_1 a0_2 a0_3 a0_4 a0_5 a1_0 a1_1 l1_2 l2 a3_0 a3_1 l3_2 a4_0 a4_1 l4_2) (r := true) (M.inclusionKept_ev a0_0 a0_1 a0_2 a0_3 a0_4 a0_5 a1_0 a1_1 l1_2 l2 a3_0 a3_1 l3_2 a4_0 a4_1 l4_2 w1_0 w1_1 w3_0 w3_1 w4_0 w4_1)
  refine (laws_FnInclusionKept.callsC k a0_0 a0_1 a0_2 a0_3 a0_4 a0_5 a1_0 a1_1 _ _ l1_2 _ _ l2 a3_0 a3_1 _ _ l3_2 a4_0 a4_1 _ _ l4_2 true W (tab_of hL) hC1_2 hl1_2 hC2 hl2 hC3_2 hl3_2 hC4_2 hl4_2 h).mono fun e W' ⟨he, bel⟩ => ?_
  subst he
  exact ⟨_, rfl, _, _, _, [], _, [], hW', trodAll_mk1 (shut_bool Tryd.underlying4 _), (trodAll_cons_mk (Below.trod laidOut (by kernel_rfl) (of_decide_eq_true (by kernel_rfl)) k0 bel lt0) (trodAll_cons_mk (Below.trod laidOut (by kernel_rfl) (of_decide_eq_true (by kernel_rfl)) k1 bel lt1) (trodAll_cons_mk (Below.trod laidOut (by kernel_rfl) (of_decide_eq_true (by kernel_rfl)) k2 bel lt2) (trodAll_cons_mk (Below.trod laidOut (by kernel_rfl) (of_decide_eq_true (by kernel_rfl)) k3 bel lt3) (trodAll_cons_mk (Below.trod laidOut (by kernel_rfl) (of_decide_eq_true (by kernel_rfl)) k4 bel lt4) trodAll_mk0))))), rfl, bel.frame _, fun h => by cases h⟩
theorem over : Rows.fnInclusionKeptRow.holds Tryd.pinned (OpenSpec.ofChange Rows.fnInclusionKeptSpec) :=
  OpenClaim.holds_of_wide 11 Tryd.f11 rfl rfl rfl rfl rfl rfl rfl ⟨rfl, rfl, rfl, rfl, rfl⟩ rfl rfl rfl rfl rfl (by kernel_rfl) Tryd.func11 (by kernel_rfl)
    (of_decide_eq_true (by kernel_rfl)) (by unfold Func.isWrapper; first | (rw [if_pos (by decide +kernel)]; kernel_rfl) | (rw [if_neg (by decide +kernel)]; exact ⟨rfl, rfl⟩))
    (fun os started H enc _ => lifted os started H enc)
theorem card : Rows.FnInclusionKeptCardSaid :=
  Claim7.holds_tied_plain_at .later [] [.data] true (true, "9941d0fa3cd8c936c5c0dcce15b34cdfacdc82e495e10f9c357b7c686b5e4718") true
    over (fun _ h => by cases h) (by kernel_rfl) (fun _ h => by cases h) fnInclusionKept_row_tie rfl ⟨rfl, rfl⟩ (by kernel_rfl) rfl
    (fun f fn hf hfn => by
      obtain rfl : f = 11 := Option.some.inj ((show Tryd.prog.funcNamed Rows.fnInclusionKeptRow.func = some 11 by kernel_rfl).symm.trans hf) |>.symm
      obtain rfl : fn = Tryd.f11 := (Option.some.inj (Tryd.func11.symm.trans hfn)).symm
      exact ⟨by kernel_rfl, fun j t ht => by
        rw [Tryd.params11] at ht
        have hm : t ∈ [24, 39, 27, 39, 39] := by simpa using Array.mem_of_getElem? ht
        have hall : ([24, 39, 27, 39, 39].all fun u => !Tryd.prog.wantsStandIn u) = true := by kernel_rfl
        exact (show Tryd.prog.wantsStandIn t = false by simpa using List.all_eq_true.1 hall t hm)⟩)
    (by kernel_rfl)
#print axioms card
end Go.Proofs.YtkmdkmlgahfcpaaDoor.fnInclusionKept
namespace Go.Proofs.YtkmdkmlgahfcpaaDoor
theorem fnInclusionKept_holds : Rows.FnInclusionKeptCardSaid := fnInclusionKept.card
end Go.Proofs.YtkmdkmlgahfcpaaDoor
