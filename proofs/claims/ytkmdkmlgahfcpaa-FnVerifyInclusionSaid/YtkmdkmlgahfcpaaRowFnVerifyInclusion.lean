/- FnVerifyInclusion: an audit path is taken exactly if RFC 6962 leads by it from the leaf hash to the root; it is refused as is told. -/
import Derived.Test.YtkmdkmlgahfcpaaRows
import Derived.Test.YtkmdkmlgahfcpaaVerLaw
import Derived.Test.YtkmdkmlgahfcpaaOpenRows
import Derived.WalkKit
import Derived.ProofKit
import Derived.OpenShut
import Derived.ShutString
import Derived.ChangeOld
import Derived.Below
import Derived.SizedLaws
import Derived.Lib.SmallJoins
import Derived.Carry
namespace Go.Proofs.Ytkmdkmlgahfcpaa.fnVerifyInclusion
open Go.ChangeShapes Go.WideShapes Go.ChangeAt Go.RowKit Go.Proofs.Ytkmdkmlgahfcpaa.M Go.Proofs.YtkmdkmlgahfcpaaW.PrintWords
set_option linter.unusedVariables false
theorem own : ownKnob Try.prog.godebug = none := by kernel_rfl
theorem laidOut : laidOutB Try.prog = true := by kernel_rfl
set_option maxRecDepth 100000 in
set_option maxHeartbeats 1000000 in
theorem lifted (os : Os) (started : os.Started) (H : Type) (enc : TypeId × Value → H) :
    ReturnsInHanded {} Try.checked os 5 .any (Rows.fnVerifyInclusionSpec.pre6 enc Try.prog Try.f5 Rows.fnVerifyInclusionRow.domain false) (Rows.fnVerifyInclusionSpec.post enc Try.prog Try.f5 false true false false) := by
  refine returnsInHanded_of_change (C := Try.checked) own started (by kernel_rfl) Try.func5
    (ChangeSpec.witness6 (enc := enc) (C := Try.checked) false ⟨#[], #[.agg #[.int .i64 0, .int .i64 0, .int .i64 0, .int .u64 0, .int .u64 0, .int .u64 0], .int .u64 0, .int .u64 0, .slice none 0 0, .slice none 0 0, .slice none 0 0], []⟩ 8 (by kernel_rfl) (by kernel_rfl) (by kernel_rfl) (by kernel_rfl)) ?_
  intro W base args ds gs before hval0 hW hcnd _
  have hval : ∀ (j : Nat) t v, Try.f5.params[j]? = some t → args[j]? = some v → Value.okWide Try.prog W .any base t v := hval0
  have hW' := hW
  obtain ⟨p, q, hA0, hV, rfl, hfz, hnd⟩ := hW
  have hA : DataW.TrodAll enc Try.prog W 0 (fun _ => true) true Try.f5.params.toList args.toList ds p := hA0
  rw [Try.params5] at hA hval
  obtain ⟨v0, vs0, d0, ds0, p0, q0, hargs, rfl, rfl, h0, r0⟩ := trodAll_cons hA
  obtain ⟨v1, vs1, d1, ds1, p1, q1, rfl, rfl, rfl, h1, r1⟩ := trodAll_cons r0
  obtain ⟨v2, vs2, d2, ds2, p2, q2, rfl, rfl, rfl, h2, r2⟩ := trodAll_cons r1
  obtain ⟨v3, vs3, d3, ds3, p3, q3, rfl, rfl, rfl, h3, r3⟩ := trodAll_cons r2
  obtain ⟨v4, vs4, d4, ds4, p4, q4, rfl, rfl, rfl, h4, r4⟩ := trodAll_cons r3
  obtain ⟨v5, vs5, d5, ds5, p5, q5, rfl, rfl, rfl, h5, r5⟩ := trodAll_cons r4
  obtain ⟨rfl, rfl, rfl⟩ := trodAll_nil r5
  obtain rfl : args = #[v0, v1, v2, v3, v4, v5] := by cases args; simp_all
  obtain ⟨rfl, rfl⟩ := trodVars_none hV
  have k0 := h0
  have lt0 : ∀ x ∈ p0, x.block < W.heap.size := by obtain ⟨m, hm⟩ := k0; exact DataW.trod_lt m _ _ _ hm
  obtain ⟨c0_0v, c0_1v, c0_2v, c0_3v, c0_4v, c0_5v, y0_0, y0_1, y0_2, y0_3, y0_4, y0_5, m0, rfl, _, _, hy0_0, hy0_1, hy0_2, hy0_3, hy0_4, hy0_5⟩ := OpenRows.open_agg6 Try.underlying29 (by kernel_rfl) (by kernel_rfl) (hval 0 29 v0 rfl rfl) h0
  obtain ⟨a0_0, e0_0, _, w0_0⟩ := DataW.trod_int Try.underlying3 hy0_0
  obtain rfl := (List.cons.inj e0_0).1
  obtain ⟨a0_1, e0_1, _, w0_1⟩ := DataW.trod_int Try.underlying3 hy0_1
  obtain rfl := (List.cons.inj e0_1).1
  obtain ⟨a0_2, e0_2, _, w0_2⟩ := DataW.trod_int Try.underlying3 hy0_2
  obtain rfl := (List.cons.inj e0_2).1
  obtain ⟨a0_3, e0_3, _, w0_3⟩ := DataW.trod_int Try.underlying22 hy0_3
  obtain rfl := (List.cons.inj e0_3).1
  obtain ⟨a0_4, e0_4, _, w0_4⟩ := DataW.trod_int Try.underlying22 hy0_4
  obtain rfl := (List.cons.inj e0_4).1
  obtain ⟨a0_5, e0_5, _, w0_5⟩ := DataW.trod_int Try.underlying22 hy0_5
  obtain rfl := (List.cons.inj e0_5).1
  obtain ⟨a1, rfl, rfl, rfl, w1⟩ := open_int Try.underlying22 (hval 1 22 v1 rfl rfl) h1
  obtain ⟨a2, rfl, rfl, rfl, w2⟩ := open_int Try.underlying22 (hval 2 22 v2 rfl rfl) h2
  have k3 := h3
  have lt3 : ∀ x ∈ p3, x.block < W.heap.size := by obtain ⟨m, hm⟩ := k3; exact DataW.trod_lt m _ _ _ hm
  obtain ⟨sa3, sn3, sc3, rfl⟩ := Go.WideShapes.okWide_slice Try.underlying30 (hval 3 30 v3 rfl rfl)
  obtain ⟨m3, h3⟩ := h3
  obtain ⟨A3, c3, l3, e3, hl3, _, hC3, hB3⟩ := OpenRows.bytes Try.underlying30 (by kernel_rfl) Try.underlying5 h3
  obtain ⟨rfl, rfl, rfl⟩ : sa3 = A3 ∧ sn3 = l3.length ∧ sc3 = c3 := by injection e3 with e _; injection e with e1 e2 e3; exact ⟨e1, e2, e3⟩
  have k4 := h4
  have lt4 : ∀ x ∈ p4, x.block < W.heap.size := by obtain ⟨m, hm⟩ := k4; exact DataW.trod_lt m _ _ _ hm
  obtain ⟨sa4, sn4, sc4, rfl⟩ := Go.WideShapes.okWide_slice Try.underlying23 (hval 4 23 v4 rfl rfl)
  obtain ⟨m4, h4⟩ := h4
  obtain ⟨A4, c4, l4, e4, hl4, _, hC4, hB4⟩ := OpenRows.rows Try.underlying23 (by kernel_rfl) Try.underlying30 (by kernel_rfl) Try.underlying5 5 h4
  obtain ⟨rfl, rfl, rfl⟩ : sa4 = A4 ∧ sn4 = l4.length ∧ sc4 = c4 := by injection e4 with e _; injection e with e1 e2 e3; exact ⟨e1, e2, e3⟩
  have k5 := h5
  have lt5 : ∀ x ∈ p5, x.block < W.heap.size := by obtain ⟨m, hm⟩ := k5; exact DataW.trod_lt m _ _ _ hm
  obtain ⟨sa5, sn5, sc5, rfl⟩ := Go.WideShapes.okWide_slice Try.underlying30 (hval 5 30 v5 rfl rfl)
  obtain ⟨m5, h5⟩ := h5
  obtain ⟨A5, c5, l5, e5, hl5, _, hC5, hB5⟩ := OpenRows.bytes Try.underlying30 (by kernel_rfl) Try.underlying5 h5
  obtain ⟨rfl, rfl, rfl⟩ : sa5 = A5 ∧ sn5 = l5.length ∧ sc5 = c5 := by injection e5 with e _; injection e with e1 e2 e3; exact ⟨e1, e2, e3⟩
  clear hA0 hval0
  obtain ⟨k, h⟩ := Ev.rounds (g := fun k => laws_FnVerifyInclusion.f k a0_0 a0_1 a0_2 a0_3 a0_4 a0_5 a1 a2 l3 l4 l5) (r := true) (Log.verify_ev a0_0 a0_1 a0_2 a0_3 a0_4 a0_5 a1 a2 w1 w2 l3 l4 l5)
  refine (laws_FnVerifyInclusion.calls k a0_0 a0_1 a0_2 a0_3 a0_4 a0_5 a1 a2 _ _ l3 _ _ l4 _ _ l5 true W hC3 hl3 hC4 hl4 hC5 hl5 h).mono fun e W' ⟨he, bel⟩ => ?_
  subst he
  exact ⟨_, rfl, _, _, _, [], _, [], hW', trodAll_mk1 (shut_bool Try.underlying4 _), (trodAll_cons_mk (Below.trod laidOut (by kernel_rfl) (of_decide_eq_true (by kernel_rfl)) k0 bel lt0) (trodAll_cons_mk (shut_int Try.underlying22 w1) (trodAll_cons_mk (shut_int Try.underlying22 w2) (trodAll_cons_mk (Below.trod laidOut (by kernel_rfl) (of_decide_eq_true (by kernel_rfl)) k3 bel lt3) (trodAll_cons_mk (Below.trod laidOut (by kernel_rfl) (of_decide_eq_true (by kernel_rfl)) k4 bel lt4) (trodAll_cons_mk (Below.trod laidOut (by kernel_rfl) (of_decide_eq_true (by kernel_rfl)) k5 bel lt5) trodAll_mk0)))))), rfl, bel.frame _, fun h => by cases h⟩
theorem over : Rows.fnVerifyInclusionRow.holds Try.pinned (OpenSpec.ofChange Rows.fnVerifyInclusionSpec) :=
  OpenClaim.holds_of_wide 5 Try.f5 rfl rfl rfl rfl rfl rfl rfl ⟨rfl, rfl, rfl, rfl, rfl⟩ rfl rfl rfl rfl rfl (by kernel_rfl) Try.func5 (by kernel_rfl)
    (of_decide_eq_true (by kernel_rfl)) (by unfold Func.isWrapper; first | (rw [if_pos (by decide +kernel)]; kernel_rfl) | (rw [if_neg (by decide +kernel)]; exact ⟨rfl, rfl⟩))
    (fun os started H enc _ => lifted os started H enc)
#print axioms over
end Go.Proofs.Ytkmdkmlgahfcpaa.fnVerifyInclusion
namespace Go.Proofs.Ytkmdkmlgahfcpaa
theorem fnVerifyInclusion_holds : Rows.FnVerifyInclusionSaid := fnVerifyInclusion.over
end Go.Proofs.Ytkmdkmlgahfcpaa
