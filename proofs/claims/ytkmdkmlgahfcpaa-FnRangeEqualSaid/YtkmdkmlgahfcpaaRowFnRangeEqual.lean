/- FnRangeEqual: two ranges that may be made are equal exactly if they have the same bounds and the same hashes. -/
import Derived.Test.YtkmdkmlgahfcpaaRows
import Derived.Test.YtkmdkmlgahfcpaaEqLaw
import Derived.Test.YtkmdkmlgahfcpaaOpenRows
import Derived.WalkKit
import Derived.ProofKit
import Derived.OpenShut
import Derived.ShutString
import Derived.ChangeOld
import Derived.Below
import Derived.SizedLaws
import Derived.Lib.SmallJoins
import Derived.Carry
namespace Go.Proofs.Ytkmdkmlgahfcpaa.fnRangeEqual
open Go.ChangeShapes Go.WideShapes Go.ChangeAt Go.RowKit Go.Proofs.Ytkmdkmlgahfcpaa.M Go.Proofs.YtkmdkmlgahfcpaaW.PrintWords
set_option linter.unusedVariables false
theorem own : ownKnob Try.prog.godebug = none := by kernel_rfl
theorem laidOut : laidOutB Try.prog = true := by kernel_rfl
set_option maxRecDepth 100000 in
set_option maxHeartbeats 1000000 in
theorem lifted (os : Os) (started : os.Started) (H : Type) (enc : TypeId × Value → H) :
    ReturnsInHanded {} Try.checked os 3 .any (Rows.fnRangeEqualSpec.pre6 enc Try.prog Try.f3 Rows.fnRangeEqualRow.domain false) (Rows.fnRangeEqualSpec.post enc Try.prog Try.f3 false true false false) := by
  refine returnsInHanded_of_change (C := Try.checked) own started (by kernel_rfl) Try.func3
    (ChangeSpec.witness6 (enc := enc) (C := Try.checked) false ⟨#[], #[.agg #[.int .u64 0, .int .u64 0, .slice none 0 0], .agg #[.int .u64 0, .int .u64 0, .slice none 0 0]], []⟩ 8 (by kernel_rfl) (by kernel_rfl) (by kernel_rfl) (by kernel_rfl)) ?_
  intro W base args ds gs before hval0 hW hcnd _
  have hval : ∀ (j : Nat) t v, Try.f3.params[j]? = some t → args[j]? = some v → Value.okWide Try.prog W .any base t v := hval0
  have hW' := hW
  obtain ⟨p, q, hA0, hV, rfl, hfz, hnd⟩ := hW
  have hA : DataW.TrodAll enc Try.prog W 0 (fun _ => true) true Try.f3.params.toList args.toList ds p := hA0
  rw [Try.params3] at hA hval
  obtain ⟨v0, vs0, d0, ds0, p0, q0, hargs, rfl, rfl, h0, r0⟩ := trodAll_cons hA
  obtain ⟨v1, vs1, d1, ds1, p1, q1, rfl, rfl, rfl, h1, r1⟩ := trodAll_cons r0
  obtain ⟨rfl, rfl, rfl⟩ := trodAll_nil r1
  obtain rfl : args = #[v0, v1] := by cases args; simp_all
  obtain ⟨rfl, rfl⟩ := trodVars_none hV
  have k0 := h0
  have lt0 : ∀ x ∈ p0, x.block < W.heap.size := by obtain ⟨m, hm⟩ := k0; exact DataW.trod_lt m _ _ _ hm
  obtain ⟨c0_0v, c0_1v, c0_2v, y0_0, y0_1, y0_2, m0, rfl, _, _, hy0_0, hy0_1, hy0_2⟩ := Joins.open_agg3 Try.underlying25 (by kernel_rfl) (by kernel_rfl) (hval 0 25 v0 rfl rfl) h0
  obtain ⟨a0_0, e0_0, _, w0_0⟩ := DataW.trod_int Try.underlying22 hy0_0
  obtain rfl := (List.cons.inj e0_0).1
  obtain ⟨a0_1, e0_1, _, w0_1⟩ := DataW.trod_int Try.underlying22 hy0_1
  obtain rfl := (List.cons.inj e0_1).1
  obtain ⟨A0_2, c0_2, l0_2, e0_2, hl0_2, _, hC0_2, hB0_2⟩ := OpenRows.rows Try.underlying23 (by kernel_rfl) Try.underlying30 (by kernel_rfl) Try.underlying5 5 hy0_2
  obtain rfl := (List.cons.inj e0_2).1
  have k1 := h1
  have lt1 : ∀ x ∈ p1, x.block < W.heap.size := by obtain ⟨m, hm⟩ := k1; exact DataW.trod_lt m _ _ _ hm
  obtain ⟨c1_0v, c1_1v, c1_2v, y1_0, y1_1, y1_2, m1, rfl, _, _, hy1_0, hy1_1, hy1_2⟩ := Joins.open_agg3 Try.underlying25 (by kernel_rfl) (by kernel_rfl) (hval 1 25 v1 rfl rfl) h1
  obtain ⟨a1_0, e1_0, _, w1_0⟩ := DataW.trod_int Try.underlying22 hy1_0
  obtain rfl := (List.cons.inj e1_0).1
  obtain ⟨a1_1, e1_1, _, w1_1⟩ := DataW.trod_int Try.underlying22 hy1_1
  obtain rfl := (List.cons.inj e1_1).1
  obtain ⟨A1_2, c1_2, l1_2, e1_2, hl1_2, _, hC1_2, hB1_2⟩ := OpenRows.rows Try.underlying23 (by kernel_rfl) Try.underlying30 (by kernel_rfl) Try.underlying5 5 hy1_2
  obtain rfl := (List.cons.inj e1_2).1
  clear hA0 hval0
  obtain ⟨k, h⟩ := Ev.rounds (g := fun k => laws_FnRangeEqual.f k a0_0 a0_1 l0_2 a1_0 a1_1 l1_2) (r := true) (M.rangeEqual_ev a0_0 a0_1 l0_2 a1_0 a1_1 l1_2 w0_0 w0_1 w1_0 w1_1)
  refine (laws_FnRangeEqual.calls k a0_0 a0_1 _ _ l0_2 a1_0 a1_1 _ _ l1_2 true W hC0_2 hl0_2 hC1_2 hl1_2 h).mono fun e W' ⟨he, bel⟩ => ?_
  subst he
  exact ⟨_, rfl, _, _, _, [], _, [], hW', trodAll_mk1 (shut_bool Try.underlying4 _), (trodAll_cons_mk (Below.trod laidOut (by kernel_rfl) (of_decide_eq_true (by kernel_rfl)) k0 bel lt0) (trodAll_cons_mk (Below.trod laidOut (by kernel_rfl) (of_decide_eq_true (by kernel_rfl)) k1 bel lt1) trodAll_mk0)), rfl, bel.frame _, fun h => by cases h⟩
theorem over : Rows.fnRangeEqualRow.holds Try.pinned (OpenSpec.ofChange Rows.fnRangeEqualSpec) :=
  OpenClaim.holds_of_wide 3 Try.f3 rfl rfl rfl rfl rfl rfl rfl ⟨rfl, rfl, rfl, rfl, rfl⟩ rfl rfl rfl rfl rfl (by kernel_rfl) Try.func3 (by kernel_rfl)
    (of_decide_eq_true (by kernel_rfl)) (by unfold Func.isWrapper; first | (rw [if_pos (by decide +kernel)]; kernel_rfl) | (rw [if_neg (by decide +kernel)]; exact ⟨rfl, rfl⟩))
    (fun os started H enc _ => lifted os started H enc)
#print axioms over
end Go.Proofs.Ytkmdkmlgahfcpaa.fnRangeEqual
namespace Go.Proofs.Ytkmdkmlgahfcpaa
theorem fnRangeEqual_holds : Rows.FnRangeEqualSaid := fnRangeEqual.over
end Go.Proofs.Ytkmdkmlgahfcpaa
