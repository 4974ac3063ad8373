/- FnMatrixInvertsProducts: the product of two square matrices is inverted exactly if both are, by the product of the inverses in the other order, and the inverse of an inverse is the matrix. -/
import Derived.Test.YtipbhclpeogcmaaDoorRows
import Derived.Test.YtipbhclpeogcmaaDoorCards
import Derived.Test.YtipbhclpeogcmaaDoorTie
import Derived.Test.YtipbhclpeogcmaaDoorGaussF
import Derived.Test.YtipbhclpeogcmaaDoorTabLaidN
import Derived.Test.YtipbhclpeogcmaaDoorOpenRows
import Derived.WalkKit
import Derived.ProofKit
import Derived.OpenShut
import Derived.ShutString
import Derived.ChangeOld
import Derived.Below
import Derived.SizedLaws
import Derived.Lib.SmallJoins
import Derived.Carry
import Derived.LaidMore
import Derived.Lib.LaidTab
import Derived.SevenTiedAt
import Derived.LaidLaws
namespace Go.Proofs.YtipbhclpeogcmaaDoor.fnMatrixInvertsProducts
open Go.ChangeShapes Go.WideShapes Go.ChangeAt Go.RowKit Go.Proofs.YtipbhclpeogcmaaDoor.M Go.Proofs.YtipbhclpeogcmaaDoorW.PrintWords
set_option linter.unusedVariables false
theorem own : ownKnob Tryd.prog.godebug = none := by kernel_rfl
theorem laidOut : laidOutB Tryd.prog = true := by kernel_rfl
theorem door_met (os : Os) (args : Array Value) : laidMetH Tryd.prog Rows.fnMatrixInvertsProductsRow.laid ((World.doorLaid Tryd.prog 152 os).forCall (fun _ _ => 0) ⟨#[], args, []⟩).memory :=
  laidMetH_of_parts3 (fuel := 8) (laidMet_bits 8 257 (by kernel_rfl)) (by kernel_rfl) (by kernel_rfl)
theorem tab_of {W : World} (h : laidMetH Tryd.prog Rows.fnMatrixInvertsProductsRow.laid W) : M.TabOK W := M.tabOK_of_laid (by rw [MakeChecks.laidMetH_plain _ _ _ (by kernel_rfl)] at h; exact h)
set_option maxRecDepth 100000 in
theorem lifted (os : Os) (started : os.Started) (H : Type) (enc : TypeId × Value → H) :
    ReturnsInHanded {} Tryd.checked os 8 .any (fun w args => (Rows.fnMatrixInvertsProductsSpec.pre enc Tryd.prog Tryd.f8 [] false w args ∧ laidMetH Tryd.prog Rows.fnMatrixInvertsProductsRow.laid w) ∧ sizedMet enc Tryd.prog Tryd.f8 (OpenSpec.ofChange Rows.fnMatrixInvertsProductsSpec) false w args)
      (Rows.fnMatrixInvertsProductsSpec.post enc Tryd.prog Tryd.f8 false true false false) := by
  refine returnsInHanded_of_change_and (C := Tryd.checked) (X := fun w _ => laidMetH Tryd.prog Rows.fnMatrixInvertsProductsRow.laid w) (fun _ _ _ hh h => h.of_heap hh) own started (by kernel_rfl) Tryd.func8
    (ChangeSpec.witness_shaped (enc := enc) (C := Tryd.checked) (os := os) (X := fun w _ => laidMetH Tryd.prog Rows.fnMatrixInvertsProductsRow.laid w) false (World.doorLaid Tryd.prog 152 os) #[.slice none 0 0, .slice none 0 0] 8 rfl (World.shaped_of_RefB (by kernel_rfl) (by kernel_rfl)) (by kernel_rfl) (by kernel_rfl) (by kernel_rfl) (door_met os _)) ?_
  intro W base args ds gs before hval0 hW _ _ hL _
  have hval : ∀ (j : Nat) t v, Tryd.f8.params[j]? = some t → args[j]? = some v → Value.okWide Tryd.prog W .any base t v := hval0
  have hW' := hW
  obtain ⟨p, q, hA0, hV, rfl, hfz, hnd⟩ := hW
  have hA : DataW.TrodAll enc Tryd.prog W 0 (fun _ => true) true Tryd.f8.params.toList args.toList ds p := hA0
  rw [Tryd.params8] at hA hval
  obtain ⟨v0, vs0, d0, ds0, p0, q0, hargs, rfl, rfl, h0, r0⟩ := trodAll_cons hA
  obtain ⟨v1, vs1, d1, ds1, p1, q1, rfl, rfl, rfl, h1, r1⟩ := trodAll_cons r0
  obtain ⟨rfl, rfl, rfl⟩ := trodAll_nil r1
  obtain rfl : args = #[v0, v1] := by cases args; simp_all
  obtain ⟨rfl, rfl⟩ := trodVars_none hV
  obtain ⟨sa0, sn0, sc0, rfl⟩ := Go.WideShapes.okWide_slice Tryd.underlying31 (hval 0 31 v0 rfl rfl)
  have k0 := h0
  have lt0 : ∀ x ∈ p0, x.block < W.heap.size := by obtain ⟨m, hm⟩ := k0; exact DataW.trod_lt m _ _ _ hm
  obtain ⟨m0, h0⟩ := h0
  obtain ⟨A0, c0, l0, e0, hl0, _, hC0, hB0⟩ := OpenRows.rows Tryd.underlying31 (by kernel_rfl) Tryd.underlying22 (by kernel_rfl) Tryd.underlying5 5 h0
  obtain ⟨rfl, rfl, rfl⟩ : sa0 = A0 ∧ sn0 = l0.length ∧ sc0 = c0 := by injection e0 with e _; injection e with e1 e2 e3; exact ⟨e1, e2, e3⟩
  obtain ⟨sa1, sn1, sc1, rfl⟩ := Go.WideShapes.okWide_slice Tryd.underlying31 (hval 1 31 v1 rfl rfl)
  have k1 := h1
  have lt1 : ∀ x ∈ p1, x.block < W.heap.size := by obtain ⟨m, hm⟩ := k1; exact DataW.trod_lt m _ _ _ hm
  obtain ⟨m1, h1⟩ := h1
  obtain ⟨A1, c1, l1, e1, hl1, _, hC1, hB1⟩ := OpenRows.rows Tryd.underlying31 (by kernel_rfl) Tryd.underlying22 (by kernel_rfl) Tryd.underlying5 5 h1
  obtain ⟨rfl, rfl, rfl⟩ : sa1 = A1 ∧ sn1 = l1.length ∧ sc1 = c1 := by injection e1 with e _; injection e with e1 e2 e3; exact ⟨e1, e2, e3⟩
  clear hA0 hval0
  refine (Gauss.inverts_calls _ _ l0 _ _ l1 W (tab_of hL) hC0 hl0 hC1 hl1 hB0 hB1).mono fun e W' ⟨he, bel⟩ => ?_
  subst he
  exact ⟨_, rfl, _, _, _, [], _, [], hW', trodAll_mk1 (shut_bool Tryd.underlying4 _), (trodAll_cons_mk (Below.trod laidOut (by kernel_rfl) (of_decide_eq_true (by kernel_rfl)) k0 bel lt0) (trodAll_cons_mk (Below.trod laidOut (by kernel_rfl) (of_decide_eq_true (by kernel_rfl)) k1 bel lt1) trodAll_mk0)), rfl, bel.frame _, fun h => by cases h⟩
theorem over : Rows.fnMatrixInvertsProductsRow.holds Tryd.pinned (OpenSpec.ofChange Rows.fnMatrixInvertsProductsSpec) :=
  OpenClaim.holds_of_wide 8 Tryd.f8 rfl rfl rfl rfl rfl rfl rfl ⟨rfl, rfl, rfl, rfl, rfl⟩ rfl rfl rfl rfl rfl (by kernel_rfl) Tryd.func8 (by kernel_rfl)
    (of_decide_eq_true (by kernel_rfl)) (by unfold Func.isWrapper; first | (rw [if_pos (by decide +kernel)]; kernel_rfl) | (rw [if_neg (by decide +kernel)]; exact ⟨rfl, rfl⟩))
    (fun os started H enc _ => lifted os started H enc)
theorem card : Rows.FnMatrixInvertsProductsCardSaid :=
  Claim7.holds_tied_plain_at .later [] [.data, .data, .sentinel, .sentinel, .sentinel, .sentinel, .sentinel, .sentinel] true (true, "669e9f86a8b7e24802b9a14ec2ce0d43cc6449184c248bbaf810e40ef58fd8a8") false
    over (fun _ h => by cases h) (by kernel_rfl) (fun _ h => by cases h) fnMatrixInvertsProducts_row_tie rfl ⟨rfl, rfl⟩ (by kernel_rfl) rfl
    (fun f fn hf hfn => by
      obtain rfl : f = 8 := Option.some.inj ((show Tryd.prog.funcNamed Rows.fnMatrixInvertsProductsRow.func = some 8 by kernel_rfl).symm.trans hf) |>.symm
      obtain rfl : fn = Tryd.f8 := (Option.some.inj (Tryd.func8.symm.trans hfn)).symm
      exact ⟨by kernel_rfl, fun j t ht => by
        rw [Tryd.params8] at ht
        have hm : t ∈ [31, 31] := by simpa using Array.mem_of_getElem? ht
        have hall : ([31, 31].all fun u => !Tryd.prog.wantsStandIn u) = true := by kernel_rfl
        exact (show Tryd.prog.wantsStandIn t = false by simpa using List.all_eq_true.1 hall t hm)⟩)
    (by kernel_rfl)
#print axioms card
end Go.Proofs.YtipbhclpeogcmaaDoor.fnMatrixInvertsProducts
namespace Go.Proofs.YtipbhclpeogcmaaDoor
theorem fnMatrixInvertsProducts_holds : Rows.FnMatrixInvertsProductsCardSaid := fnMatrixInvertsProducts.card
end Go.Proofs.YtipbhclpeogcmaaDoor
