/- FnConsistencyIsTwoRanges: the nodes of a proof between two logs are those of the range of the first log, should these be several, and those of the range of the new leaves. -/
import Derived.Test.YtkkkaegocinkeaaDoorRows
import Derived.Test.YtkkkaegocinkeaaDoorCards
import Derived.Test.YtkkkaegocinkeaaDoorTie
import Derived.Test.YtkkkaegocinkeaaDoorTwoLaw
import Derived.Test.YtkkkaegocinkeaaDoorTabLaid
import Derived.WalkKit
import Derived.ProofKit
import Derived.OpenShut
import Derived.ShutString
import Derived.ChangeOld
import Derived.Below
import Derived.SizedLaws
import Derived.Lib.SmallJoins
import Derived.Carry
import Derived.LaidMore
import Derived.Lib.LaidTab
import Derived.SevenTiedAt
import Derived.LaidLaws
namespace Go.Proofs.YtkkkaegocinkeaaDoor.fnConsistencyIsTwoRanges
open Go.ChangeShapes Go.WideShapes Go.ChangeAt Go.RowKit Go.Proofs.YtkkkaegocinkeaaDoor.M Go.Proofs.YtkkkaegocinkeaaDoorW.PrintWords
set_option linter.unusedVariables false
theorem own : ownKnob Tryd.prog.godebug = none := by kernel_rfl
theorem door_met (os : Os) (args : Array Value) : laidMetH Tryd.prog Rows.fnConsistencyIsTwoRangesRow.laid ((World.doorLaid Tryd.prog 14 os).forCall (fun _ _ => 0) ⟨#[], args, []⟩).memory :=
  laidMetH_of_parts3 (fuel := 8) (laidMet_of_run' 8 (by kernel_rfl) (by kernel_rfl)) (by kernel_rfl) (by kernel_rfl)
theorem tab_of {W : World} (h : laidMetH Tryd.prog Rows.fnConsistencyIsTwoRangesRow.laid W) : TabOK W := tabOK_of_laid (by rw [MakeChecks.laidMetH_plain _ _ _ (by kernel_rfl)] at h; exact h)
set_option maxRecDepth 100000 in
set_option maxHeartbeats 1000000 in
theorem lifted (os : Os) (started : os.Started) (H : Type) (enc : TypeId × Value → H) :
    ReturnsInHanded {} Tryd.checked os 6 .any (fun w args => (Rows.fnConsistencyIsTwoRangesSpec.pre enc Tryd.prog Tryd.f6 [] false w args ∧ laidMetH Tryd.prog Rows.fnConsistencyIsTwoRangesRow.laid w) ∧ sizedMet enc Tryd.prog Tryd.f6 (OpenSpec.ofChange Rows.fnConsistencyIsTwoRangesSpec) false w args)
      (Rows.fnConsistencyIsTwoRangesSpec.post enc Tryd.prog Tryd.f6 false true false false) := by
  refine returnsInHanded_of_change_and (C := Tryd.checked) (X := fun w _ => laidMetH Tryd.prog Rows.fnConsistencyIsTwoRangesRow.laid w) (fun _ _ _ hh h => h.of_heap hh) own started (by kernel_rfl) Tryd.func6
    (ChangeSpec.witness_shaped (enc := enc) (C := Tryd.checked) (os := os) (X := fun w _ => laidMetH Tryd.prog Rows.fnConsistencyIsTwoRangesRow.laid w) false (World.doorLaid Tryd.prog 14 os) #[.int .u64 0, .int .u64 0] 8 rfl (World.shaped_of_RefB (by kernel_rfl) (by kernel_rfl)) (by kernel_rfl) (by kernel_rfl) (by kernel_rfl) (door_met os _)) ?_
  intro W base args ds gs before hval0 hW _ _ hL _
  have hval : ∀ (j : Nat) t v, Tryd.f6.params[j]? = some t → args[j]? = some v → Value.okWide Tryd.prog W .any base t v := hval0
  have hW' := hW
  obtain ⟨p, q, hA0, hV, rfl, hfz, hnd⟩ := hW
  have hA : DataW.TrodAll enc Tryd.prog W 0 (fun _ => true) true Tryd.f6.params.toList args.toList ds p := hA0
  rw [Tryd.params6] at hA hval
  obtain ⟨v0, vs0, d0, ds0, p0, q0, hargs, rfl, rfl, h0, r0⟩ := trodAll_cons hA
  obtain ⟨v1, vs1, d1, ds1, p1, q1, rfl, rfl, rfl, h1, r1⟩ := trodAll_cons r0
  obtain ⟨rfl, rfl, rfl⟩ := trodAll_nil r1
  obtain rfl : args = #[v0, v1] := by cases args; simp_all
  obtain ⟨rfl, rfl⟩ := trodVars_none hV
  obtain ⟨a0, rfl, rfl, rfl, w0⟩ := open_int Tryd.underlying22 (hval 0 22 v0 rfl rfl) h0
  obtain ⟨a1, rfl, rfl, rfl, w1⟩ := open_int Tryd.underlying22 (hval 1 22 v1 rfl rfl) h1
  clear hA0 hval0
  obtain ⟨k, h⟩ := Ev.rounds (g := fun k => laws_FnConsistencyIsTwoRanges.f k a0 a1) (r := true) (Ranges.two_wf a0 a1 w0 w1)
  refine (laws_FnConsistencyIsTwoRanges.calls k a0 a1 true W (tab_of hL) h).mono fun e W' ⟨he, bel⟩ => ?_
  subst he
  exact ⟨_, rfl, _, _, _, [], _, [], hW', trodAll_mk1 (shut_bool Tryd.underlying4 _), (trodAll_cons_mk (shut_int Tryd.underlying22 w0) (trodAll_cons_mk (shut_int Tryd.underlying22 w1) trodAll_mk0)), rfl, bel.frame _, fun h => by cases h⟩
theorem over : Rows.fnConsistencyIsTwoRangesRow.holds Tryd.pinned (OpenSpec.ofChange Rows.fnConsistencyIsTwoRangesSpec) :=
  OpenClaim.holds_of_wide 6 Tryd.f6 rfl rfl rfl rfl rfl rfl rfl ⟨rfl, rfl, rfl, rfl, rfl⟩ rfl rfl rfl rfl rfl (by kernel_rfl) Tryd.func6 (by kernel_rfl)
    (of_decide_eq_true (by kernel_rfl)) (by unfold Func.isWrapper; first | (rw [if_pos (by decide +kernel)]; kernel_rfl) | (rw [if_neg (by decide +kernel)]; exact ⟨rfl, rfl⟩))
    (fun os started H enc _ => lifted os started H enc)
theorem card : Rows.FnConsistencyIsTwoRangesCardSaid :=
  Claim7.holds_tied_plain_at .later [] [.data] true (true, "0941f36bdc54624b76b1203bdbaa0be880a334275188499b033b729943d1ea1a") false
    over (fun _ h => by cases h) (by kernel_rfl) (fun _ h => by cases h) fnConsistencyIsTwoRanges_row_tie rfl ⟨rfl, rfl⟩ (by kernel_rfl) rfl
    (fun f fn hf hfn => by
      obtain rfl : f = 6 := Option.some.inj ((show Tryd.prog.funcNamed Rows.fnConsistencyIsTwoRangesRow.func = some 6 by kernel_rfl).symm.trans hf) |>.symm
      obtain rfl : fn = Tryd.f6 := (Option.some.inj (Tryd.func6.symm.trans hfn)).symm
      exact ⟨by kernel_rfl, fun j t ht => by
        rw [Tryd.params6] at ht
        have hm : t ∈ [22, 22] := by simpa using Array.mem_of_getElem? ht
        have hall : ([22, 22].all fun u => !Tryd.prog.wantsStandIn u) = true := by kernel_rfl
        exact (show Tryd.prog.wantsStandIn t = false by simpa using List.all_eq_true.1 hall t hm)⟩)
    (by kernel_rfl)
#print axioms card
end Go.Proofs.YtkkkaegocinkeaaDoor.fnConsistencyIsTwoRanges
namespace Go.Proofs.YtkkkaegocinkeaaDoor
theorem fnConsistencyIsTwoRanges_holds : Rows.FnConsistencyIsTwoRangesCardSaid := fnConsistencyIsTwoRanges.card
end Go.Proofs.YtkkkaegocinkeaaDoor
