/- FnFamilyCovers is proved: the leaves below a parent are those below its two children, for every node; levels from 63 on are passed over. No condition. -/
import Derived.Test.YtkkkaegocinkeaaRows
import Derived.Test.YtkkkaegocinkeaaFamCov
import Derived.WalkKit
import Derived.ProofKit
import Derived.OpenShut
import Derived.ShutString
import Derived.ChangeOld
import Derived.Below
import Derived.SizedLaws
import Derived.Lib.SmallJoins
import Derived.Carry
namespace Go.Proofs.Ytkkkaegocinkeaa.fnFamilyCovers
open Go.ChangeShapes Go.WideShapes Go.ChangeAt Go.RowKit Go.Proofs.Ytkkkaegocinkeaa.Q Go.Proofs.YtkkkaegocinkeaaW.PrintWords
set_option linter.unusedVariables false
theorem own : ownKnob Try.prog.godebug = none := by kernel_rfl
theorem laidOut : laidOutB Try.prog = true := by kernel_rfl
theorem walk (a0_0 : Int) (a0_1 : Int) (w0_0 : (Lit.int .u64 a0_0).wf = true) (w0_1 : (Lit.int .u64 a0_1).wf = true) (w : World) : Calls Try.prog 3 #[.agg #[.int .u64 a0_0, .int .u64 a0_1]] w fun e w' => e = .returned (.bool true) ∧ Below w.heap.size w w' := by
  refine (lawFC.calls a0_0 a0_1 true w (Fam.fam a0_0 a0_1 w0_0 w0_1)).mono ?_
  rintro e w' ⟨rfl, hd⟩
  exact ⟨rfl, hd⟩
set_option maxRecDepth 100000 in
theorem lifted (os : Os) (started : os.Started) (H : Type) (enc : TypeId × Value → H) :
    ReturnsInHanded {} Try.checked os 3 .any (Rows.fnFamilyCoversSpec.pre6 enc Try.prog Try.f3 Rows.fnFamilyCoversRow.domain false) (Rows.fnFamilyCoversSpec.post enc Try.prog Try.f3 false true false false) := by
  refine returnsInHanded_of_change (C := Try.checked) own started (by kernel_rfl) Try.func3
    (ChangeSpec.witness6 (enc := enc) (C := Try.checked) false ⟨#[], #[.agg #[.int .u64 0, .int .u64 0]], []⟩ 8 (by kernel_rfl) (by kernel_rfl) (by kernel_rfl) (by kernel_rfl)) ?_
  intro W base args ds gs before hval0 hW hcnd _
  have hval : ∀ (j : Nat) t v, Try.f3.params[j]? = some t → args[j]? = some v → Value.okWide Try.prog W .any base t v := hval0
  have hW' := hW
  obtain ⟨p, q, hA0, hV, rfl, hfz, hnd⟩ := hW
  have hA : DataW.TrodAll enc Try.prog W 0 (fun _ => true) true Try.f3.params.toList args.toList ds p := hA0
  rw [Try.params3] at hA hval
  obtain ⟨v0, vs0, d0, ds0, p0, q0, hargs, rfl, rfl, h0, r0⟩ := trodAll_cons hA
  obtain ⟨rfl, rfl, rfl⟩ := trodAll_nil r0
  obtain rfl : args = #[v0] := by cases args; simp_all
  obtain ⟨rfl, rfl⟩ := trodVars_none hV
  have k0 := h0
  have lt0 : ∀ x ∈ p0, x.block < W.heap.size := by obtain ⟨m, hm⟩ := k0; exact DataW.trod_lt m _ _ _ hm
  obtain ⟨c0_0, c0_1, y0_0, y0_1, m0, rfl, _, _, hy0_0, hy0_1⟩ := Joins.open_agg2 Try.underlying25 (by kernel_rfl) (by kernel_rfl) (hval 0 25 v0 rfl rfl) h0
  obtain ⟨a0_0, e0_0, _, w0_0⟩ := DataW.trod_int Try.underlying22 hy0_0
  obtain rfl := (List.cons.inj e0_0).1
  obtain ⟨a0_1, e0_1, _, w0_1⟩ := DataW.trod_int Try.underlying23 hy0_1
  obtain rfl := (List.cons.inj e0_1).1
  clear hA0 hval0
  refine (walk a0_0 a0_1 w0_0 w0_1 W).mono fun e W' ⟨he, bel⟩ => ?_
  subst he
  exact ⟨_, rfl, _, _, _, [], _, [], hW', trodAll_mk1 (shut_bool Try.underlying4 _), (trodAll_cons_mk (Below.trod laidOut (by kernel_rfl) (of_decide_eq_true (by kernel_rfl)) k0 bel lt0) trodAll_mk0), rfl, bel.frame _, fun h => by cases h⟩
theorem over : Rows.fnFamilyCoversRow.holds Try.pinned (OpenSpec.ofChange Rows.fnFamilyCoversSpec) :=
  OpenClaim.holds_of_wide 3 Try.f3 rfl rfl rfl rfl rfl rfl rfl ⟨rfl, rfl, rfl, rfl, rfl⟩ rfl rfl rfl rfl rfl (by kernel_rfl) Try.func3 (by kernel_rfl)
    (of_decide_eq_true (by kernel_rfl)) (by unfold Func.isWrapper; first | (rw [if_pos (by decide +kernel)]; kernel_rfl) | (rw [if_neg (by decide +kernel)]; exact ⟨rfl, rfl⟩))
    (fun os started H enc _ => lifted os started H enc)
#print axioms over
end Go.Proofs.Ytkkkaegocinkeaa.fnFamilyCovers
namespace Go.Proofs.Ytkkkaegocinkeaa
theorem fnFamilyCovers_holds : Rows.FnFamilyCoversSaid := fnFamilyCovers.over
end Go.Proofs.Ytkkkaegocinkeaa
