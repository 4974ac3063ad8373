/- FnCache: a cache of inverted matrices answers, for the numbers of the shards that are missing, the square matrix that was put in for just these last, and nothing if none was; if none is missing, the identity. -/
import Derived.Test.YtlfmplhleglibaaDoorRows
import Derived.Test.YtlfmplhleglibaaDoorCards
import Derived.Test.YtlfmplhleglibaaDoorTie
import Derived.Test.YtlfmplhleglibaaDoorLawQ
import Derived.Test.YtlfmplhleglibaaDoorOpenRows
import Derived.Test.YtlfmplhleglibaaDoorOpenSteps
import Derived.Test.YtlfmplhleglibaaDoorTabLaidC
import Derived.WalkKit
import Derived.ProofKit
import Derived.OpenShut
import Derived.ShutString
import Derived.ChangeOld
import Derived.Below
import Derived.SizedLaws
import Derived.Lib.SmallJoins
import Derived.Carry
import Derived.LaidMore
import Derived.Lib.LaidTab
import Derived.SevenTiedAt
import Derived.LaidLaws
namespace Go.Proofs.YtlfmplhleglibaaDoor.fnCache
open Go.ChangeShapes Go.WideShapes Go.ChangeAt Go.RowKit Go.Proofs.YtlfmplhleglibaaDoor.M Go.Proofs.YtlfmplhleglibaaDoorW.PrintWords
set_option linter.unusedVariables false
theorem own : ownKnob Tryd.prog.godebug = none := by kernel_rfl
theorem laidOut : laidOutB Tryd.prog = true := by kernel_rfl
theorem door_met (os : Os) (args : Array Value) : laidMetH Tryd.prog Rows.fnCacheRow.laid ((World.doorLaid Tryd.prog 104 os).forCall (fun _ _ => 0) ⟨#[], args, []⟩).memory :=
  laidMetH_of_parts3 (fuel := 8) (laidMet_of_run' 8 (by kernel_rfl) (by kernel_rfl)) (by kernel_rfl) (by kernel_rfl)
theorem tab_of {W : World} (h : laidMetH Tryd.prog Rows.fnCacheRow.laid W) : TabOK W := tabOK_of_laid (by rw [MakeChecks.laidMetH_plain _ _ _ (by kernel_rfl)] at h; exact h)
set_option maxRecDepth 100000 in
set_option maxHeartbeats 1000000 in
theorem lifted (os : Os) (started : os.Started) (H : Type) (enc : TypeId × Value → H) :
    ReturnsInHanded {} Tryd.checked os 3 .any (fun w args => (Rows.fnCacheSpec.pre enc Tryd.prog Tryd.f3 [] false w args ∧ laidMetH Tryd.prog Rows.fnCacheRow.laid w) ∧ sizedMet enc Tryd.prog Tryd.f3 (OpenSpec.ofChange Rows.fnCacheSpec) false w args)
      (Rows.fnCacheSpec.post enc Tryd.prog Tryd.f3 false true false false) := by
  refine returnsInHanded_of_change_and (C := Tryd.checked) (X := fun w _ => laidMetH Tryd.prog Rows.fnCacheRow.laid w) (fun _ _ _ hh h => h.of_heap hh) own started (by kernel_rfl) Tryd.func3
    (ChangeSpec.witness_shaped (enc := enc) (C := Tryd.checked) (os := os) (X := fun w _ => laidMetH Tryd.prog Rows.fnCacheRow.laid w) false (World.doorLaid Tryd.prog 104 os) #[.int .i64 0, .int .i64 0, .slice none 0 0] 8 rfl (World.shaped_of_RefB (by kernel_rfl) (by kernel_rfl)) (by kernel_rfl) (by kernel_rfl) (by kernel_rfl) (door_met os _)) ?_
  intro W base args ds gs before hval0 hW _ _ hL _
  have hval : ∀ (j : Nat) t v, Tryd.f3.params[j]? = some t → args[j]? = some v → Value.okWide Tryd.prog W .any base t v := hval0
  have hW' := hW
  obtain ⟨p, q, hA0, hV, rfl, hfz, hnd⟩ := hW
  have hA : DataW.TrodAll enc Tryd.prog W 0 (fun _ => true) true Tryd.f3.params.toList args.toList ds p := hA0
  rw [Tryd.params3] at hA hval
  obtain ⟨v0, vs0, d0, ds0, p0, q0, hargs, rfl, rfl, h0, r0⟩ := trodAll_cons hA
  obtain ⟨v1, vs1, d1, ds1, p1, q1, rfl, rfl, rfl, h1, r1⟩ := trodAll_cons r0
  obtain ⟨v2, vs2, d2, ds2, p2, q2, rfl, rfl, rfl, h2, r2⟩ := trodAll_cons r1
  obtain ⟨rfl, rfl, rfl⟩ := trodAll_nil r2
  obtain rfl : args = #[v0, v1, v2] := by cases args; simp_all
  obtain ⟨rfl, rfl⟩ := trodVars_none hV
  obtain ⟨a0, rfl, rfl, rfl, w0⟩ := open_int Tryd.underlying3 (hval 0 3 v0 rfl rfl) h0
  obtain ⟨a1, rfl, rfl, rfl, w1⟩ := open_int Tryd.underlying3 (hval 1 3 v1 rfl rfl) h1
  have k2 := h2
  have lt2 : ∀ x ∈ p2, x.block < W.heap.size := by obtain ⟨m, hm⟩ := k2; exact DataW.trod_lt m _ _ _ hm
  obtain ⟨sa2, sn2, sc2, rfl⟩ := Go.WideShapes.okWide_slice Tryd.underlying22 (hval 2 22 v2 rfl rfl)
  obtain ⟨m2, h2⟩ := h2
  obtain ⟨A2, c2, l2, e2, hl2, _, hC2⟩ := OpenRows.steps Tryd.underlying22 Tryd.underlying27 (by kernel_rfl) (by kernel_rfl) Tryd.underlying4 Tryd.underlying24 (by kernel_rfl) Tryd.underlying3 Tryd.underlying25 (by kernel_rfl) Tryd.underlying32 (by kernel_rfl) Tryd.underlying5 h2
  obtain ⟨rfl, rfl, rfl⟩ : sa2 = A2 ∧ sn2 = l2.length ∧ sc2 = c2 := by injection e2 with e _; injection e with e1 e2 e3; exact ⟨e1, e2, e3⟩
  clear hA0 hval0
  obtain ⟨k, h⟩ := Ev.rounds (g := fun k => laws_FnCache.f k a0 a1 l2) (r := true) (MatC.cache_ev a0 a1 l2)
  refine (laws_FnCache.calls k a0 a1 _ _ l2 true W (tab_of hL) hC2 hl2 h).mono fun e W' ⟨he, bel⟩ => ?_
  subst he
  exact ⟨_, rfl, _, _, _, [], _, [], hW', trodAll_mk1 (shut_bool Tryd.underlying4 _), (trodAll_cons_mk (shut_int Tryd.underlying3 w0) (trodAll_cons_mk (shut_int Tryd.underlying3 w1) (trodAll_cons_mk (Below.trod laidOut (by kernel_rfl) (of_decide_eq_true (by kernel_rfl)) k2 bel lt2) trodAll_mk0))), rfl, bel.frame _, fun h => by cases h⟩
theorem over : Rows.fnCacheRow.holds Tryd.pinned (OpenSpec.ofChange Rows.fnCacheSpec) :=
  OpenClaim.holds_of_wide 3 Tryd.f3 rfl rfl rfl rfl rfl rfl rfl ⟨rfl, rfl, rfl, rfl, rfl⟩ rfl rfl rfl rfl rfl (by kernel_rfl) Tryd.func3 (by kernel_rfl)
    (of_decide_eq_true (by kernel_rfl)) (by unfold Func.isWrapper; first | (rw [if_pos (by decide +kernel)]; kernel_rfl) | (rw [if_neg (by decide +kernel)]; exact ⟨rfl, rfl⟩))
    (fun os started H enc _ => lifted os started H enc)
theorem card : Rows.FnCacheCardSaid :=
  Claim7.holds_tied_plain_at .later [] [.sentinel, .sentinel, .sentinel, .sentinel, .sentinel] true (true, "8eb035a0f9f58bd432eddb3a6b1168d0521dc362b4ebf7046cdfd011fd054bc8") false
    over (fun _ h => by cases h) (by kernel_rfl) (fun _ h => by cases h) fnCache_row_tie rfl ⟨rfl, rfl⟩ (by kernel_rfl) rfl
    (fun f fn hf hfn => by
      obtain rfl : f = 3 := Option.some.inj ((show Tryd.prog.funcNamed Rows.fnCacheRow.func = some 3 by kernel_rfl).symm.trans hf) |>.symm
      obtain rfl : fn = Tryd.f3 := (Option.some.inj (Tryd.func3.symm.trans hfn)).symm
      exact ⟨by kernel_rfl, fun j t ht => by
        rw [Tryd.params3] at ht
        have hm : t ∈ [3, 3, 22] := by simpa using Array.mem_of_getElem? ht
        have hall : ([3, 3, 22].all fun u => !Tryd.prog.wantsStandIn u) = true := by kernel_rfl
        exact (show Tryd.prog.wantsStandIn t = false by simpa using List.all_eq_true.1 hall t hm)⟩)
    (by kernel_rfl)
#print axioms card
end Go.Proofs.YtlfmplhleglibaaDoor.fnCache
namespace Go.Proofs.YtlfmplhleglibaaDoor
theorem fnCache_holds : Rows.FnCacheCardSaid := fnCache.card
end Go.Proofs.YtlfmplhleglibaaDoor
