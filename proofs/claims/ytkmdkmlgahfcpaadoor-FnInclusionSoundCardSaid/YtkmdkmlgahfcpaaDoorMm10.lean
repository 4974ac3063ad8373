-- Written by a program of ours (wip/xp) out of the translation; Lean checks it.
import Derived.Test.YtkmdkmlgahfcpaaDoorSq
import Derived.Test.YtkmdkmlgahfcpaaDoorMm1
import Derived.Test.YtkmdkmlgahfcpaaDoorMm4
import Derived.Test.YtkmdkmlgahfcpaaDoorMm9
import Derived.Test.YtkmdkmlgahfcpaaDoorMm3
import Derived.Test.YtkmdkmlgahfcpaaDoorMm5
namespace Go.Proofs.YtkmdkmlgahfcpaaDoor.M
open Go.RowKit Go.Proofs.YtkmdkmlgahfcpaaDoorW.PrintWords Go.Proofs.YtkmdkmlgahfcpaaDoorW.PrintLast Go.Proofs.YtkmdkmlgahfcpaaDoorW.PrintMore
attribute [local go_sem] max2_int min2_int max_two min_two max_three min_three max_four min_four   -- for this text's walks alone
set_option linter.unusedVariables false
set_option linter.unusedSimpArgs false

/-! ### proof_VerifyInclusion: function 67 -/
def proof_VerifyInclusion.f (k : Nat) (a0_0 a0_1 a0_2 a0_3 a0_4 a0_5 : Int) (a1 a2 : Int) (l3 : List Int) (l4 : List (List Int)) (l5 : List Int) : Option (Int × List Int × List Int × List Int) :=
 (proof_RootFromInclusionProof.f k a0_0 a0_1 a0_2 a0_3 a0_4 a0_5 a1 a2 l3 l4).bind fun b => if b.2.isNone = true then ((bytes_Equal.f b.1 l5).bind fun t => if t = true then some (0, [], [], []) else some (1, [], l5, b.1)) else some (2, [], [], [])
theorem proof_VerifyInclusion.mono : ∀ a0_0 a0_1 a0_2 a0_3 a0_4 a0_5 a1 a2 l3 l4 l5 k, LeO (proof_VerifyInclusion.f k a0_0 a0_1 a0_2 a0_3 a0_4 a0_5 a1 a2 l3 l4 l5) (proof_VerifyInclusion.f (k + 1) a0_0 a0_1 a0_2 a0_3 a0_4 a0_5 a1 a2 l3 l4 l5) := by
 intro a0_0 a0_1 a0_2 a0_3 a0_4 a0_5 a1 a2 l3 l4 l5 k
 unfold proof_VerifyInclusion.f
 refine LeO.bind (proof_RootFromInclusionProof.mono _ _ _ _ _ _ _ _ _ _ _) (fun _ => LeO.refl _)
theorem V_dummy (d : Kd Int) (e : Nat) (W : World) (base : Nat) (ok : Nat → Prop) (p : Option Addr) : Kd.V d e W base ok (.slice p 0 0) [] := ⟨p, 0, rfl, Nat.le_refl _, fun W' _ => ⟨rfl, by decide, fun h => absurd h (Nat.lt_irrefl _)⟩⟩
set_option maxRecDepth 100000 in
set_option maxHeartbeats 1000000 in
theorem proof_VerifyInclusion.calls (k : Nat) (a0_0 a0_1 a0_2 a0_3 a0_4 a0_5 : Int) (a1 a2 : Int) (P3_ : Nat → Prop) (A3 : Option Addr) (c3 : Nat) (l3 : List Int) (A4 : Option Addr) (c4 : Nat) (l4 : List (List Int)) (P5_ : Nat → Prop) (A5 : Option Addr) (c5 : Nat) (l5 : List Int) (r1 : Int) (r2 r3 r4 : List Int) (w : World)
  (hs3 : Kd.V (Kd.int .u8) 5 w w.heap.size (fun k_ => P3_ k_) (.slice A3 l3.length c3) l3) (hr4 : Kd.C (Kd.slice 5 (Kd.int .u8)) w A4 l4.length l4) (hc4 : l4.length ≤ c4) (hs5 : Kd.V (Kd.int .u8) 5 w w.heap.size (fun k_ => P5_ k_) (.slice A5 l5.length c5) l5) (h : proof_VerifyInclusion.f k a0_0 a0_1 a0_2 a0_3 a0_4 a0_5 a1 a2 l3 l4 l5 = some (r1, r2, r3, r4)) :
  Calls Tryd.prog 67 #[.iface 85 (.agg #[.int .i64 a0_0, .int .i64 a0_1, .int .i64 a0_2, .int .u64 a0_3, .int .u64 a0_4, .int .u64 a0_5]), .int .u64 a1, .int .u64 a2, .slice A3 l3.length c3, .slice A4 l4.length c4, .slice A5 l5.length c5] w fun e w' => ∃ v0_ v1_ v2_ : Value, e = .returned (errVc #[.int .i64 r1, v0_, v1_, v2_]) ∧ Kd.V (Kd.int .u8) 5 w' w.heap.size (fun k_ => ((P3_ k_ ∨ P5_ k_) ∨ w.heap.size ≤ k_)) v0_ r2 ∧ Kd.V (Kd.int .u8) 5 w' w.heap.size (fun k_ => ((P3_ k_ ∨ P5_ k_) ∨ w.heap.size ≤ k_)) v1_ r3 ∧ Kd.V (Kd.int .u8) 5 w' w.heap.size (fun k_ => ((P3_ k_ ∨ P5_ k_) ∨ w.heap.size ≤ k_)) v2_ r4 ∧ Below w.heap.size w w' := by
 obtain ⟨⟨r, x⟩, hb, h⟩ := Option.bind_eq_some_iff.mp h
 have HS3 := Aside0.mk hs3
 have HR4 := Aside0.mk hr4
 have HC4 := Aside0.mk hc4
 have HS5 := Aside0.mk hs5
 have HBB := Aside0.mk hb
 clear hs3 hr4 hc4 hs5 hb
 cases x with
 | some q =>
  simp only [Option.isNone_some, Bool.false_eq_true, if_false, Option.some.injEq, Prod.mk.injEq] at h
  obtain ⟨rfl, rfl, rfl, rfl⟩ := h
  go_enter Tryd.func67, Tryd.ntmps67
  go_wp2_with (go_at_call 100; (with_reducible refine (proof_RootFromInclusionProof.calls k a0_0 a0_1 a0_2 a0_3 a0_4 a0_5 a1 a2 P3_ _ _ l3 _ _ l4 r (some q) _ HS3.out HR4.out HC4.out HBB.out).mono ?_); rintro e w1 ⟨T_, X_, v, rfl, ho, hB⟩; have HO := Aside0.mk ho; have HB := Aside0.mk hB; clear ho hB; simp only [errW_some])
  go_ret
  exact ⟨.slice (ptrOf (X_ q)) 0 0, .slice none 0 0, .slice none 0 0, rfl, V_dummy _ _ _ _ _ _, V_dummy _ _ _ _ _ _, V_dummy _ _ _ _ _ _, HB.out⟩
 | none =>
  simp only [Option.isNone_none, if_true] at h
  obtain ⟨t, ht, h⟩ := Option.bind_eq_some_iff.mp h
  have HTE := Aside0.mk ht
  clear ht
  cases t with
  | true =>
   simp only [if_true, Option.some.injEq, Prod.mk.injEq] at h
   obtain ⟨rfl, rfl, rfl, rfl⟩ := h
   go_enter Tryd.func67, Tryd.ntmps67
   go_wp2_with (first | (go_at_call 100; (with_reducible refine (proof_RootFromInclusionProof.calls k a0_0 a0_1 a0_2 a0_3 a0_4 a0_5 a1 a2 P3_ _ _ l3 _ _ l4 r none _ HS3.out HR4.out HC4.out HBB.out).mono ?_); rintro e w1 ⟨T_, X_, v, rfl, ho, hB⟩; obtain ⟨Ao, co, rfl⟩ := Kd.V_slice ho; have HO := Aside0.mk ho; have HB := Aside0.mk hB; clear ho hB; simp only [errW_none]) | (go_at_call 81; (with_reducible refine (proof_verifyMatch.same _ _ r _ _ l5 _ (Kd.V_reads' HO.out).2.2 (Kd.V_reads' HO.out).2.1 (Kd.V_reads' (Kd.V_below HS5.out HB.out)).2.2 (Kd.V_reads' HS5.out).2.1 HTE.out).mono ?_); rintro e w2 ⟨rfl, hB2⟩; have HB2 := Aside0.mk (below_step HB.out hB2); clear hB2))
   go_ret
   exact ⟨.slice none 0 0, .slice none 0 0, .slice none 0 0, rfl, V_dummy _ _ _ _ _ _, V_dummy _ _ _ _ _ _, V_dummy _ _ _ _ _ _, HB2.out⟩
  | false =>
   simp only [Bool.false_eq_true, if_false, Option.some.injEq, Prod.mk.injEq] at h
   obtain ⟨rfl, rfl, rfl, rfl⟩ := h
   go_enter Tryd.func67, Tryd.ntmps67
   go_wp2_with (first | (go_at_call 100; (with_reducible refine (proof_RootFromInclusionProof.calls k a0_0 a0_1 a0_2 a0_3 a0_4 a0_5 a1 a2 P3_ _ _ l3 _ _ l4 r none _ HS3.out HR4.out HC4.out HBB.out).mono ?_); rintro e w1 ⟨T_, X_, v, rfl, ho, hB⟩; obtain ⟨Ao, co, rfl⟩ := Kd.V_slice ho; have HO := Aside0.mk ho; have HB := Aside0.mk hB; clear ho hB; simp only [errW_none]) | (go_at_call 81; (with_reducible refine (proof_verifyMatch.diff _ _ r _ _ l5 _ (Kd.V_reads' HO.out).2.2 (Kd.V_reads' HO.out).2.1 (Kd.V_reads' (Kd.V_below HS5.out HB.out)).2.2 (Kd.V_reads' HS5.out).2.1 HTE.out).mono ?_); rintro e w2 ⟨rfl, hB2⟩; have HBL := Aside0.mk hB2; have HB2 := Aside0.mk (below_step HB.out hB2); clear hB2))
   go_ret
   exact ⟨.slice none 0 0, .slice A5 l5.length c5, .slice Ao r.length co, rfl, V_dummy _ _ _ _ _ _, Kd.V_mono (Kd.V_below HS5.out HB2.out) (fun k_ h_ => .inl (.inr h_)), Kd.V_mono (Kd.V_below HO.out HBL.out) (fun k_ h_ => Or.elim h_ (fun h_ => .inl (.inl h_)) .inr), HB2.out⟩


/-! ### impl_VerifyInclusion: function 32 -/
def impl_VerifyInclusion.f (k : Nat) (a0_0 : Int) (a0_1 : Int) (a0_2 : Int) (a0_3 : Int) (a0_4 : Int) (a0_5 : Int) (a1 : Int) (a2 : Int) (l3 : List Int) (l4 : List (List Int)) (l5 : List Int) : Option (Int × List Int) := (some (([] : List Int) : List Int)).bind fun y220 => (if y220.length + l3.length < 140737488355328 then ((impl_texts.f k l4).bind fun t226 => ((some (([] : List Int) : List Int)).bind fun y229 => (if y229.length + l5.length < 140737488355328 then ((proof_VerifyInclusion.f k a0_0 a0_1 a0_2 a0_3 a0_4 a0_5 a1 a2 (y220 ++ l3) t226 (y229 ++ l5)).bind fun bt235 => ((impl_verdict.f k bt235.1 bt235.2.1 bt235.2.2.1 bt235.2.2.2).bind fun bt245 => (some (bt245.1, bt245.2)))) else (none)))) else (none))
theorem impl_VerifyInclusion.mono : ∀ a0 a1 a2 a3 a4 a5 a6 a7 a8 a9 a10 k, LeO (impl_VerifyInclusion.f k a0 a1 a2 a3 a4 a5 a6 a7 a8 a9 a10) (impl_VerifyInclusion.f (k + 1) a0 a1 a2 a3 a4 a5 a6 a7 a8 a9 a10) := by
 intro a0 a1 a2 a3 a4 a5 a6 a7 a8 a9 a10 k
 unfold impl_VerifyInclusion.f
 repeat' first
   | (with_reducible exact impl_texts.mono _ _)
   | (with_reducible exact impl_verdict.mono _ _ _ _ _)
   | (with_reducible exact proof_VerifyInclusion.mono _ _ _ _ _ _ _ _ _ _ _ _)
   | (with_reducible exact LeO.refl _)
   | (with_reducible exact LeO.none _)
   | (with_reducible refine LeO.ite ?_ ?_)
   | (with_reducible refine LeO.bind ?_ (fun _ => ?_))
   | exact impl_texts.mono _ _
   | exact impl_verdict.mono _ _ _ _ _
   | exact proof_VerifyInclusion.mono _ _ _ _ _ _ _ _ _ _ _ _
   | exact LeO.none _
   | refine LeO.ite ?_ ?_
   | refine LeO.bind ?_ (fun _ => ?_)
def impl_VerifyInclusion.T1 : Bool × List (List Nat × List Nat) := (true, [([], []), ([0], [0]), ([1], [1]), ([], []), ([], []), ([], []), ([], []), ([5, 6], [5, 6]), ([], []), ([8, 7], [8]), ([], []), ([], []), ([10, 11, 9], [10, 11]), ([2, 3, 4, 7, 9, 12, 12], [2, 3, 4, 7, 9, 12]), ([13, 13], [13]), ([14], [14]), ([14], [14]), ([15, 14, 0, 1, 2, 3, 4, 5, 6, 7, 8, 9, 10, 11, 12, 13, 14, 15, 16], [15]), ([16, 17, 0, 1, 2, 3, 4, 5, 6, 7, 8, 9, 10, 11, 12, 13, 14, 15, 16, 17], [16])])
def impl_VerifyInclusion.B1 : List Nat := [0, 1, 3, 0, 0, 0, 0, 96, 0, 480, 0, 0, 4064, 8191, 16383, 32767, 32767, 131071, 262143]
theorem impl_VerifyInclusion.tab1 : rtab .any (opsOf Tryd.f32 1) = impl_VerifyInclusion.T1 := by kernel_rfl
theorem impl_VerifyInclusion.bits1 : waitsOk impl_VerifyInclusion.T1.2 impl_VerifyInclusion.B1 = true := by kernel_rfl
set_option maxHeartbeats 8000000 in
set_option maxRecDepth 100000 in
theorem impl_VerifyInclusion.calls (k : Nat) (a0_0 : Int) (a0_1 : Int) (a0_2 : Int) (a0_3 : Int) (a0_4 : Int) (a0_5 : Int) (a1 : Int) (a2 : Int) (A3 : Option Addr) (c3 : Nat) (l3 : List Int) (A4 : Option Addr) (c4 : Nat) (l4 : List (List Int)) (A5 : Option Addr) (c5 : Nat) (l5 : List Int) (r1 : Int) (r2 : List Int) (w : World) (hr3 : Kd.C (Kd.int .u8) w A3 l3.length l3) (hc3 : l3.length ≤ c3) (hr4 : Kd.C (Kd.slice 5 (Kd.int .u8)) w A4 l4.length l4) (hc4 : l4.length ≤ c4) (hr5 : Kd.C (Kd.int .u8) w A5 l5.length l5) (hc5 : l5.length ≤ c5) (h : impl_VerifyInclusion.f k a0_0 a0_1 a0_2 a0_3 a0_4 a0_5 a1 a2 l3 l4 l5 = some (r1, r2)) :
  Calls Tryd.prog 32 #[.agg #[.int .i64 a0_0, .int .i64 a0_1, .int .i64 a0_2, .int .u64 a0_3, .int .u64 a0_4, .int .u64 a0_5], .int .u64 a1, .int .u64 a2, .slice A3 l3.length c3, .slice A4 l4.length c4, .slice A5 l5.length c5] w fun e w' => ∃ v1_ : Value, e = .returned (.tuple #[.int .i64 r1, v1_]) ∧ Kd.R (Kd.int .u8) 5 w' w.heap.size (fun _ => True) v1_ r2 ∧ Below w.heap.size w w' := by
 have hu24 := Tryd.underlying24
 have hu85 := Tryd.underlying85
 have HR3 := Aside0.mk hr3
 have HC3 := Aside0.mk hc3
 clear hr3 hc3
 have HR4 := Aside0.mk hr4
 have HC4 := Aside0.mk hc4
 clear hr4 hc4
 have HR5 := Aside0.mk hr5
 have HC5 := Aside0.mk hc5
 clear hr5 hc5
 have HB := Aside0.mk (Below.refl w.heap.size w)
 have H : ((some (([] : List Int) : List Int)).bind fun y220 => (if y220.length + l3.length < 140737488355328 then ((impl_texts.f k l4).bind fun t226 => ((some (([] : List Int) : List Int)).bind fun y229 => (if y229.length + l5.length < 140737488355328 then ((proof_VerifyInclusion.f k a0_0 a0_1 a0_2 a0_3 a0_4 a0_5 a1 a2 (y220 ++ l3) t226 (y229 ++ l5)).bind fun bt235 => ((impl_verdict.f k bt235.1 bt235.2.1 bt235.2.2.1 bt235.2.2.2).bind fun bt245 => (some (bt245.1, bt245.2)))) else (none)))) else (none))) = some (r1, r2) := h
 clear h
 obtain ⟨y220, hy220⟩ : ∃ y_ : List Int, y_ = (([] : List Int)) := ⟨_, rfl⟩
 replace H : (if y220.length + l3.length < 140737488355328 then ((impl_texts.f k l4).bind fun t226 => ((some (([] : List Int) : List Int)).bind fun y229 => (if y229.length + l5.length < 140737488355328 then ((proof_VerifyInclusion.f k a0_0 a0_1 a0_2 a0_3 a0_4 a0_5 a1 a2 (y220 ++ l3) t226 (y229 ++ l5)).bind fun bt235 => ((impl_verdict.f k bt235.1 bt235.2.1 bt235.2.2.1 bt235.2.2.2).bind fun bt245 => (some (bt245.1, bt245.2)))) else (none)))) else (none)) = some (r1, r2) := by first | (rw [hy220]; with_reducible exact H) | (have H2_ := (Option.bind_some _ _).symm.trans H; rw [hy220]; with_reducible exact H2_) | (have H2_ := (Option.bind_some _ _).symm.trans H; with_reducible exact H2_) | with_reducible exact H | (rw [hy220]; exact H) | exact H
 have Ny220 := Aside0.mk hy220
 clear hy220
 by_cases c7 : y220.length + l3.length < 140737488355328
 ·rw [if_pos c7] at H
  have LMc7 := Aside0.mk c7
  clear c7
  obtain ⟨y223, hy223⟩ : ∃ y_ : List Int, y_ = (y220 ++ l3) := ⟨_, rfl⟩
  replace H : ((impl_texts.f k l4).bind fun t226 => ((some (([] : List Int) : List Int)).bind fun y229 => (if y229.length + l5.length < 140737488355328 then ((proof_VerifyInclusion.f k a0_0 a0_1 a0_2 a0_3 a0_4 a0_5 a1 a2 y223 t226 (y229 ++ l5)).bind fun bt235 => ((impl_verdict.f k bt235.1 bt235.2.1 bt235.2.2.1 bt235.2.2.2).bind fun bt245 => (some (bt245.1, bt245.2)))) else (none)))) = some (r1, r2) := by first | (rw [hy223]; with_reducible exact H) | (have H2_ := (Option.bind_some _ _).symm.trans H; rw [hy223]; with_reducible exact H2_) | (have H2_ := (Option.bind_some _ _).symm.trans H; with_reducible exact H2_) | with_reducible exact H | (rw [hy223]; exact H) | exact H
  have Ny223 := Aside0.mk hy223
  clear hy223
  replace H := Option.bind_eq_some_iff.mp H
  obtain ⟨t226, A80, H⟩ := H
  replace H : ((some (([] : List Int) : List Int)).bind fun y229 => (if y229.length + l5.length < 140737488355328 then ((proof_VerifyInclusion.f k a0_0 a0_1 a0_2 a0_3 a0_4 a0_5 a1 a2 y223 t226 (y229 ++ l5)).bind fun bt235 => ((impl_verdict.f k bt235.1 bt235.2.1 bt235.2.2.1 bt235.2.2.2).bind fun bt245 => (some (bt245.1, bt245.2)))) else (none))) = some (r1, r2) := H
  have A8 := Aside0.mk A80
  clear A80
  obtain ⟨y229, hy229⟩ : ∃ y_ : List Int, y_ = (([] : List Int)) := ⟨_, rfl⟩
  replace H : (if y229.length + l5.length < 140737488355328 then ((proof_VerifyInclusion.f k a0_0 a0_1 a0_2 a0_3 a0_4 a0_5 a1 a2 y223 t226 (y229 ++ l5)).bind fun bt235 => ((impl_verdict.f k bt235.1 bt235.2.1 bt235.2.2.1 bt235.2.2.2).bind fun bt245 => (some (bt245.1, bt245.2)))) else (none)) = some (r1, r2) := by first | (rw [hy229]; with_reducible exact H) | (have H2_ := (Option.bind_some _ _).symm.trans H; rw [hy229]; with_reducible exact H2_) | (have H2_ := (Option.bind_some _ _).symm.trans H; with_reducible exact H2_) | with_reducible exact H | (rw [hy229]; exact H) | exact H
  have Ny229 := Aside0.mk hy229
  clear hy229
  by_cases c9 : y229.length + l5.length < 140737488355328
  ·rw [if_pos c9] at H
   have LMc9 := Aside0.mk c9
   clear c9
   obtain ⟨y232, hy232⟩ : ∃ y_ : List Int, y_ = (y229 ++ l5) := ⟨_, rfl⟩
   replace H : ((proof_VerifyInclusion.f k a0_0 a0_1 a0_2 a0_3 a0_4 a0_5 a1 a2 y223 t226 y232).bind fun bt235 => ((impl_verdict.f k bt235.1 bt235.2.1 bt235.2.2.1 bt235.2.2.2).bind fun bt245 => (some (bt245.1, bt245.2)))) = some (r1, r2) := by first | (rw [hy232]; with_reducible exact H) | (have H2_ := (Option.bind_some _ _).symm.trans H; rw [hy232]; with_reducible exact H2_) | (have H2_ := (Option.bind_some _ _).symm.trans H; with_reducible exact H2_) | with_reducible exact H | (rw [hy232]; exact H) | exact H
   have Ny232 := Aside0.mk hy232
   clear hy232
   replace H := Option.bind_eq_some_iff.mp H
   obtain ⟨⟨t235, t236, t239, t242⟩, A100, H⟩ := H
   replace H : ((impl_verdict.f k t235 t236 t239 t242).bind fun bt245 => (some (bt245.1, bt245.2))) = some (r1, r2) := H
   have A10 := Aside0.mk A100
   clear A100
   replace H := Option.bind_eq_some_iff.mp H
   obtain ⟨⟨t245, t246⟩, A110, H⟩ := H
   replace H : (some (t245, t246)) = some (r1, r2) := H
   have A11 := Aside0.mk A110
   clear A110
   simp only [Option.some.injEq, Prod.mk.injEq] at H
   obtain ⟨rfl, rfl⟩ := H
   go_enter Tryd.func32, Tryd.ntmps32
   try go_wp2_with (first | ((with_reducible refine gate_dst (N := 6) rfl ?_); refine box_event ?hg (N := 6) ?hd (cs := #[.int .i64 a0_0, .int .i64 a0_1, .int .i64 a0_2, .int .u64 a0_3, .int .u64 a0_4, .int .u64 a0_5]) (t := 24) ?hr ?_; (case hd => rfl); (case hg => rfl); (case hr => first | (go_simp; done) | (go_simp; rfl)); intro gb219 hg w12 hbox hb; have n0_ := Aside0.mk (below_step bB hb); have n1_ := Aside0.mk (hbox); have n2_ := Aside0.mk ((by rw [hg]; exact (below_size bB) : w.heap.size ≤ gb219)); have n3_ := Aside0.mk ((by rw [hg]; exact (below_size bB) : w.heap.size ≤ gb219)); clear HB; have HB := n0_; have BK219 := n1_; have GW219 := n2_; have GE219 := n3_; clear n0_ n1_ n2_ n3_; clear hb hbox hg))
   have n0_ := Aside0.mk (blk_drew BK219.out)
   have n1_ := Aside0.mk (below_drew1 HB.out)
   clear BK219
   clear HB
   have BK219 := n0_
   have HB := n1_
   clear n0_ n1_
   refine start_ (n := 19) (S := fun w' => w'.cell? ⟨gb219, 0, none⟩ = some (.int .i64 a0_0) ∧ w'.cell? ⟨gb219, 1, none⟩ = some (.int .i64 a0_1) ∧ w'.cell? ⟨gb219, 2, none⟩ = some (.int .i64 a0_2) ∧ w'.cell? ⟨gb219, 3, none⟩ = some (.int .u64 a0_3) ∧ w'.cell? ⟨gb219, 4, none⟩ = some (.int .u64 a0_4) ∧ w'.cell? ⟨gb219, 5, none⟩ = some (.int .u64 a0_5)) (ds := []) #[false, false, false, false, false, false, false, false, false, false, false, false, false, false, false, false, false, false, false] (by kernel_rfl) rfl rfl ⟨(blk_cell BK219.out 0).trans rfl, (blk_cell BK219.out 1).trans rfl, (blk_cell BK219.out 2).trans rfl, (blk_cell BK219.out 3).trans rfl, (blk_cell BK219.out 4).trans rfl, (blk_cell BK219.out 5).trans rfl⟩ (fun hHeld => ?_); refine with_tabW impl_VerifyInclusion.tab1 impl_VerifyInclusion.bits1 (fun HT_ HW_ => ?_)
   generalize w12.drew = w13 at BK219 HB hHeld ⊢
   refine pure_ (i := 3) (N := some 17) (v := ?_) (a' := ?_) #[false, false, false, true, false, false, false, false, false, false, false, false, false, false, false, false, false, false, false] rfl rfl (any_of HT_.out (by kernel_rfl)) (fun _ _ _ h => h) (Or.inl ⟨by rfl, ?_⟩) ?_ ?_
   rotate_left
   ·intro w'
    go_simp
    with_reducible rfl
   rotate_left
   ·simp only [Act.put, List.setIfInBounds_toArray, List.set_cons_zero, List.set_cons_succ, i64_w, i32_w]
    rfl
   refine pure_ (i := 4) (N := some 18) (v := ?_) (a' := ?_) #[false, false, false, true, true, false, false, false, false, false, false, false, false, false, false, false, false, false, false] rfl rfl (any_of HT_.out (by kernel_rfl)) (fun _ _ _ h => h) (Or.inl ⟨by rfl, ?_⟩) ?_ ?_
   rotate_left
   ·intro w'
    go_simp
    with_reducible rfl
   rotate_left
   ·simp only [Act.put, List.setIfInBounds_toArray, List.set_cons_zero, List.set_cons_succ, i64_w, i32_w]
    rfl
   refine pure_ (i := 6) (N := some 20) (v := ?_) (a' := ?_) #[false, false, false, true, true, false, true, false, false, false, false, false, false, false, false, false, false, false, false] rfl rfl (any_of HT_.out (by kernel_rfl)) (fun _ _ _ h => h) (Or.inl ⟨by rfl, ?_⟩) ?_ ?_
   rotate_left
   ·intro w'
    go_simp
    with_reducible rfl
   rotate_left
   ·simp only [Act.put, List.setIfInBounds_toArray, List.set_cons_zero, List.set_cons_succ, i64_w, i32_w]
    rfl
   refine pure_ (i := 8) (N := some 22) (v := ?_) (a' := ?_) #[false, false, false, true, true, false, true, false, true, false, false, false, false, false, false, false, false, false, false] rfl rfl (any_of HT_.out (by kernel_rfl)) (fun _ _ _ h => h) (Or.inl ⟨by rfl, ?_⟩) ?_ ?_
   rotate_left
   ·intro w'
    go_simp
    with_reducible rfl
   rotate_left
   ·simp only [Act.put, List.setIfInBounds_toArray, List.set_cons_zero, List.set_cons_succ, i64_w, i32_w]
    rfl
   refine pure_ (i := 11) (N := some 25) (v := ?_) (a' := ?_) #[false, false, false, true, true, false, true, false, true, false, false, true, false, false, false, false, false, false, false] rfl rfl (any_of HT_.out (by kernel_rfl)) (fun _ _ _ h => h) (Or.inl ⟨by rfl, ?_⟩) ?_ ?_
   rotate_left
   ·intro w'
    go_simp
    with_reducible rfl
   rotate_left
   ·simp only [Act.put, List.setIfInBounds_toArray, List.set_cons_zero, List.set_cons_succ, i64_w, i32_w]
    rfl
   refine take_ (i := 0) (N := some 14) (v := ?_) (a' := ?_) #[true, false, false, true, true, false, true, false, true, false, false, true, false, false, false, false, false, false, false] rfl rfl (take_ofW HT_.out HW_.out (by kernel_rfl)) (fun _ _ _ h => h) (Or.inl ⟨by rfl, ?_⟩) hHeld ?_ ?_
   rotate_left
   ·rintro w' ⟨s0, s1, s2, s3, s4, s5⟩
    go_simp
    with_reducible rfl
   rotate_left
   ·simp only [Act.put, List.setIfInBounds_toArray, List.set_cons_zero, List.set_cons_succ, i64_w, i32_w]
    rfl
   refine pure_ (i := 1) (N := some 15) (v := ?_) (a' := ?_) #[true, true, false, true, true, false, true, false, true, false, false, true, false, false, false, false, false, false, false] rfl rfl (any_of HT_.out (by kernel_rfl)) (fun _ _ _ h => h) (Or.inl ⟨by rfl, ?_⟩) ?_ ?_
   rotate_left
   ·intro w'
    go_simp
    with_reducible rfl
   rotate_left
   ·simp only [Act.put, List.setIfInBounds_toArray, List.set_cons_zero, List.set_cons_succ, i64_w, i32_w]
    rfl
   refine pure_ (i := 2) (N := some 16) (v := ?_) (a' := ?_) #[true, true, true, true, true, false, true, false, true, false, false, true, false, false, false, false, false, false, false] rfl rfl (any_of HT_.out (by kernel_rfl)) (fun _ _ _ h => h) (Or.inl ⟨by rfl, ?_⟩) ?_ ?_
   rotate_left
   ·intro w'
    go_simp
    with_reducible rfl
   rotate_left
   ·simp only [Act.put, List.setIfInBounds_toArray, List.set_cons_zero, List.set_cons_succ, i64_w, i32_w]
    rfl
   refine join_ (σ := Value × Value × Value × Value) 7 #[true, true, true, true, true, true, true, true, true, true, true, true, false, false, false, false, false, false, false] (fun s_ => [(19, s_.1), (21, s_.2.1), (23, s_.2.2.1), (24, s_.2.2.2)]) (fun s_ w' => (w'.cell? ⟨gb219, 0, none⟩ = some (.int .i64 a0_0) ∧ w'.cell? ⟨gb219, 1, none⟩ = some (.int .i64 a0_1) ∧ w'.cell? ⟨gb219, 2, none⟩ = some (.int .i64 a0_2) ∧ w'.cell? ⟨gb219, 3, none⟩ = some (.int .u64 a0_3) ∧ w'.cell? ⟨gb219, 4, none⟩ = some (.int .u64 a0_4) ∧ w'.cell? ⟨gb219, 5, none⟩ = some (.int .u64 a0_5)) ∧ (Kd.R (Kd.int .u8) 5 w' w.heap.size (fun k_ => some k_ ≠ (s_.2.2.2 : Value).ownBlock) s_.2.1 y223) ∧ (Kd.S (Kd.slice 5 (Kd.int .u8)) 27 w' w.heap.size (fun k_ => some k_ ≠ (s_.2.1 : Value).ownBlock ∧ some k_ ≠ (s_.2.2.2 : Value).ownBlock) s_.2.2.1 t226) ∧ (Kd.R (Kd.int .u8) 5 w' w.heap.size (fun k_ => some k_ ≠ (s_.2.1 : Value).ownBlock) s_.2.2.2 y229) ∧ (w'.heap[gb219]? = some (.cells #[.int .i64 a0_0, .int .i64 a0_1, .int .i64 a0_2, .int .u64 a0_3, .int .u64 a0_4, .int .u64 a0_5] 24 (0, 0))) ∧ (Below w.heap.size w w')) ?_ ?_
   rotate_left
   ·intro hCont
    refine two_ (i := 5) (j := 10) (Ni := some 19) (Nj := some 24) #[true, true, true, true, true, true, true, false, true, false, false, true, false, false, false, false, false, false, false] #[true, true, true, true, true, false, true, false, true, false, true, true, false, false, false, false, false, false, false] rfl rfl rfl rfl (two_of HT_.out (by kernel_rfl)) (by decide) (by decide) (fun K hK => ?_) (fun K hK => ?_)
    ·skip
     refine Kd.R_lit_step (Kd.int .u8) _ 5 ?hg (N := 19) ?hd (xs := ([] : List Int)) (inner := []) (ok := fun _ => True) (okp := fun _ => True) ?hr ?hp (fun _ hk => hk) trivial (Below.refl _ _) (Nat.le_refl _) (by simp) ?_; (case hd => rfl); (case hg => rfl); (case hr => first | (go_simp; done) | (go_simp; rfl)); (case hp => exact (Reps.none _ _))
     intro v221 w14 ho15 hb hg_ hnew_
     clear hg_ hnew_
     (first | rw [← Ny220.out] at ho15 | (simp only [Int.reduceToNat] at ho15; rw [← Ny220.out] at ho15))
     have n0_ := Aside0.mk (Kd.R_lower ho15 (below_size bB))
     have n1_ := Aside0.mk (blk_below (g := gb219) (o := .cells #[.int .i64 a0_0, .int .i64 a0_1, .int .i64 a0_2, .int .u64 a0_3, .int .u64 a0_4, .int .u64 a0_5] 24 (0, 0)) (kB BK219.out) hb)
     have n2_ := Aside0.mk (below_step bB hb)
     clear BK219
     clear HB
     have HO222 := n0_
     have BK219 := n1_
     have HB := n2_
     clear n0_ n1_ n2_
     clear hb ho15
     refine hK.out _ _ ⟨(blk_cell BK219.out 0).trans rfl, (blk_cell BK219.out 1).trans rfl, (blk_cell BK219.out 2).trans rfl, (blk_cell BK219.out 3).trans rfl, (blk_cell BK219.out 4).trans rfl, (blk_cell BK219.out 5).trans rfl⟩ (fun hHeld => ?_)
     clear hK K
     refine norm_ (a' := ?_) ?_ ?_
     rotate_left
     ·show Act.put _ (some 19) _ = _
      simp only [Act.put, List.setIfInBounds_toArray, List.set_cons_zero, List.set_cons_succ, i64_w, i32_w]
      rfl
     refine two_ (i := 7) (j := 10) (Ni := some 21) (Nj := some 24) #[true, true, true, true, true, true, true, true, true, false, false, true, false, false, false, false, false, false, false] #[true, true, true, true, true, true, true, false, true, false, true, true, false, false, false, false, false, false, false] rfl rfl rfl rfl (two_of HT_.out (by kernel_rfl)) (by decide) (by decide) (fun K hK => ?_) (fun K hK => ?_)
     ·skip
      refine Kd.R_append_rows_step (Kd.int .u8) (w0 := w) w.heap.size (by rfl) (.tmp 19) (.tmp 20) 27 5 (.int .u8 0) 1 rfl Tryd.underlying27 info5 rfl (by decide) (by omega) v221 y220 l3 _ _ _ (fun _ => True) (fun _ => False) rfl rfl ?aO ?aR (fun _ _ h => h) (fun _ h => h.elim) ?aF ?aB ?aS ?aL ?_
      (case aR => repeat (first | exact (Kd.C_below HR3.out HB.out) | (with_reducible refine Kd.C_alloc ?_ _) | (with_reducible refine Kd.C_drewN ?_ _) | (with_reducible refine Kd.C_drew ?_)))
      (case aB => exact bB)
      (case aF => exact (fun _ _ => trivial))
      (case aO => exact (kR HO222.out))
      (case aS => exact (below_size bB))
      (case aL => have := LMc7.out; omega)
      intro v224 w16 ho hb hg hat
      rw [← Ny223.out] at ho
      have n0_ := Aside0.mk (blk_grown (g := gb219) (o := .cells #[.int .i64 a0_0, .int .i64 a0_1, .int .i64 a0_2, .int .u64 a0_3, .int .u64 a0_4, .int .u64 a0_5] 24 (0, 0)) (kB BK219.out) hg (Kd.R_ne HO222.out BK219.out (by decide)))
      have n1_ := Aside0.mk (hb)
      have n2_ := Aside0.mk (ho)
      clear BK219
      clear HB
      clear HO222
      have BK219 := n0_
      have HB := n1_
      have HO225 := n2_
      clear n0_ n1_ n2_
      clear ho hb hg hat
      refine hK.out _ _ ⟨(blk_cell BK219.out 0).trans rfl, (blk_cell BK219.out 1).trans rfl, (blk_cell BK219.out 2).trans rfl, (blk_cell BK219.out 3).trans rfl, (blk_cell BK219.out 4).trans rfl, (blk_cell BK219.out 5).trans rfl⟩ (fun hHeld => ?_)
      clear hK K
      refine norm_ (a' := ?_) ?_ ?_
      rotate_left
      ·show Act.put _ (some 21) _ = _
       simp only [Act.put, List.setIfInBounds_toArray, List.set_cons_zero, List.set_cons_succ, i64_w, i32_w]
       rfl
      refine two_ (i := 9) (j := 10) (Ni := some 23) (Nj := some 24) #[true, true, true, true, true, true, true, true, true, true, false, true, false, false, false, false, false, false, false] #[true, true, true, true, true, true, true, true, true, false, true, true, false, false, false, false, false, false, false] rfl rfl rfl rfl (two_of HT_.out (by kernel_rfl)) (by decide) (by decide) (fun K hK => ?_) (fun K hK => ?_)
      ·skip
       refine goes_ Tryd.func46 (by kernel_rfl) rfl #[.slice A4 l4.length c4] (by rfl) rfl rfl aV ?_
       with_reducible refine (impl_texts.calls k _ _ l4 t226 _ ?side1 ?side2 A8.out).mono ?_
       (case side1 => repeat (first | exact (Kd.C_below HR4.out HB.out) | (with_reducible refine Kd.C_alloc ?_ _) | (with_reducible refine Kd.C_drewN ?_ _) | (with_reducible refine Kd.C_drew ?_)))
       (case side2 => exact HC4.out)
       rintro e w17 ⟨v227, rfl, ho0, hb⟩
       refine ⟨_, rfl, ?_⟩
       have n0_ := Aside0.mk (Kd.R_below (kR HO225.out) hb)
       have n1_ := Aside0.mk (Kd.S_lower (Kd.S_new' ho0 (Kd.R_lt (kR HO225.out))) (below_size bB))
       have n2_ := Aside0.mk (blk_below (g := gb219) (o := .cells #[.int .i64 a0_0, .int .i64 a0_1, .int .i64 a0_2, .int .u64 a0_3, .int .u64 a0_4, .int .u64 a0_5] 24 (0, 0)) (kB BK219.out) hb)
       have n3_ := Aside0.mk (below_step bB hb)
       clear HO225
       clear BK219
       clear HB
       have HO225 := n0_
       have HO228 := n1_
       have BK219 := n2_
       have HB := n3_
       clear n0_ n1_ n2_ n3_
       (try clear hb)
       (try clear hb2)
       (try clear hk)
       (try clear hi)
       (try clear ho0)
       refine hK.out _ _ ⟨(blk_cell BK219.out 0).trans rfl, (blk_cell BK219.out 1).trans rfl, (blk_cell BK219.out 2).trans rfl, (blk_cell BK219.out 3).trans rfl, (blk_cell BK219.out 4).trans rfl, (blk_cell BK219.out 5).trans rfl⟩ (fun hHeld => ?_)
       clear hK K
       refine norm_ (a' := ?_) ?_ ?_
       rotate_left
       ·show Act.put _ (some 23) _ = _
        simp only [Act.put, List.setIfInBounds_toArray, List.set_cons_zero, List.set_cons_succ, i64_w, i32_w]
        rfl
       refine one_ (i := 10) (N := some 24) #[true, true, true, true, true, true, true, true, true, true, true, true, false, false, false, false, false, false, false] rfl rfl (one_of HT_.out (by kernel_rfl)) (by decide) (fun K hK => ?_)
       refine Kd.R_lit_step (Kd.int .u8) _ 5 ?hg (N := 24) ?hd (xs := ([] : List Int)) (inner := []) (ok := fun _ => True) (okp := fun _ => True) ?hr ?hp (fun _ hk => hk) trivial (Below.refl _ _) (Nat.le_refl _) (by simp) ?_; (case hd => rfl); (case hg => rfl); (case hr => first | (go_simp; done) | (go_simp; rfl)); (case hp => exact (Reps.none _ _))
       intro v230 w18 ho19 hb hg_ hnew_
       clear hg_ hnew_
       (first | rw [← Ny229.out] at ho19 | (simp only [Int.reduceToNat] at ho19; rw [← Ny229.out] at ho19))
       have n0_ := Aside0.mk (Kd.R_elder' (kR HO225.out) (Kd.R_base ho19) hb)
       have n1_ := Aside0.mk (Kd.S_elder' (by (with_reducible repeat (first | apply Kd.S_alloc | apply Kd.S_drewN | apply Kd.S_drew)); exact HO228.out) (Kd.R_base ho19) hb)
       have n2_ := Aside0.mk (Kd.R_lower (Kd.R_new' ho19 (Kd.R_lt (kR HO225.out))) (below_size bB))
       have n3_ := Aside0.mk (blk_below (g := gb219) (o := .cells #[.int .i64 a0_0, .int .i64 a0_1, .int .i64 a0_2, .int .u64 a0_3, .int .u64 a0_4, .int .u64 a0_5] 24 (0, 0)) (kB BK219.out) hb)
       have n4_ := Aside0.mk (below_step bB hb)
       clear HO225
       clear HO228
       clear BK219
       clear HB
       have HO225 := n0_
       have HO228 := n1_
       have HO231 := n2_
       have BK219 := n3_
       have HB := n4_
       clear n0_ n1_ n2_ n3_ n4_
       clear hb ho19
       refine hK.out _ _ ⟨(blk_cell BK219.out 0).trans rfl, (blk_cell BK219.out 1).trans rfl, (blk_cell BK219.out 2).trans rfl, (blk_cell BK219.out 3).trans rfl, (blk_cell BK219.out 4).trans rfl, (blk_cell BK219.out 5).trans rfl⟩ (fun hHeld => ?_)
       clear hK K
       refine norm_ (a' := ?_) ?_ ?_
       rotate_left
       ·show Act.put _ (some 24) _ = _
        simp only [Act.put, List.setIfInBounds_toArray, List.set_cons_zero, List.set_cons_succ, i64_w, i32_w]
        rfl
       exact norm_ (by simp only [putAll, Act.put, List.setIfInBounds_toArray, List.set_cons_zero, List.set_cons_succ]) (hCont (v221, v224, v227, v230) _ ⟨hHeld, (by (with_reducible repeat (first | apply Kd.R_alloc | apply Kd.R_drewN | apply Kd.R_drew)); exact Kd.R_mono HO225.out (fun _ hk => hk.2)), (by (with_reducible repeat (first | apply Kd.S_alloc | apply Kd.S_drewN | apply Kd.S_drew)); exact Kd.S_mono HO228.out (fun _ hk => ⟨hk.1.2, hk.2⟩)), (by (with_reducible repeat (first | apply Kd.R_alloc | apply Kd.R_drewN | apply Kd.R_drew)); exact Kd.R_mono HO231.out (fun _ hk => hk.2)), (kB BK219.out), bB⟩)
      ·skip
       refine Kd.R_lit_step (Kd.int .u8) _ 5 ?hg (N := 24) ?hd (xs := ([] : List Int)) (inner := []) (ok := fun _ => True) (okp := fun _ => True) ?hr ?hp (fun _ hk => hk) trivial (Below.refl _ _) (Nat.le_refl _) (by simp) ?_; (case hd => rfl); (case hg => rfl); (case hr => first | (go_simp; done) | (go_simp; rfl)); (case hp => exact (Reps.none _ _))
       intro v230 w17 ho18 hb hg_ hnew_
       clear hg_ hnew_
       (first | rw [← Ny229.out] at ho18 | (simp only [Int.reduceToNat] at ho18; rw [← Ny229.out] at ho18))
       have n0_ := Aside0.mk (Kd.R_elder' (kR HO225.out) (Kd.R_base ho18) hb)
       have n1_ := Aside0.mk (Kd.R_lower (Kd.R_new' ho18 (Kd.R_lt (kR HO225.out))) (below_size bB))
       have n2_ := Aside0.mk (blk_below (g := gb219) (o := .cells #[.int .i64 a0_0, .int .i64 a0_1, .int .i64 a0_2, .int .u64 a0_3, .int .u64 a0_4, .int .u64 a0_5] 24 (0, 0)) (kB BK219.out) hb)
       have n3_ := Aside0.mk (below_step bB hb)
       clear HO225
       clear BK219
       clear HB
       have HO225 := n0_
       have HO231 := n1_
       have BK219 := n2_
       have HB := n3_
       clear n0_ n1_ n2_ n3_
       clear hb ho18
       refine hK.out _ _ ⟨(blk_cell BK219.out 0).trans rfl, (blk_cell BK219.out 1).trans rfl, (blk_cell BK219.out 2).trans rfl, (blk_cell BK219.out 3).trans rfl, (blk_cell BK219.out 4).trans rfl, (blk_cell BK219.out 5).trans rfl⟩ (fun hHeld => ?_)
       clear hK K
       refine norm_ (a' := ?_) ?_ ?_
       rotate_left
       ·show Act.put _ (some 24) _ = _
        simp only [Act.put, List.setIfInBounds_toArray, List.set_cons_zero, List.set_cons_succ, i64_w, i32_w]
        rfl
       refine one_ (i := 9) (N := some 23) #[true, true, true, true, true, true, true, true, true, true, true, true, false, false, false, false, false, false, false] rfl rfl (one_of HT_.out (by kernel_rfl)) (by decide) (fun K hK => ?_)
       refine goes_ Tryd.func46 (by kernel_rfl) rfl #[.slice A4 l4.length c4] (by rfl) rfl rfl aV ?_
       with_reducible refine (impl_texts.calls k _ _ l4 t226 _ ?side1 ?side2 A8.out).mono ?_
       (case side1 => repeat (first | exact (Kd.C_below HR4.out HB.out) | (with_reducible refine Kd.C_alloc ?_ _) | (with_reducible refine Kd.C_drewN ?_ _) | (with_reducible refine Kd.C_drew ?_)))
       (case side2 => exact HC4.out)
       rintro e w19 ⟨v227, rfl, ho0, hb⟩
       refine ⟨_, rfl, ?_⟩
       have n0_ := Aside0.mk (Kd.R_below (kR HO225.out) hb)
       have n1_ := Aside0.mk (Kd.R_below (kR HO231.out) hb)
       have n2_ := Aside0.mk (Kd.S_lower (Kd.S_new' (Kd.S_new' ho0 (Kd.R_lt (kR HO225.out))) (Kd.R_lt (kR HO231.out))) (below_size bB))
       have n3_ := Aside0.mk (blk_below (g := gb219) (o := .cells #[.int .i64 a0_0, .int .i64 a0_1, .int .i64 a0_2, .int .u64 a0_3, .int .u64 a0_4, .int .u64 a0_5] 24 (0, 0)) (kB BK219.out) hb)
       have n4_ := Aside0.mk (below_step bB hb)
       clear HO225
       clear HO231
       clear BK219
       clear HB
       have HO225 := n0_
       have HO231 := n1_
       have HO228 := n2_
       have BK219 := n3_
       have HB := n4_
       clear n0_ n1_ n2_ n3_ n4_
       (try clear hb)
       (try clear hb2)
       (try clear hk)
       (try clear hi)
       (try clear ho0)
       refine hK.out _ _ ⟨(blk_cell BK219.out 0).trans rfl, (blk_cell BK219.out 1).trans rfl, (blk_cell BK219.out 2).trans rfl, (blk_cell BK219.out 3).trans rfl, (blk_cell BK219.out 4).trans rfl, (blk_cell BK219.out 5).trans rfl⟩ (fun hHeld => ?_)
       clear hK K
       refine norm_ (a' := ?_) ?_ ?_
       rotate_left
       ·show Act.put _ (some 23) _ = _
        simp only [Act.put, List.setIfInBounds_toArray, List.set_cons_zero, List.set_cons_succ, i64_w, i32_w]
        rfl
       exact norm_ (by simp only [putAll, Act.put, List.setIfInBounds_toArray, List.set_cons_zero, List.set_cons_succ]) (hCont (v221, v224, v227, v230) _ ⟨hHeld, (by (with_reducible repeat (first | apply Kd.R_alloc | apply Kd.R_drewN | apply Kd.R_drew)); exact Kd.R_mono HO225.out (fun _ hk => hk.2)), (by (with_reducible repeat (first | apply Kd.S_alloc | apply Kd.S_drewN | apply Kd.S_drew)); exact Kd.S_mono HO228.out (fun _ hk => ⟨hk.1.2, hk.2⟩)), (by (with_reducible repeat (first | apply Kd.R_alloc | apply Kd.R_drewN | apply Kd.R_drew)); exact Kd.R_mono HO231.out (fun _ hk => hk.2)), (kB BK219.out), bB⟩)
     ·skip
      refine Kd.R_lit_step (Kd.int .u8) _ 5 ?hg (N := 24) ?hd (xs := ([] : List Int)) (inner := []) (ok := fun _ => True) (okp := fun _ => True) ?hr ?hp (fun _ hk => hk) trivial (Below.refl _ _) (Nat.le_refl _) (by simp) ?_; (case hd => rfl); (case hg => rfl); (case hr => first | (go_simp; done) | (go_simp; rfl)); (case hp => exact (Reps.none _ _))
      intro v230 w16 ho17 hb hg_ hnew_
      clear hg_ hnew_
      (first | rw [← Ny229.out] at ho17 | (simp only [Int.reduceToNat] at ho17; rw [← Ny229.out] at ho17))
      have n0_ := Aside0.mk (Kd.R_elder' (kR HO222.out) (Kd.R_base ho17) hb)
      have n1_ := Aside0.mk (Kd.R_lower (Kd.R_new' ho17 (Kd.R_lt (kR HO222.out))) (below_size bB))
      have n2_ := Aside0.mk (blk_below (g := gb219) (o := .cells #[.int .i64 a0_0, .int .i64 a0_1, .int .i64 a0_2, .int .u64 a0_3, .int .u64 a0_4, .int .u64 a0_5] 24 (0, 0)) (kB BK219.out) hb)
      have n3_ := Aside0.mk (below_step bB hb)
      clear HO222
      clear BK219
      clear HB
      have HO222 := n0_
      have HO231 := n1_
      have BK219 := n2_
      have HB := n3_
      clear n0_ n1_ n2_ n3_
      clear hb ho17
      refine hK.out _ _ ⟨(blk_cell BK219.out 0).trans rfl, (blk_cell BK219.out 1).trans rfl, (blk_cell BK219.out 2).trans rfl, (blk_cell BK219.out 3).trans rfl, (blk_cell BK219.out 4).trans rfl, (blk_cell BK219.out 5).trans rfl⟩ (fun hHeld => ?_)
      clear hK K
      refine norm_ (a' := ?_) ?_ ?_
      rotate_left
      ·show Act.put _ (some 24) _ = _
       simp only [Act.put, List.setIfInBounds_toArray, List.set_cons_zero, List.set_cons_succ, i64_w, i32_w]
       rfl
      refine one_ (i := 7) (N := some 21) #[true, true, true, true, true, true, true, true, true, false, true, true, false, false, false, false, false, false, false] rfl rfl (one_of HT_.out (by kernel_rfl)) (by decide) (fun K hK => ?_)
      refine Kd.R_append_rows_step (Kd.int .u8) (w0 := w) w.heap.size (by rfl) (.tmp 19) (.tmp 20) 27 5 (.int .u8 0) 1 rfl Tryd.underlying27 info5 rfl (by decide) (by omega) v221 y220 l3 _ _ _ (fun k_ => some k_ ≠ (v230 : Value).ownBlock) (fun _ => False) rfl rfl ?aO ?aR (fun _ _ h => h) (fun _ h => h.elim) ?aF ?aB ?aS ?aL ?_
      (case aR => repeat (first | exact (Kd.C_below HR3.out HB.out) | (with_reducible refine Kd.C_alloc ?_ _) | (with_reducible refine Kd.C_drewN ?_ _) | (with_reducible refine Kd.C_drew ?_)))
      (case aB => exact bB)
      (case aF => exact (fun k_ hk => Kd.fresh' (Kd.R_lt (kR HO231.out)) k_ hk))
      (case aO => exact (by (with_reducible repeat (first | apply Kd.R_alloc | apply Kd.R_drewN | apply Kd.R_drew)); exact Kd.R_mono HO222.out (fun _ hk => hk.2)))
      (case aS => exact (below_size bB))
      (case aL => have := LMc7.out; omega)
      intro v224 w18 ho hb hg hat
      rw [← Ny223.out] at ho
      have n0_ := Aside0.mk (blk_grown (g := gb219) (o := .cells #[.int .i64 a0_0, .int .i64 a0_1, .int .i64 a0_2, .int .u64 a0_3, .int .u64 a0_4, .int .u64 a0_5] 24 (0, 0)) (kB BK219.out) hg (Kd.R_ne HO222.out BK219.out (by decide)))
      have n1_ := Aside0.mk (Kd.R_after (ok := (fun _ => True)) (kR HO231.out) hg hat)
      have n2_ := Aside0.mk (hb)
      have n3_ := Aside0.mk (ho)
      clear BK219
      clear HO231
      clear HB
      clear HO222
      have BK219 := n0_
      have HO231 := n1_
      have HB := n2_
      have HO225 := n3_
      clear n0_ n1_ n2_ n3_
      clear ho hb hg hat
      refine hK.out _ _ ⟨(blk_cell BK219.out 0).trans rfl, (blk_cell BK219.out 1).trans rfl, (blk_cell BK219.out 2).trans rfl, (blk_cell BK219.out 3).trans rfl, (blk_cell BK219.out 4).trans rfl, (blk_cell BK219.out 5).trans rfl⟩ (fun hHeld => ?_)
      clear hK K
      refine norm_ (a' := ?_) ?_ ?_
      rotate_left
      ·show Act.put _ (some 21) _ = _
       simp only [Act.put, List.setIfInBounds_toArray, List.set_cons_zero, List.set_cons_succ, i64_w, i32_w]
       rfl
      refine one_ (i := 9) (N := some 23) #[true, true, true, true, true, true, true, true, true, true, true, true, false, false, false, false, false, false, false] rfl rfl (one_of HT_.out (by kernel_rfl)) (by decide) (fun K hK => ?_)
      refine goes_ Tryd.func46 (by kernel_rfl) rfl #[.slice A4 l4.length c4] (by rfl) rfl rfl aV ?_
      with_reducible refine (impl_texts.calls k _ _ l4 t226 _ ?side1 ?side2 A8.out).mono ?_
      (case side1 => repeat (first | exact (Kd.C_below HR4.out HB.out) | (with_reducible refine Kd.C_alloc ?_ _) | (with_reducible refine Kd.C_drewN ?_ _) | (with_reducible refine Kd.C_drew ?_)))
      (case side2 => exact HC4.out)
      rintro e w19 ⟨v227, rfl, ho0, hb⟩
      refine ⟨_, rfl, ?_⟩
      have n0_ := Aside0.mk (Kd.R_below (kR HO231.out) hb)
      have n1_ := Aside0.mk (Kd.R_below (kR HO225.out) hb)
      have n2_ := Aside0.mk (Kd.S_lower (Kd.S_new' (Kd.S_new' ho0 (Kd.R_lt (kR HO231.out))) (Kd.R_lt (kR HO225.out))) (below_size bB))
      have n3_ := Aside0.mk (blk_below (g := gb219) (o := .cells #[.int .i64 a0_0, .int .i64 a0_1, .int .i64 a0_2, .int .u64 a0_3, .int .u64 a0_4, .int .u64 a0_5] 24 (0, 0)) (kB BK219.out) hb)
      have n4_ := Aside0.mk (below_step bB hb)
      clear HO231
      clear HO225
      clear BK219
      clear HB
      have HO231 := n0_
      have HO225 := n1_
      have HO228 := n2_
      have BK219 := n3_
      have HB := n4_
      clear n0_ n1_ n2_ n3_ n4_
      (try clear hb)
      (try clear hb2)
      (try clear hk)
      (try clear hi)
      (try clear ho0)
      refine hK.out _ _ ⟨(blk_cell BK219.out 0).trans rfl, (blk_cell BK219.out 1).trans rfl, (blk_cell BK219.out 2).trans rfl, (blk_cell BK219.out 3).trans rfl, (blk_cell BK219.out 4).trans rfl, (blk_cell BK219.out 5).trans rfl⟩ (fun hHeld => ?_)
      clear hK K
      refine norm_ (a' := ?_) ?_ ?_
      rotate_left
      ·show Act.put _ (some 23) _ = _
       simp only [Act.put, List.setIfInBounds_toArray, List.set_cons_zero, List.set_cons_succ, i64_w, i32_w]
       rfl
      exact norm_ (by simp only [putAll, Act.put, List.setIfInBounds_toArray, List.set_cons_zero, List.set_cons_succ]) (hCont (v221, v224, v227, v230) _ ⟨hHeld, (kR HO225.out), (by (with_reducible repeat (first | apply Kd.S_alloc | apply Kd.S_drewN | apply Kd.S_drew)); exact Kd.S_mono HO228.out (fun _ hk => ⟨hk.2, hk.1.2⟩)), (by (with_reducible repeat (first | apply Kd.R_alloc | apply Kd.R_drewN | apply Kd.R_drew)); exact Kd.R_mono HO231.out (fun _ hk => hk.2)), (kB BK219.out), bB⟩)
    ·skip
     refine Kd.R_lit_step (Kd.int .u8) _ 5 ?hg (N := 24) ?hd (xs := ([] : List Int)) (inner := []) (ok := fun _ => True) (okp := fun _ => True) ?hr ?hp (fun _ hk => hk) trivial (Below.refl _ _) (Nat.le_refl _) (by simp) ?_; (case hd => rfl); (case hg => rfl); (case hr => first | (go_simp; done) | (go_simp; rfl)); (case hp => exact (Reps.none _ _))
     intro v230 w14 ho15 hb hg_ hnew_
     clear hg_ hnew_
     (first | rw [← Ny229.out] at ho15 | (simp only [Int.reduceToNat] at ho15; rw [← Ny229.out] at ho15))
     have n0_ := Aside0.mk (Kd.R_lower ho15 (below_size bB))
     have n1_ := Aside0.mk (blk_below (g := gb219) (o := .cells #[.int .i64 a0_0, .int .i64 a0_1, .int .i64 a0_2, .int .u64 a0_3, .int .u64 a0_4, .int .u64 a0_5] 24 (0, 0)) (kB BK219.out) hb)
     have n2_ := Aside0.mk (below_step bB hb)
     clear BK219
     clear HB
     have HO231 := n0_
     have BK219 := n1_
     have HB := n2_
     clear n0_ n1_ n2_
     clear hb ho15
     refine hK.out _ _ ⟨(blk_cell BK219.out 0).trans rfl, (blk_cell BK219.out 1).trans rfl, (blk_cell BK219.out 2).trans rfl, (blk_cell BK219.out 3).trans rfl, (blk_cell BK219.out 4).trans rfl, (blk_cell BK219.out 5).trans rfl⟩ (fun hHeld => ?_)
     clear hK K
     refine norm_ (a' := ?_) ?_ ?_
     rotate_left
     ·show Act.put _ (some 24) _ = _
      simp only [Act.put, List.setIfInBounds_toArray, List.set_cons_zero, List.set_cons_succ, i64_w, i32_w]
      rfl
     refine one_ (i := 5) (N := some 19) #[true, true, true, true, true, true, true, false, true, false, true, true, false, false, false, false, false, false, false] rfl rfl (one_of HT_.out (by kernel_rfl)) (by decide) (fun K hK => ?_)
     refine Kd.R_lit_step (Kd.int .u8) _ 5 ?hg (N := 19) ?hd (xs := ([] : List Int)) (inner := []) (ok := fun _ => True) (okp := fun _ => True) ?hr ?hp (fun _ hk => hk) trivial (Below.refl _ _) (Nat.le_refl _) (by simp) ?_; (case hd => rfl); (case hg => rfl); (case hr => first | (go_simp; done) | (go_simp; rfl)); (case hp => exact (Reps.none _ _))
     intro v221 w16 ho17 hb hg_ hnew_
     clear hg_ hnew_
     (first | rw [← Ny220.out] at ho17 | (simp only [Int.reduceToNat] at ho17; rw [← Ny220.out] at ho17))
     have n0_ := Aside0.mk (Kd.R_elder' (kR HO231.out) (Kd.R_base ho17) hb)
     have n1_ := Aside0.mk (Kd.R_lower (Kd.R_new' ho17 (Kd.R_lt (kR HO231.out))) (below_size bB))
     have n2_ := Aside0.mk (blk_below (g := gb219) (o := .cells #[.int .i64 a0_0, .int .i64 a0_1, .int .i64 a0_2, .int .u64 a0_3, .int .u64 a0_4, .int .u64 a0_5] 24 (0, 0)) (kB BK219.out) hb)
     have n3_ := Aside0.mk (below_step bB hb)
     clear HO231
     clear BK219
     clear HB
     have HO231 := n0_
     have HO222 := n1_
     have BK219 := n2_
     have HB := n3_
     clear n0_ n1_ n2_ n3_
     clear hb ho17
     refine hK.out _ _ ⟨(blk_cell BK219.out 0).trans rfl, (blk_cell BK219.out 1).trans rfl, (blk_cell BK219.out 2).trans rfl, (blk_cell BK219.out 3).trans rfl, (blk_cell BK219.out 4).trans rfl, (blk_cell BK219.out 5).trans rfl⟩ (fun hHeld => ?_)
     clear hK K
     refine norm_ (a' := ?_) ?_ ?_
     rotate_left
     ·show Act.put _ (some 19) _ = _
      simp only [Act.put, List.setIfInBounds_toArray, List.set_cons_zero, List.set_cons_succ, i64_w, i32_w]
      rfl
     refine one_ (i := 7) (N := some 21) #[true, true, true, true, true, true, true, true, true, false, true, true, false, false, false, false, false, false, false] rfl rfl (one_of HT_.out (by kernel_rfl)) (by decide) (fun K hK => ?_)
     refine Kd.R_append_rows_step (Kd.int .u8) (w0 := w) w.heap.size (by rfl) (.tmp 19) (.tmp 20) 27 5 (.int .u8 0) 1 rfl Tryd.underlying27 info5 rfl (by decide) (by omega) v221 y220 l3 _ _ _ (fun k_ => some k_ ≠ (v230 : Value).ownBlock) (fun _ => False) rfl rfl ?aO ?aR (fun _ _ h => h) (fun _ h => h.elim) ?aF ?aB ?aS ?aL ?_
     (case aR => repeat (first | exact (Kd.C_below HR3.out HB.out) | (with_reducible refine Kd.C_alloc ?_ _) | (with_reducible refine Kd.C_drewN ?_ _) | (with_reducible refine Kd.C_drew ?_)))
     (case aB => exact bB)
     (case aF => exact (fun k_ hk => Kd.fresh' (Kd.R_lt (kR HO231.out)) k_ hk))
     (case aO => exact (by (with_reducible repeat (first | apply Kd.R_alloc | apply Kd.R_drewN | apply Kd.R_drew)); exact Kd.R_mono HO222.out (fun _ hk => hk.2)))
     (case aS => exact (below_size bB))
     (case aL => have := LMc7.out; omega)
     intro v224 w18 ho hb hg hat
     rw [← Ny223.out] at ho
     have n0_ := Aside0.mk (blk_grown (g := gb219) (o := .cells #[.int .i64 a0_0, .int .i64 a0_1, .int .i64 a0_2, .int .u64 a0_3, .int .u64 a0_4, .int .u64 a0_5] 24 (0, 0)) (kB BK219.out) hg (Kd.R_ne HO222.out BK219.out (by decide)))
     have n1_ := Aside0.mk (Kd.R_after (ok := (fun _ => True)) (kR HO231.out) hg hat)
     have n2_ := Aside0.mk (hb)
     have n3_ := Aside0.mk (ho)
     clear BK219
     clear HO231
     clear HB
     clear HO222
     have BK219 := n0_
     have HO231 := n1_
     have HB := n2_
     have HO225 := n3_
     clear n0_ n1_ n2_ n3_
     clear ho hb hg hat
     refine hK.out _ _ ⟨(blk_cell BK219.out 0).trans rfl, (blk_cell BK219.out 1).trans rfl, (blk_cell BK219.out 2).trans rfl, (blk_cell BK219.out 3).trans rfl, (blk_cell BK219.out 4).trans rfl, (blk_cell BK219.out 5).trans rfl⟩ (fun hHeld => ?_)
     clear hK K
     refine norm_ (a' := ?_) ?_ ?_
     rotate_left
     ·show Act.put _ (some 21) _ = _
      simp only [Act.put, List.setIfInBounds_toArray, List.set_cons_zero, List.set_cons_succ, i64_w, i32_w]
      rfl
     refine one_ (i := 9) (N := some 23) #[true, true, true, true, true, true, true, true, true, true, true, true, false, false, false, false, false, false, false] rfl rfl (one_of HT_.out (by kernel_rfl)) (by decide) (fun K hK => ?_)
     refine goes_ Tryd.func46 (by kernel_rfl) rfl #[.slice A4 l4.length c4] (by rfl) rfl rfl aV ?_
     with_reducible refine (impl_texts.calls k _ _ l4 t226 _ ?side1 ?side2 A8.out).mono ?_
     (case side1 => repeat (first | exact (Kd.C_below HR4.out HB.out) | (with_reducible refine Kd.C_alloc ?_ _) | (with_reducible refine Kd.C_drewN ?_ _) | (with_reducible refine Kd.C_drew ?_)))
     (case side2 => exact HC4.out)
     rintro e w19 ⟨v227, rfl, ho0, hb⟩
     refine ⟨_, rfl, ?_⟩
     have n0_ := Aside0.mk (Kd.R_below (kR HO231.out) hb)
     have n1_ := Aside0.mk (Kd.R_below (kR HO225.out) hb)
     have n2_ := Aside0.mk (Kd.S_lower (Kd.S_new' (Kd.S_new' ho0 (Kd.R_lt (kR HO231.out))) (Kd.R_lt (kR HO225.out))) (below_size bB))
     have n3_ := Aside0.mk (blk_below (g := gb219) (o := .cells #[.int .i64 a0_0, .int .i64 a0_1, .int .i64 a0_2, .int .u64 a0_3, .int .u64 a0_4, .int .u64 a0_5] 24 (0, 0)) (kB BK219.out) hb)
     have n4_ := Aside0.mk (below_step bB hb)
     clear HO231
     clear HO225
     clear BK219
     clear HB
     have HO231 := n0_
     have HO225 := n1_
     have HO228 := n2_
     have BK219 := n3_
     have HB := n4_
     clear n0_ n1_ n2_ n3_ n4_
     (try clear hb)
     (try clear hb2)
     (try clear hk)
     (try clear hi)
     (try clear ho0)
     refine hK.out _ _ ⟨(blk_cell BK219.out 0).trans rfl, (blk_cell BK219.out 1).trans rfl, (blk_cell BK219.out 2).trans rfl, (blk_cell BK219.out 3).trans rfl, (blk_cell BK219.out 4).trans rfl, (blk_cell BK219.out 5).trans rfl⟩ (fun hHeld => ?_)
     clear hK K
     refine norm_ (a' := ?_) ?_ ?_
     rotate_left
     ·show Act.put _ (some 23) _ = _
      simp only [Act.put, List.setIfInBounds_toArray, List.set_cons_zero, List.set_cons_succ, i64_w, i32_w]
      rfl
     exact norm_ (by simp only [putAll, Act.put, List.setIfInBounds_toArray, List.set_cons_zero, List.set_cons_succ]) (hCont (v221, v224, v227, v230) _ ⟨hHeld, (kR HO225.out), (by (with_reducible repeat (first | apply Kd.S_alloc | apply Kd.S_drewN | apply Kd.S_drew)); exact Kd.S_mono HO228.out (fun _ hk => ⟨hk.2, hk.1.2⟩)), (by (with_reducible repeat (first | apply Kd.R_alloc | apply Kd.R_drewN | apply Kd.R_drew)); exact Kd.R_mono HO231.out (fun _ hk => hk.2)), (kB BK219.out), bB⟩)
   rintro ⟨v221, v224, v227, v230⟩ w20 ⟨hS_, h0_, h1_, h2_, h3_, h4_⟩
   have n0_ : Aside0 (Kd.R (Kd.int .u8) 5 w20 w.heap.size (fun k_ => some k_ ≠ (v230 : Value).ownBlock) v224 y223) := ⟨h0_⟩
   have n1_ : Aside0 (Kd.S (Kd.slice 5 (Kd.int .u8)) 27 w20 w.heap.size (fun k_ => some k_ ≠ (v224 : Value).ownBlock ∧ some k_ ≠ (v230 : Value).ownBlock) v227 t226) := ⟨h1_⟩
   have n2_ : Aside0 (Kd.R (Kd.int .u8) 5 w20 w.heap.size (fun k_ => some k_ ≠ (v224 : Value).ownBlock) v230 y229) := ⟨h2_⟩
   have n3_ : Aside0 (w20.heap[gb219]? = some (.cells #[.int .i64 a0_0, .int .i64 a0_1, .int .i64 a0_2, .int .u64 a0_3, .int .u64 a0_4, .int .u64 a0_5] 24 (0, 0))) := ⟨h3_⟩
   have n4_ : Aside0 (Below w.heap.size w w20) := ⟨h4_⟩
   clear BK219
   clear HB
   clear h0_ h1_ h2_ h3_ h4_
   have HO225 := n0_
   have HO228 := n1_
   have HO231 := n2_
   have BK219 := n3_
   have HB := n4_
   clear n0_ n1_ n2_ n3_ n4_
   have hHeld : w20.cell? ⟨gb219, 0, none⟩ = some (.int .i64 a0_0) ∧ w20.cell? ⟨gb219, 1, none⟩ = some (.int .i64 a0_1) ∧ w20.cell? ⟨gb219, 2, none⟩ = some (.int .i64 a0_2) ∧ w20.cell? ⟨gb219, 3, none⟩ = some (.int .u64 a0_3) ∧ w20.cell? ⟨gb219, 4, none⟩ = some (.int .u64 a0_4) ∧ w20.cell? ⟨gb219, 5, none⟩ = some (.int .u64 a0_5) := hS_
   refine norm_ (a' := ?_) ?_ ?_
   rotate_left
   ·simp only [putAll, Act.put, List.setIfInBounds_toArray, List.set_cons_zero, List.set_cons_succ]
    rfl
   refine one_ (i := 12) (N := some 26) #[true, true, true, true, true, true, true, true, true, true, true, true, true, false, false, false, false, false, false] rfl rfl (one_of HT_.out (by kernel_rfl)) (by decide) (fun K hK => ?_)
   refine Kd.R_append_rows_step (Kd.int .u8) (w0 := w) w.heap.size (by rfl) (.tmp 24) (.tmp 25) 27 5 (.int .u8 0) 1 rfl Tryd.underlying27 info5 rfl (by decide) (by omega) v230 y229 l5 _ _ _ (fun k_ => some k_ ≠ (v224 : Value).ownBlock) (fun _ => False) rfl rfl ?aO ?aR (fun _ _ h => h) (fun _ h => h.elim) ?aF ?aB ?aS ?aL ?_
   (case aR => repeat (first | exact (Kd.C_below HR5.out HB.out) | (with_reducible refine Kd.C_alloc ?_ _) | (with_reducible refine Kd.C_drewN ?_ _) | (with_reducible refine Kd.C_drew ?_)))
   (case aB => exact bB)
   (case aF => exact (fun k_ hk => Kd.fresh' (Kd.R_lt (kR HO225.out)) k_ hk))
   (case aO => exact (kR HO231.out))
   (case aS => exact (below_size bB))
   (case aL => have := LMc9.out; omega)
   intro v233 w21 ho hb hg hat
   rw [← Ny232.out] at ho
   have n0_ := Aside0.mk (blk_grown (g := gb219) (o := .cells #[.int .i64 a0_0, .int .i64 a0_1, .int .i64 a0_2, .int .u64 a0_3, .int .u64 a0_4, .int .u64 a0_5] 24 (0, 0)) (kB BK219.out) hg (Kd.R_ne HO231.out BK219.out (by decide)))
   have n1_ := Aside0.mk (Kd.R_after (ok := (fun _ => True)) (by (with_reducible repeat (first | apply Kd.R_alloc | apply Kd.R_drewN | apply Kd.R_drew)); exact Kd.R_mono HO225.out (fun _ hk => ⟨trivial, hk⟩)) hg hat)
   have n2_ := Aside0.mk (Kd.S_after (ok := (fun k_ => some k_ ≠ (v224 : Value).ownBlock)) (by (with_reducible repeat (first | apply Kd.S_alloc | apply Kd.S_drewN | apply Kd.S_drew)); exact HO228.out) hg hat)
   have n3_ := Aside0.mk (hb)
   have n4_ := Aside0.mk (ho)
   clear BK219
   clear HO225
   clear HO228
   clear HB
   clear HO231
   have BK219 := n0_
   have HO225 := n1_
   have HO228 := n2_
   have HB := n3_
   have HO234 := n4_
   clear n0_ n1_ n2_ n3_ n4_
   clear ho hb hg hat
   obtain ⟨Ao22, co22, eo22⟩ := Kd.R_slice HO225.out
   (first | subst eo22 | (injection eo22 with f1_ f2_ f3_; have f4_ := f1_.symm; have f5_ := f3_.symm; clear f1_ f2_ f3_; subst f4_; subst f5_))
   obtain ⟨Ao23, co23, eo23⟩ := Kd.S_slice HO228.out
   (first | subst eo23 | (injection eo23 with f1_ f2_ f3_; have f4_ := f1_.symm; have f5_ := f3_.symm; clear f1_ f2_ f3_; subst f4_; subst f5_))
   obtain ⟨Ao24, co24, eo24⟩ := Kd.R_slice HO234.out
   (first | subst eo24 | (injection eo24 with f1_ f2_ f3_; have f4_ := f1_.symm; have f5_ := f3_.symm; clear f1_ f2_ f3_; subst f4_; subst f5_))
   refine hK.out _ _ ⟨(blk_cell BK219.out 0).trans rfl, (blk_cell BK219.out 1).trans rfl, (blk_cell BK219.out 2).trans rfl, (blk_cell BK219.out 3).trans rfl, (blk_cell BK219.out 4).trans rfl, (blk_cell BK219.out 5).trans rfl⟩ (fun hHeld => ?_)
   clear hK K
   refine norm_ (a' := ?_) ?_ ?_
   rotate_left
   ·show Act.put _ (some 26) _ = _
    simp only [Act.put, List.setIfInBounds_toArray, List.set_cons_zero, List.set_cons_succ, i64_w, i32_w]
    rfl
   refine one_ (i := 13) (N := some 27) #[true, true, true, true, true, true, true, true, true, true, true, true, true, true, false, false, false, false, false] rfl rfl (one_of HT_.out (by kernel_rfl)) (by decide) (fun K hK => ?_)
   refine goes_ Tryd.func67 (by kernel_rfl) rfl #[.iface 85 (.agg #[.int .i64 a0_0, .int .i64 a0_1, .int .i64 a0_2, .int .u64 a0_3, .int .u64 a0_4, .int .u64 a0_5]), .int .u64 a1, .int .u64 a2, .slice Ao22 y223.length co22, .slice Ao23 t226.length co23, .slice Ao24 y232.length co24] (by rfl) rfl rfl aV ?_
   with_reducible refine (proof_VerifyInclusion.calls k a0_0 a0_1 a0_2 a0_3 a0_4 a0_5 a1 a2 (fun k_ => some k_ = (.slice Ao22 y223.length co22 : Value).ownBlock) _ _ y223 _ _ t226 (fun k_ => some k_ = (.slice Ao24 y232.length co24 : Value).ownBlock) _ _ y232 t235 t236 t239 t242 _ ?side1 ?side2 ?side3 ?side4 A10.out).mono ?_
   (case side1 => first | exact Kd.R_V (Kd.R_tight rfl (Kd.R_types (Kd.R_apart' (HO225.out) (Kd.S_typed HO228.out) (by decide)) BK219.out (by decide))) | exact Kd.V_mono Kd.R_V (Kd.R_tight rfl (Kd.R_types (Kd.R_apart' (HO225.out) (Kd.S_typed HO228.out) (by decide)) BK219.out (by decide))) (fun k_ h_ => by simp only [and_assoc] at h_ ⊢; exact h_))
   (case side2 => repeat (first | exact (Kd.S_reads' HO228.out).2.2 | (with_reducible refine Kd.C_alloc ?_ _) | (with_reducible refine Kd.C_drewN ?_ _) | (with_reducible refine Kd.C_drew ?_)))
   (case side3 => exact (Kd.S_reads' HO228.out).2.1)
   (case side4 => first | exact Kd.R_V (Kd.R_tight rfl (Kd.R_types (Kd.R_apart' (HO234.out) (Kd.S_typed HO228.out) (by decide)) BK219.out (by decide))) | exact Kd.V_mono Kd.R_V (Kd.R_tight rfl (Kd.R_types (Kd.R_apart' (HO234.out) (Kd.S_typed HO228.out) (by decide)) BK219.out (by decide))) (fun k_ h_ => by simp only [and_assoc] at h_ ⊢; exact h_))
   rintro e w25 ⟨v237, v240, v243, rfl, ho0, ho1, ho2, hb⟩
   refine ⟨_, rfl, ?_⟩
   have n0_ := Aside0.mk (Kd.R_below (kR HO225.out) hb)
   have n1_ := Aside0.mk (Kd.S_below (by (with_reducible repeat (first | apply Kd.S_alloc | apply Kd.S_drewN | apply Kd.S_drew)); exact HO228.out) hb)
   have n2_ := Aside0.mk (Kd.R_below (kR HO234.out) hb)
   have n3_ := Aside0.mk (Kd.V_lower (Kd.V_mono (ok' := fun k_ => some k_ ≠ (.slice Ao23 t226.length co23 : Value).ownBlock ∧ k_ ≠ gb219) ho0 (fun k_ hk_ => ⟨Or.elim hk_ (fun hs_ => Or.elim hs_ (fun hs_ => ((Kd.R_types (Kd.R_apart' (HO225.out) (Kd.S_typed HO228.out) (by decide)) BK219.out (by decide)).1 k_ hs_.symm).1.2) (fun hs_ => ((Kd.R_types (Kd.R_apart' (HO234.out) (Kd.S_typed HO228.out) (by decide)) BK219.out (by decide)).1 k_ hs_.symm).1.2)) (fun hn_ => (Kd.fresh' (Kd.S_lt (by (with_reducible repeat (first | apply Kd.S_alloc | apply Kd.S_drewN | apply Kd.S_drew)); exact HO228.out)) k_ hn_)), Or.elim hk_ (fun hs_ => Or.elim hs_ (fun hs_ => ((Kd.R_types (Kd.R_apart' (HO225.out) (Kd.S_typed HO228.out) (by decide)) BK219.out (by decide)).1 k_ hs_.symm).2) (fun hs_ => ((Kd.R_types (Kd.R_apart' (HO234.out) (Kd.S_typed HO228.out) (by decide)) BK219.out (by decide)).1 k_ hs_.symm).2)) (fun hn_ => (Kd.freshB (g := gb219) (o := .cells #[.int .i64 a0_0, .int .i64 a0_1, .int .i64 a0_2, .int .u64 a0_3, .int .u64 a0_4, .int .u64 a0_5] 24 (0, 0)) (kB BK219.out) k_ hn_))⟩)) (below_size bB))
   have n4_ := Aside0.mk (Kd.V_lower (Kd.V_mono (ok' := fun k_ => some k_ ≠ (.slice Ao23 t226.length co23 : Value).ownBlock ∧ k_ ≠ gb219) ho1 (fun k_ hk_ => ⟨Or.elim hk_ (fun hs_ => Or.elim hs_ (fun hs_ => ((Kd.R_types (Kd.R_apart' (HO225.out) (Kd.S_typed HO228.out) (by decide)) BK219.out (by decide)).1 k_ hs_.symm).1.2) (fun hs_ => ((Kd.R_types (Kd.R_apart' (HO234.out) (Kd.S_typed HO228.out) (by decide)) BK219.out (by decide)).1 k_ hs_.symm).1.2)) (fun hn_ => (Kd.fresh' (Kd.S_lt (by (with_reducible repeat (first | apply Kd.S_alloc | apply Kd.S_drewN | apply Kd.S_drew)); exact HO228.out)) k_ hn_)), Or.elim hk_ (fun hs_ => Or.elim hs_ (fun hs_ => ((Kd.R_types (Kd.R_apart' (HO225.out) (Kd.S_typed HO228.out) (by decide)) BK219.out (by decide)).1 k_ hs_.symm).2) (fun hs_ => ((Kd.R_types (Kd.R_apart' (HO234.out) (Kd.S_typed HO228.out) (by decide)) BK219.out (by decide)).1 k_ hs_.symm).2)) (fun hn_ => (Kd.freshB (g := gb219) (o := .cells #[.int .i64 a0_0, .int .i64 a0_1, .int .i64 a0_2, .int .u64 a0_3, .int .u64 a0_4, .int .u64 a0_5] 24 (0, 0)) (kB BK219.out) k_ hn_))⟩)) (below_size bB))
   have n5_ := Aside0.mk (Kd.V_lower (Kd.V_mono (ok' := fun k_ => some k_ ≠ (.slice Ao23 t226.length co23 : Value).ownBlock ∧ k_ ≠ gb219) ho2 (fun k_ hk_ => ⟨Or.elim hk_ (fun hs_ => Or.elim hs_ (fun hs_ => ((Kd.R_types (Kd.R_apart' (HO225.out) (Kd.S_typed HO228.out) (by decide)) BK219.out (by decide)).1 k_ hs_.symm).1.2) (fun hs_ => ((Kd.R_types (Kd.R_apart' (HO234.out) (Kd.S_typed HO228.out) (by decide)) BK219.out (by decide)).1 k_ hs_.symm).1.2)) (fun hn_ => (Kd.fresh' (Kd.S_lt (by (with_reducible repeat (first | apply Kd.S_alloc | apply Kd.S_drewN | apply Kd.S_drew)); exact HO228.out)) k_ hn_)), Or.elim hk_ (fun hs_ => Or.elim hs_ (fun hs_ => ((Kd.R_types (Kd.R_apart' (HO225.out) (Kd.S_typed HO228.out) (by decide)) BK219.out (by decide)).1 k_ hs_.symm).2) (fun hs_ => ((Kd.R_types (Kd.R_apart' (HO234.out) (Kd.S_typed HO228.out) (by decide)) BK219.out (by decide)).1 k_ hs_.symm).2)) (fun hn_ => (Kd.freshB (g := gb219) (o := .cells #[.int .i64 a0_0, .int .i64 a0_1, .int .i64 a0_2, .int .u64 a0_3, .int .u64 a0_4, .int .u64 a0_5] 24 (0, 0)) (kB BK219.out) k_ hn_))⟩)) (below_size bB))
   have n6_ := Aside0.mk (blk_below (g := gb219) (o := .cells #[.int .i64 a0_0, .int .i64 a0_1, .int .i64 a0_2, .int .u64 a0_3, .int .u64 a0_4, .int .u64 a0_5] 24 (0, 0)) (kB BK219.out) hb)
   have n7_ := Aside0.mk (below_step bB hb)
   clear HO225
   clear HO228
   clear HO234
   clear BK219
   clear HB
   have HO225 := n0_
   have HO228 := n1_
   have HO234 := n2_
   have HO238 := n3_
   have HO241 := n4_
   have HO244 := n5_
   have BK219 := n6_
   have HB := n7_
   clear n0_ n1_ n2_ n3_ n4_ n5_ n6_ n7_
   (try clear hb)
   (try clear hb2)
   (try clear hk)
   (try clear hi)
   (try clear ho0)
   (try clear ho1)
   (try clear ho2)
   obtain ⟨Ao26, co26, eo26⟩ := Kd.V_slice HO238.out
   (first | subst eo26 | (injection eo26 with f1_ f2_ f3_; have f4_ := f1_.symm; have f5_ := f3_.symm; clear f1_ f2_ f3_; subst f4_; subst f5_))
   obtain ⟨Ao27, co27, eo27⟩ := Kd.V_slice HO241.out
   (first | subst eo27 | (injection eo27 with f1_ f2_ f3_; have f4_ := f1_.symm; have f5_ := f3_.symm; clear f1_ f2_ f3_; subst f4_; subst f5_))
   obtain ⟨Ao28, co28, eo28⟩ := Kd.V_slice HO244.out
   (first | subst eo28 | (injection eo28 with f1_ f2_ f3_; have f4_ := f1_.symm; have f5_ := f3_.symm; clear f1_ f2_ f3_; subst f4_; subst f5_))
   refine hK.out _ _ ⟨(blk_cell BK219.out 0).trans rfl, (blk_cell BK219.out 1).trans rfl, (blk_cell BK219.out 2).trans rfl, (blk_cell BK219.out 3).trans rfl, (blk_cell BK219.out 4).trans rfl, (blk_cell BK219.out 5).trans rfl⟩ (fun hHeld => ?_)
   clear hK K
   refine norm_ (a' := ?_) ?_ ?_
   rotate_left
   ·show Act.put _ (some 27) _ = _
    simp only [Act.put, List.setIfInBounds_toArray, List.set_cons_zero, List.set_cons_succ, i64_w, i32_w]
    rfl
   refine one_ (i := 14) (N := some 28) #[true, true, true, true, true, true, true, true, true, true, true, true, true, true, true, false, false, false, false] rfl rfl (one_of HT_.out (by kernel_rfl)) (by decide) (fun K hK => ?_)
   refine goes_ Tryd.func48 (by kernel_rfl) rfl #[errVc #[.int .i64 t235, .slice Ao26 t236.length co26, .slice Ao27 t239.length co27, .slice Ao28 t242.length co28]] (by rfl) rfl rfl aV ?_
   with_reducible refine (impl_verdict.calls k t235 _ _ t236 _ _ t239 _ _ t242 t245 t246 _ ?side1 ?side2 ?side3 ?side4 ?side5 ?side6 A11.out).mono ?_
   (case side1 => repeat (first | exact (Kd.V_reads' HO238.out).2.2 | (with_reducible refine Kd.C_alloc ?_ _) | (with_reducible refine Kd.C_drewN ?_ _) | (with_reducible refine Kd.C_drew ?_)))
   (case side2 => exact (Kd.V_reads' HO238.out).2.1)
   (case side3 => repeat (first | exact (Kd.V_reads' HO241.out).2.2 | (with_reducible refine Kd.C_alloc ?_ _) | (with_reducible refine Kd.C_drewN ?_ _) | (with_reducible refine Kd.C_drew ?_)))
   (case side4 => exact (Kd.V_reads' HO241.out).2.1)
   (case side5 => repeat (first | exact (Kd.V_reads' HO244.out).2.2 | (with_reducible refine Kd.C_alloc ?_ _) | (with_reducible refine Kd.C_drewN ?_ _) | (with_reducible refine Kd.C_drew ?_)))
   (case side6 => exact (Kd.V_reads' HO244.out).2.1)
   rintro e w29 ⟨v247, rfl, ho0, hb⟩
   refine ⟨_, rfl, ?_⟩
   have n0_ := Aside0.mk (Kd.R_elder' (kR HO225.out) (Kd.R_base ho0) hb)
   have n1_ := Aside0.mk (Kd.S_elder' (by (with_reducible repeat (first | apply Kd.S_alloc | apply Kd.S_drewN | apply Kd.S_drew)); exact HO228.out) (Kd.R_base ho0) hb)
   have n2_ := Aside0.mk (Kd.R_elder' (kR HO234.out) (Kd.R_base ho0) hb)
   have n3_ := Aside0.mk (Kd.V_elder' (kV HO238.out) (Kd.R_base ho0) hb)
   have n4_ := Aside0.mk (Kd.V_elder' (kV HO241.out) (Kd.R_base ho0) hb)
   have n5_ := Aside0.mk (Kd.V_elder' (kV HO244.out) (Kd.R_base ho0) hb)
   have n6_ := Aside0.mk (Kd.R_lower (Kd.R_new' (Kd.R_new' ho0 (Kd.R_lt (kR HO225.out))) (Kd.R_lt (kR HO234.out))) (below_size bB))
   have n7_ := Aside0.mk (blk_below (g := gb219) (o := .cells #[.int .i64 a0_0, .int .i64 a0_1, .int .i64 a0_2, .int .u64 a0_3, .int .u64 a0_4, .int .u64 a0_5] 24 (0, 0)) (kB BK219.out) hb)
   have n8_ := Aside0.mk (below_step bB hb)
   clear HO225
   clear HO228
   clear HO234
   clear HO238
   clear HO241
   clear HO244
   clear BK219
   clear HB
   have HO225 := n0_
   have HO228 := n1_
   have HO234 := n2_
   have HO238 := n3_
   have HO241 := n4_
   have HO244 := n5_
   have HO248 := n6_
   have BK219 := n7_
   have HB := n8_
   clear n0_ n1_ n2_ n3_ n4_ n5_ n6_ n7_ n8_
   (try clear hb)
   (try clear hb2)
   (try clear hk)
   (try clear hi)
   (try clear ho0)
   refine hK.out _ _ ⟨(blk_cell BK219.out 0).trans rfl, (blk_cell BK219.out 1).trans rfl, (blk_cell BK219.out 2).trans rfl, (blk_cell BK219.out 3).trans rfl, (blk_cell BK219.out 4).trans rfl, (blk_cell BK219.out 5).trans rfl⟩ (fun hHeld => ?_)
   clear hK K
   refine norm_ (a' := ?_) ?_ ?_
   rotate_left
   ·show Act.put _ (some 28) _ = _
    simp only [Act.put, List.setIfInBounds_toArray, List.set_cons_zero, List.set_cons_succ, i64_w, i32_w]
    rfl
   refine pure_ (i := 15) (N := some 29) (v := ?_) (a' := ?_) #[true, true, true, true, true, true, true, true, true, true, true, true, true, true, true, true, false, false, false] rfl rfl (any_of HT_.out (by kernel_rfl)) (fun _ _ _ h => h) (Or.inl ⟨by rfl, ?_⟩) ?_ ?_
   rotate_left
   ·intro w'
    go_simp
    with_reducible rfl
   rotate_left
   ·simp only [Act.put, List.setIfInBounds_toArray, List.set_cons_zero, List.set_cons_succ, i64_w, i32_w]
    rfl
   refine pure_ (i := 16) (N := some 30) (v := ?_) (a' := ?_) #[true, true, true, true, true, true, true, true, true, true, true, true, true, true, true, true, true, false, false] rfl rfl (any_of HT_.out (by kernel_rfl)) (fun _ _ _ h => h) (Or.inl ⟨by rfl, ?_⟩) ?_ ?_
   rotate_left
   ·intro w'
    go_simp
    with_reducible rfl
   rotate_left
   ·simp only [Act.put, List.setIfInBounds_toArray, List.set_cons_zero, List.set_cons_succ, i64_w, i32_w]
    rfl
   refine pure_ (i := 17) (N := some 12) (v := ?_) (a' := ?_) #[true, true, true, true, true, true, true, true, true, true, true, true, true, true, true, true, true, true, false] rfl rfl (any_of HT_.out (by kernel_rfl)) (fun _ _ _ h => h) (Or.inl ⟨by rfl, ?_⟩) ?_ ?_
   rotate_left
   ·intro w'
    go_simp
    with_reducible rfl
   rotate_left
   ·simp only [Act.put, List.setIfInBounds_toArray, List.set_cons_zero, List.set_cons_succ, i64_w, i32_w]
    rfl
   refine pure_ (i := 18) (N := some 13) (v := ?_) (a' := ?_) #[true, true, true, true, true, true, true, true, true, true, true, true, true, true, true, true, true, true, true] rfl rfl (any_of HT_.out (by kernel_rfl)) (fun _ _ _ h => h) (Or.inl ⟨by rfl, ?_⟩) ?_ ?_
   rotate_left
   ·intro w'
    go_simp
    with_reducible rfl
   rotate_left
   ·simp only [Act.put, List.setIfInBounds_toArray, List.set_cons_zero, List.set_cons_succ, i64_w, i32_w]
    rfl
   refine done_ (done_of HT_.out (by kernel_rfl)) ?_
   try go_wp2
   go_ret2
   exact ⟨_, by first | rfl | (simp [errW_none, errW_some] <;> rfl) | (simp [*, errW_none, errW_some] <;> rfl), by (with_reducible repeat (first | apply Kd.R_alloc | apply Kd.R_drewN | apply Kd.R_drew)); exact Kd.R_mono HO248.out (fun _ hk => trivial), bB⟩
  ·rw [if_neg c9] at H
   exact absurd H (by simp)
 ·rw [if_neg c7] at H
  exact absurd H (by simp)


/-! ### spec_PathParts: function 68 -/
def spec_PathParts.f (k : Nat) (a0 : Int) (a1 : Int) : Option ((List (S57))) := (spec_pathIn.f k a0 0 a1).bind fun t352 => (some t352)
theorem spec_PathParts.mono : ∀ a0 a1 k, LeO (spec_PathParts.f k a0 a1) (spec_PathParts.f (k + 1) a0 a1) := by
 intro a0 a1 k
 unfold spec_PathParts.f
 repeat' first
   | (with_reducible exact spec_pathIn.mono _ _ _ _)
   | (with_reducible exact LeO.refl _)
   | (with_reducible exact LeO.none _)
   | (with_reducible refine LeO.ite ?_ ?_)
   | (with_reducible refine LeO.bind ?_ (fun _ => ?_))
   | exact spec_pathIn.mono _ _ _ _
   | exact LeO.none _
   | refine LeO.ite ?_ ?_
   | refine LeO.bind ?_ (fun _ => ?_)
set_option maxHeartbeats 8000000 in
set_option maxRecDepth 100000 in
theorem spec_PathParts.calls (k : Nat) (a0 : Int) (a1 : Int) (r : List (S57)) (w : World) (h : spec_PathParts.f k a0 a1 = some r) :
  Calls Tryd.prog 68 #[.int .u64 a0, .int .u64 a1] w fun e w' => ∃ v0_ : Value, e = .returned (v0_) ∧ Kd.R k57 57 w' w.heap.size (fun _ => True) v0_ r ∧ Below w.heap.size w w' := by
 have hu57 := Tryd.underlying57
 have HB := Aside0.mk (Below.refl w.heap.size w)
 have H : ((spec_pathIn.f k a0 0 a1).bind fun t352 => (some t352)) = some r := h
 clear h
 replace H := Option.bind_eq_some_iff.mp H
 obtain ⟨t352, A30, H⟩ := H
 replace H : (some t352) = some r := H
 have A3 := Aside0.mk A30
 clear A30
 obtain rfl := Option.some.inj H
 go_enter Tryd.func68, Tryd.ntmps68
 go_wp2_with (first | ((with_reducible refine gate_callee (f := 101) rfl ?_); refine goesL_ (some 8) rfl rfl Tryd.func101 (by kernel_rfl) rfl #[.int .u64 a0, .agg #[.int .u64 0, .int .u64 a1]] rfl aV ?_; (with_reducible refine (spec_pathIn.calls k a0 0 a1 t352 _ A3.out).mono ?_); rintro e w4 ⟨v353, rfl, ho0, hb⟩; refine ⟨_, rfl, ?_⟩; have n0_ := Aside0.mk (Kd.R_lower ho0 (below_size bB)); have n1_ := Aside0.mk (below_step bB hb); clear HB; have HO354 := n0_; have HB := n1_; clear n0_ n1_; (try clear hb); (try clear hb2); (try clear hk); (try clear hi); (try clear ho0)))
 go_ret
 exact ⟨_, by first | rfl | (simp [errW_none, errW_some] <;> rfl) | (simp [*, errW_none, errW_some] <;> rfl), by (with_reducible repeat (first | apply Kd.R_alloc | apply Kd.R_drewN | apply Kd.R_drew)); exact HO354.out, bB⟩

end Go.Proofs.YtkmdkmlgahfcpaaDoor.M

