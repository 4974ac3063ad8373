-- Written by a program of ours (wip/xp) out of the translation; Lean checks it.
import Derived.Test.YtkmdkmlgahfcpaaDoorSq
import Derived.Test.YtkmdkmlgahfcpaaDoorMm1
import Derived.Test.YtkmdkmlgahfcpaaDoorMm2
import Derived.Test.YtkmdkmlgahfcpaaDoorMm3
namespace Go.Proofs.YtkmdkmlgahfcpaaDoor.M
open Go.RowKit Go.Proofs.YtkmdkmlgahfcpaaDoorW.PrintWords Go.Proofs.YtkmdkmlgahfcpaaDoorW.PrintLast Go.Proofs.YtkmdkmlgahfcpaaDoorW.PrintMore
attribute [local go_sem] max2_int min2_int max_two min_two max_three min_three max_four min_four   -- for this text's walks alone
set_option linter.unusedVariables false
set_option linter.unusedSimpArgs false

/-! ### proof_VerifyConsistency: function 49 -/
def vcTail (k : Nat) (a0_0 a0_1 a0_2 a0_3 a0_4 a0_5 : Int) (seed : List Int) (rest : List (List Int)) (inn mask : Int) (l4 l5 : List Int) : Option (Int × List Int × List Int × List Int) :=
 (proof_chainInnerRight.f k a0_0 a0_1 a0_2 a0_3 a0_4 a0_5 seed (rest.take inn.toNat) mask).bind fun h1 => (proof_chainBorderRight.f k a0_0 a0_1 a0_2 a0_3 a0_4 a0_5 h1 (rest.drop inn.toNat)).bind fun h2 => (bytes_Equal.f h2 l4).bind fun t => if t = true then
  ((proof_chainInner.f k a0_0 a0_1 a0_2 a0_3 a0_4 a0_5 seed (rest.take inn.toNat) mask).bind fun h3 => (proof_chainBorderRight.f k a0_0 a0_1 a0_2 a0_3 a0_4 a0_5 h3 (rest.drop inn.toNat)).bind fun h4 => (bytes_Equal.f h4 l5).bind fun t2 => if t2 = true then some (0, [], [], []) else some (1, [], l5, h4))
 else some (1, [], l4, h2)
def proof_VerifyConsistency.f (k : Nat) (a0_0 a0_1 a0_2 a0_3 a0_4 a0_5 : Int) (a1 a2 : Int) (l3 : List (List Int)) (l4 l5 : List Int) : Option (Int × List Int × List Int × List Int) :=
 if a2 < a1 then some (2, [], [], []) else if a1 = a2 then (if 0 < l3.length then some (2, [], [], []) else (bytes_Equal.f l4 l5).bind fun t => if t = true then some (0, [], [], []) else some (1, [], l5, l4))
 else if a1 = 0 then (if 0 < l3.length then some (2, [], [], []) else some (0, [], [], []))
 else if l3.length = 0 then some (2, [], [], [])
 else (proof_decompInclProof.f (IntKind.u64.wrap (a1 - 1)) a2).bind fun d => (bits_TrailingZeros64.f a1).bind fun s =>
  if 0 ≤ s ∧ s ≤ d.1 ∧ d.1 ≤ 64 ∧ 0 ≤ d.2 ∧ d.2 ≤ 64 then
   (if a1 = shl .u64 1 s then (if (l3.length : Int) = d.1 - s + d.2 then vcTail k a0_0 a0_1 a0_2 a0_3 a0_4 a0_5 l4 l3 (d.1 - s) (shr .u64 (IntKind.u64.wrap (a1 - 1)) s) l4 l5 else some (2, [], [], []))
   else if (l3.length : Int) = 1 + (d.1 - s) + d.2 then vcTail k a0_0 a0_1 a0_2 a0_3 a0_4 a0_5 (l3.getD 0 []) (l3.drop 1) (d.1 - s) (shr .u64 (IntKind.u64.wrap (a1 - 1)) s) l4 l5 else some (2, [], [], []))
  else none
theorem vcTail.mono (a0_0 a0_1 a0_2 a0_3 a0_4 a0_5 : Int) (seed : List Int) (rest : List (List Int)) (inn mask : Int) (l4 l5 : List Int) (k : Nat) : LeO (vcTail k a0_0 a0_1 a0_2 a0_3 a0_4 a0_5 seed rest inn mask l4 l5) (vcTail (k + 1) a0_0 a0_1 a0_2 a0_3 a0_4 a0_5 seed rest inn mask l4 l5) := by
 unfold vcTail
 repeat' first
  | exact proof_chainInnerRight.mono _ _ _ _ _ _ _ _ _ _
  | exact proof_chainBorderRight.mono _ _ _ _ _ _ _ _ _
  | exact proof_chainInner.mono _ _ _ _ _ _ _ _ _ _
  | exact LeO.refl _
  | refine LeO.ite ?_ ?_
  | refine LeO.bind ?_ (fun _ => ?_)
theorem proof_VerifyConsistency.mono : ∀ a0_0 a0_1 a0_2 a0_3 a0_4 a0_5 a1 a2 l3 l4 l5 k, LeO (proof_VerifyConsistency.f k a0_0 a0_1 a0_2 a0_3 a0_4 a0_5 a1 a2 l3 l4 l5) (proof_VerifyConsistency.f (k + 1) a0_0 a0_1 a0_2 a0_3 a0_4 a0_5 a1 a2 l3 l4 l5) := by
 intro a0_0 a0_1 a0_2 a0_3 a0_4 a0_5 a1 a2 l3 l4 l5 k
 unfold proof_VerifyConsistency.f
 repeat' first
  | exact vcTail.mono _ _ _ _ _ _ _ _ _ _ _ _ _
  | exact LeO.refl _
  | refine LeO.ite ?_ ?_
  | refine LeO.bind ?_ (fun _ => ?_)
theorem vc_dummy (d : Kd Int) (e : Nat) (W : World) (base : Nat) (ok : Nat → Prop) (p : Option Addr) : Kd.V d e W base ok (.slice p 0 0) [] := ⟨p, 0, rfl, Nat.le_refl _, fun W' _ => ⟨rfl, by decide, fun h => absurd h (Nat.lt_irrefl _)⟩⟩
theorem vc_base {d : Kd Int} {e : Nat} {W : World} {b b' : Nat} {ok : Nat → Prop} {v : Value} {xs : List Int} (h : Kd.V d e W b ok v xs) : Kd.V d e W b' ok v xs := h
theorem vc_info : (Tryd.prog.info? 27).map (fun i => (i.zero, i.size, i.bytes)) = some (some (.slice none 0 0), 1, 24) := by kernel_rfl
theorem vc_from (A : Option Addr) (c : Nat) (l : List (List Int)) (j : Int) (hl : l.length ≤ c) (h0 : 0 ≤ j) (hj : j ≤ l.length) : ∃ A' c', (∀ W, (Instr.slice 25 (.slice A l.length c) (some (.int .i64 j)) none none).run Tryd.prog W = .ok (.slice A' (l.drop j.toNat).length c') W) ∧ (l.drop j.toNat).length ≤ c' ∧ (∀ w, Kd.C (Kd.slice 5 (Kd.int .u8)) w A l.length l → Kd.C (Kd.slice 5 (Kd.int .u8)) w A' (l.drop j.toNat).length (l.drop j.toNat)) := by
 obtain ⟨i0, hi, _, hsz, _⟩ := info_parts vc_info
 have h := cut_from (P := Tryd.prog) 25 27 .i64 Tryd.underlying25 hi 1 hsz A l.length c j h0 hj
 refine ⟨_, _, fun W => by rw [h W, List.length_drop], by rw [List.length_drop]; omega, fun w hC => ?_⟩
 exact Kd.C_drop hC (by omega) hl
theorem vc_to (A : Option Addr) (c : Nat) (l : List (List Int)) (j : Int) (hl : l.length ≤ c) (h0 : 0 ≤ j) (hj : j ≤ l.length) : (∀ W, (Instr.slice 25 (.slice A l.length c) none (some (.int .i64 j)) none).run Tryd.prog W = .ok (.slice A (l.take j.toNat).length c) W) ∧ (l.take j.toNat).length ≤ c ∧ (∀ w, Kd.C (Kd.slice 5 (Kd.int .u8)) w A l.length l → Kd.C (Kd.slice 5 (Kd.int .u8)) w A (l.take j.toNat).length (l.take j.toNat)) := by
 obtain ⟨i0, hi, _, hsz, _⟩ := info_parts vc_info
 have h := cut_to (P := Tryd.prog) 25 27 .i64 Tryd.underlying25 hi A l.length c j h0 hj hl
 refine ⟨fun W => ?_, by rw [List.length_take]; omega, fun w hC => Kd.C_take hC (by omega)⟩
 rw [h W, List.length_take, Nat.min_eq_left (by omega)]

set_option maxRecDepth 100000 in
set_option maxHeartbeats 2000000 in
theorem vc_e1 (k : Nat) (a0_0 a0_1 a0_2 a0_3 a0_4 a0_5 : Int) (a1 a2 : Int) (P3_ : Nat → Prop) (A3 : Option Addr) (c3 : Nat) (l3 : List (List Int)) (P4_ : Nat → Prop) (A4 : Option Addr) (c4 : Nat) (l4 : List Int) (P5_ : Nat → Prop) (A5 : Option Addr) (c5 : Nat) (l5 : List Int) (w : World) (hT : TabOK w) (hs3 : Kd.V (Kd.slice 5 (Kd.int .u8)) 27 w w.heap.size (fun k_ => P3_ k_) (.slice A3 l3.length c3) l3) (hs4 : Kd.V (Kd.int .u8) 5 w w.heap.size (fun k_ => P4_ k_) (.slice A4 l4.length c4) l4) (hs5 : Kd.V (Kd.int .u8) 5 w w.heap.size (fun k_ => P5_ k_) (.slice A5 l5.length c5) l5) (h1 : a2 < a1) :
  Calls Tryd.prog 49 #[.iface 85 (.agg #[.int .i64 a0_0, .int .i64 a0_1, .int .i64 a0_2, .int .u64 a0_3, .int .u64 a0_4, .int .u64 a0_5]), .int .u64 a1, .int .u64 a2, .slice A3 l3.length c3, .slice A4 l4.length c4, .slice A5 l5.length c5] w fun e w' => ∃ v0_ v1_ v2_ : Value, e = .returned (errVc #[.int .i64 2, v0_, v1_, v2_]) ∧ Kd.V (Kd.int .u8) 5 w' w.heap.size (fun k_ => ((P3_ k_ ∨ P4_ k_ ∨ P5_ k_) ∨ w.heap.size ≤ k_)) v0_ [] ∧ Kd.V (Kd.int .u8) 5 w' w.heap.size (fun k_ => ((P3_ k_ ∨ P4_ k_ ∨ P5_ k_) ∨ w.heap.size ≤ k_)) v1_ [] ∧ Kd.V (Kd.int .u8) 5 w' w.heap.size (fun k_ => ((P3_ k_ ∨ P4_ k_ ∨ P5_ k_) ∨ w.heap.size ≤ k_)) v2_ [] ∧ Below w.heap.size w w' := by
 have HT := Aside0.mk hT
 have HS3 := Aside0.mk hs3
 have HS4 := Aside0.mk hs4
 have HS5 := Aside0.mk hs5
 clear hT hs3 hs4 hs5
 go_enter Tryd.func49, Tryd.ntmps49
 go_wp2_with (go_at_call 80; (with_reducible refine (errors_New.calls _ (some 0) _ rfl).mono ?_); rintro e w1 ⟨T_, X_, rfl, hB⟩; have HB := Aside0.mk hB; clear hB; simp only [errW_some])
 go_ret
 exact ⟨.slice (ptrOf (X_ 0)) 0 0, .slice none 0 0, .slice none 0 0, rfl, vc_dummy _ _ _ _ _ _, vc_dummy _ _ _ _ _ _, vc_dummy _ _ _ _ _ _, HB.out⟩

set_option maxRecDepth 100000 in
set_option maxHeartbeats 2000000 in
theorem vc_e2 (k : Nat) (a0_0 a0_1 a0_2 a0_3 a0_4 a0_5 : Int) (a1 a2 : Int) (P3_ : Nat → Prop) (A3 : Option Addr) (c3 : Nat) (l3 : List (List Int)) (P4_ : Nat → Prop) (A4 : Option Addr) (c4 : Nat) (l4 : List Int) (P5_ : Nat → Prop) (A5 : Option Addr) (c5 : Nat) (l5 : List Int) (w : World) (hT : TabOK w) (hs3 : Kd.V (Kd.slice 5 (Kd.int .u8)) 27 w w.heap.size (fun k_ => P3_ k_) (.slice A3 l3.length c3) l3) (hs4 : Kd.V (Kd.int .u8) 5 w w.heap.size (fun k_ => P4_ k_) (.slice A4 l4.length c4) l4) (hs5 : Kd.V (Kd.int .u8) 5 w w.heap.size (fun k_ => P5_ k_) (.slice A5 l5.length c5) l5) (h1 : ¬ a2 < a1) (h2 : a1 = a2) (h3 : 0 < l3.length) :
  Calls Tryd.prog 49 #[.iface 85 (.agg #[.int .i64 a0_0, .int .i64 a0_1, .int .i64 a0_2, .int .u64 a0_3, .int .u64 a0_4, .int .u64 a0_5]), .int .u64 a1, .int .u64 a2, .slice A3 l3.length c3, .slice A4 l4.length c4, .slice A5 l5.length c5] w fun e w' => ∃ v0_ v1_ v2_ : Value, e = .returned (errVc #[.int .i64 2, v0_, v1_, v2_]) ∧ Kd.V (Kd.int .u8) 5 w' w.heap.size (fun k_ => ((P3_ k_ ∨ P4_ k_ ∨ P5_ k_) ∨ w.heap.size ≤ k_)) v0_ [] ∧ Kd.V (Kd.int .u8) 5 w' w.heap.size (fun k_ => ((P3_ k_ ∨ P4_ k_ ∨ P5_ k_) ∨ w.heap.size ≤ k_)) v1_ [] ∧ Kd.V (Kd.int .u8) 5 w' w.heap.size (fun k_ => ((P3_ k_ ∨ P4_ k_ ∨ P5_ k_) ∨ w.heap.size ≤ k_)) v2_ [] ∧ Below w.heap.size w w' := by
 have HT := Aside0.mk hT
 have HS3 := Aside0.mk hs3
 have HS4 := Aside0.mk hs4
 have HS5 := Aside0.mk hs5
 clear hT hs3 hs4 hs5
 have b1 : decide (a2 < a1) = false := decide_eq_false h1
 subst h2
 have b2 : (a1 == a1) = true := beq_self_eq_true _
 have b3 : decide ((l3.length : Int) > 0) = true := decide_eq_true (by omega)
 have b4 : (0 : Int) < (l3.length : Int) := by omega
 go_enter Tryd.func49, Tryd.ntmps49
 go_wp2_with (go_at_call 80; (with_reducible refine (errors_New.calls _ (some 0) _ rfl).mono ?_); rintro e w1 ⟨T_, X_, rfl, hB⟩; have HB := Aside0.mk hB; clear hB; simp only [errW_some])
 go_ret
 exact ⟨.slice (ptrOf (X_ 0)) 0 0, .slice none 0 0, .slice none 0 0, rfl, vc_dummy _ _ _ _ _ _, vc_dummy _ _ _ _ _ _, vc_dummy _ _ _ _ _ _, HB.out⟩

set_option maxRecDepth 100000 in
set_option maxHeartbeats 2000000 in
theorem vc_e3 (k : Nat) (a0_0 a0_1 a0_2 a0_3 a0_4 a0_5 : Int) (a1 a2 : Int) (P3_ : Nat → Prop) (A3 : Option Addr) (c3 : Nat) (l3 : List (List Int)) (P4_ : Nat → Prop) (A4 : Option Addr) (c4 : Nat) (l4 : List Int) (P5_ : Nat → Prop) (A5 : Option Addr) (c5 : Nat) (l5 : List Int) (w : World) (hT : TabOK w) (hs3 : Kd.V (Kd.slice 5 (Kd.int .u8)) 27 w w.heap.size (fun k_ => P3_ k_) (.slice A3 l3.length c3) l3) (hs4 : Kd.V (Kd.int .u8) 5 w w.heap.size (fun k_ => P4_ k_) (.slice A4 l4.length c4) l4) (hs5 : Kd.V (Kd.int .u8) 5 w w.heap.size (fun k_ => P5_ k_) (.slice A5 l5.length c5) l5) (h1 : ¬ a2 < a1) (h2 : ¬ a1 = a2) (h3 : a1 = 0) (h4 : 0 < l3.length) :
  Calls Tryd.prog 49 #[.iface 85 (.agg #[.int .i64 a0_0, .int .i64 a0_1, .int .i64 a0_2, .int .u64 a0_3, .int .u64 a0_4, .int .u64 a0_5]), .int .u64 a1, .int .u64 a2, .slice A3 l3.length c3, .slice A4 l4.length c4, .slice A5 l5.length c5] w fun e w' => ∃ v0_ v1_ v2_ : Value, e = .returned (errVc #[.int .i64 2, v0_, v1_, v2_]) ∧ Kd.V (Kd.int .u8) 5 w' w.heap.size (fun k_ => ((P3_ k_ ∨ P4_ k_ ∨ P5_ k_) ∨ w.heap.size ≤ k_)) v0_ [] ∧ Kd.V (Kd.int .u8) 5 w' w.heap.size (fun k_ => ((P3_ k_ ∨ P4_ k_ ∨ P5_ k_) ∨ w.heap.size ≤ k_)) v1_ [] ∧ Kd.V (Kd.int .u8) 5 w' w.heap.size (fun k_ => ((P3_ k_ ∨ P4_ k_ ∨ P5_ k_) ∨ w.heap.size ≤ k_)) v2_ [] ∧ Below w.heap.size w w' := by
 have HT := Aside0.mk hT
 have HS3 := Aside0.mk hs3
 have HS4 := Aside0.mk hs4
 have HS5 := Aside0.mk hs5
 clear hT hs3 hs4 hs5
 have b1 : decide (a2 < a1) = false := decide_eq_false h1
 have b2 : (a1 == a2) = false := beq_eq_false_iff_ne.mpr h2
 subst h3
 have b5 : decide ((l3.length : Int) > 0) = true := decide_eq_true (by omega)
 have b4 : (0 : Int) < (l3.length : Int) := by omega
 go_enter Tryd.func49, Tryd.ntmps49
 go_wp2_with (go_at_call 80; (with_reducible refine (errors_New.calls _ (some 0) _ rfl).mono ?_); rintro e w1 ⟨T_, X_, rfl, hB⟩; have HB := Aside0.mk hB; clear hB; simp only [errW_some])
 go_ret
 exact ⟨.slice (ptrOf (X_ 0)) 0 0, .slice none 0 0, .slice none 0 0, rfl, vc_dummy _ _ _ _ _ _, vc_dummy _ _ _ _ _ _, vc_dummy _ _ _ _ _ _, HB.out⟩

set_option maxRecDepth 100000 in
set_option maxHeartbeats 2000000 in
theorem vc_e4 (k : Nat) (a0_0 a0_1 a0_2 a0_3 a0_4 a0_5 : Int) (a1 a2 : Int) (P3_ : Nat → Prop) (A3 : Option Addr) (c3 : Nat) (l3 : List (List Int)) (P4_ : Nat → Prop) (A4 : Option Addr) (c4 : Nat) (l4 : List Int) (P5_ : Nat → Prop) (A5 : Option Addr) (c5 : Nat) (l5 : List Int) (w : World) (hT : TabOK w) (hs3 : Kd.V (Kd.slice 5 (Kd.int .u8)) 27 w w.heap.size (fun k_ => P3_ k_) (.slice A3 l3.length c3) l3) (hs4 : Kd.V (Kd.int .u8) 5 w w.heap.size (fun k_ => P4_ k_) (.slice A4 l4.length c4) l4) (hs5 : Kd.V (Kd.int .u8) 5 w w.heap.size (fun k_ => P5_ k_) (.slice A5 l5.length c5) l5) (h1 : ¬ a2 < a1) (h2 : ¬ a1 = a2) (h3 : ¬ a1 = 0) (h4 : l3.length = 0) :
  Calls Tryd.prog 49 #[.iface 85 (.agg #[.int .i64 a0_0, .int .i64 a0_1, .int .i64 a0_2, .int .u64 a0_3, .int .u64 a0_4, .int .u64 a0_5]), .int .u64 a1, .int .u64 a2, .slice A3 l3.length c3, .slice A4 l4.length c4, .slice A5 l5.length c5] w fun e w' => ∃ v0_ v1_ v2_ : Value, e = .returned (errVc #[.int .i64 2, v0_, v1_, v2_]) ∧ Kd.V (Kd.int .u8) 5 w' w.heap.size (fun k_ => ((P3_ k_ ∨ P4_ k_ ∨ P5_ k_) ∨ w.heap.size ≤ k_)) v0_ [] ∧ Kd.V (Kd.int .u8) 5 w' w.heap.size (fun k_ => ((P3_ k_ ∨ P4_ k_ ∨ P5_ k_) ∨ w.heap.size ≤ k_)) v1_ [] ∧ Kd.V (Kd.int .u8) 5 w' w.heap.size (fun k_ => ((P3_ k_ ∨ P4_ k_ ∨ P5_ k_) ∨ w.heap.size ≤ k_)) v2_ [] ∧ Below w.heap.size w w' := by
 have HT := Aside0.mk hT
 have HS3 := Aside0.mk hs3
 have HS4 := Aside0.mk hs4
 have HS5 := Aside0.mk hs5
 clear hT hs3 hs4 hs5
 have b1 : decide (a2 < a1) = false := decide_eq_false h1
 have b2 : (a1 == a2) = false := beq_eq_false_iff_ne.mpr h2
 have b3 : (a1 == 0) = false := beq_eq_false_iff_ne.mpr h3
 have b5 : ((l3.length : Int) == 0) = true := beq_iff_eq.mpr (by omega)
 go_enter Tryd.func49, Tryd.ntmps49
 go_wp2_with (go_at_call 80; (with_reducible refine (errors_New.calls _ (some 0) _ rfl).mono ?_); rintro e w1 ⟨T_, X_, rfl, hB⟩; have HB := Aside0.mk hB; clear hB; simp only [errW_some])
 go_ret
 exact ⟨.slice (ptrOf (X_ 0)) 0 0, .slice none 0 0, .slice none 0 0, rfl, vc_dummy _ _ _ _ _ _, vc_dummy _ _ _ _ _ _, vc_dummy _ _ _ _ _ _, HB.out⟩

set_option maxRecDepth 100000 in
set_option maxHeartbeats 2000000 in
theorem vc_eqsame (k : Nat) (a0_0 a0_1 a0_2 a0_3 a0_4 a0_5 : Int) (a1 a2 : Int) (P3_ : Nat → Prop) (A3 : Option Addr) (c3 : Nat) (l3 : List (List Int)) (P4_ : Nat → Prop) (A4 : Option Addr) (c4 : Nat) (l4 : List Int) (P5_ : Nat → Prop) (A5 : Option Addr) (c5 : Nat) (l5 : List Int) (w : World) (hT : TabOK w) (hs3 : Kd.V (Kd.slice 5 (Kd.int .u8)) 27 w w.heap.size (fun k_ => P3_ k_) (.slice A3 l3.length c3) l3) (hs4 : Kd.V (Kd.int .u8) 5 w w.heap.size (fun k_ => P4_ k_) (.slice A4 l4.length c4) l4) (hs5 : Kd.V (Kd.int .u8) 5 w w.heap.size (fun k_ => P5_ k_) (.slice A5 l5.length c5) l5) (h1 : ¬ a2 < a1) (h2 : a1 = a2) (h3 : ¬ 0 < l3.length) (ht : bytes_Equal.f l4 l5 = some true) :
  Calls Tryd.prog 49 #[.iface 85 (.agg #[.int .i64 a0_0, .int .i64 a0_1, .int .i64 a0_2, .int .u64 a0_3, .int .u64 a0_4, .int .u64 a0_5]), .int .u64 a1, .int .u64 a2, .slice A3 l3.length c3, .slice A4 l4.length c4, .slice A5 l5.length c5] w fun e w' => ∃ v0_ v1_ v2_ : Value, e = .returned (errVc #[.int .i64 0, v0_, v1_, v2_]) ∧ Kd.V (Kd.int .u8) 5 w' w.heap.size (fun k_ => ((P3_ k_ ∨ P4_ k_ ∨ P5_ k_) ∨ w.heap.size ≤ k_)) v0_ [] ∧ Kd.V (Kd.int .u8) 5 w' w.heap.size (fun k_ => ((P3_ k_ ∨ P4_ k_ ∨ P5_ k_) ∨ w.heap.size ≤ k_)) v1_ [] ∧ Kd.V (Kd.int .u8) 5 w' w.heap.size (fun k_ => ((P3_ k_ ∨ P4_ k_ ∨ P5_ k_) ∨ w.heap.size ≤ k_)) v2_ [] ∧ Below w.heap.size w w' := by
 have HT := Aside0.mk hT
 have HS3 := Aside0.mk hs3
 have HS4 := Aside0.mk hs4
 have HS5 := Aside0.mk hs5
 clear hT hs3 hs4 hs5
 have HTE := Aside0.mk ht
 clear ht
 have b1 : decide (a2 < a1) = false := decide_eq_false h1
 subst h2
 have b2 : (a1 == a1) = true := beq_self_eq_true _
 have b3 : decide ((l3.length : Int) > 0) = false := decide_eq_false (by omega)
 have b4 : ¬ (0 : Int) < (l3.length : Int) := by omega
 go_enter Tryd.func49, Tryd.ntmps49
 go_wp2_with (go_at_call 81; (with_reducible refine (proof_verifyMatch.same _ _ l4 _ _ l5 _ (Kd.V_reads' HS4.out).2.2 (Kd.V_reads' HS4.out).2.1 (Kd.V_reads' HS5.out).2.2 (Kd.V_reads' HS5.out).2.1 HTE.out).mono ?_); rintro e w2 ⟨rfl, hB2⟩; have HB2 := Aside0.mk hB2; clear hB2)
 go_ret
 exact ⟨.slice none 0 0, .slice none 0 0, .slice none 0 0, rfl, vc_dummy _ _ _ _ _ _, vc_dummy _ _ _ _ _ _, vc_dummy _ _ _ _ _ _, HB2.out⟩

set_option maxRecDepth 100000 in
set_option maxHeartbeats 2000000 in
theorem vc_eqdiff (k : Nat) (a0_0 a0_1 a0_2 a0_3 a0_4 a0_5 : Int) (a1 a2 : Int) (P3_ : Nat → Prop) (A3 : Option Addr) (c3 : Nat) (l3 : List (List Int)) (P4_ : Nat → Prop) (A4 : Option Addr) (c4 : Nat) (l4 : List Int) (P5_ : Nat → Prop) (A5 : Option Addr) (c5 : Nat) (l5 : List Int) (w : World) (hT : TabOK w) (hs3 : Kd.V (Kd.slice 5 (Kd.int .u8)) 27 w w.heap.size (fun k_ => P3_ k_) (.slice A3 l3.length c3) l3) (hs4 : Kd.V (Kd.int .u8) 5 w w.heap.size (fun k_ => P4_ k_) (.slice A4 l4.length c4) l4) (hs5 : Kd.V (Kd.int .u8) 5 w w.heap.size (fun k_ => P5_ k_) (.slice A5 l5.length c5) l5) (h1 : ¬ a2 < a1) (h2 : a1 = a2) (h3 : ¬ 0 < l3.length) (ht : bytes_Equal.f l4 l5 = some false) :
  Calls Tryd.prog 49 #[.iface 85 (.agg #[.int .i64 a0_0, .int .i64 a0_1, .int .i64 a0_2, .int .u64 a0_3, .int .u64 a0_4, .int .u64 a0_5]), .int .u64 a1, .int .u64 a2, .slice A3 l3.length c3, .slice A4 l4.length c4, .slice A5 l5.length c5] w fun e w' => ∃ v0_ v1_ v2_ : Value, e = .returned (errVc #[.int .i64 1, v0_, v1_, v2_]) ∧ Kd.V (Kd.int .u8) 5 w' w.heap.size (fun k_ => ((P3_ k_ ∨ P4_ k_ ∨ P5_ k_) ∨ w.heap.size ≤ k_)) v0_ [] ∧ Kd.V (Kd.int .u8) 5 w' w.heap.size (fun k_ => ((P3_ k_ ∨ P4_ k_ ∨ P5_ k_) ∨ w.heap.size ≤ k_)) v1_ l5 ∧ Kd.V (Kd.int .u8) 5 w' w.heap.size (fun k_ => ((P3_ k_ ∨ P4_ k_ ∨ P5_ k_) ∨ w.heap.size ≤ k_)) v2_ l4 ∧ Below w.heap.size w w' := by
 have HT := Aside0.mk hT
 have HS3 := Aside0.mk hs3
 have HS4 := Aside0.mk hs4
 have HS5 := Aside0.mk hs5
 clear hT hs3 hs4 hs5
 have HTE := Aside0.mk ht
 clear ht
 have b1 : decide (a2 < a1) = false := decide_eq_false h1
 subst h2
 have b2 : (a1 == a1) = true := beq_self_eq_true _
 have b3 : decide ((l3.length : Int) > 0) = false := decide_eq_false (by omega)
 have b4 : ¬ (0 : Int) < (l3.length : Int) := by omega
 go_enter Tryd.func49, Tryd.ntmps49
 go_wp2_with (go_at_call 81; (with_reducible refine (proof_verifyMatch.diff _ _ l4 _ _ l5 _ (Kd.V_reads' HS4.out).2.2 (Kd.V_reads' HS4.out).2.1 (Kd.V_reads' HS5.out).2.2 (Kd.V_reads' HS5.out).2.1 HTE.out).mono ?_); rintro e w2 ⟨rfl, hB2⟩; have HB2 := Aside0.mk hB2; clear hB2)
 go_ret
 exact ⟨.slice none 0 0, .slice A5 l5.length c5, .slice A4 l4.length c4, rfl, vc_dummy _ _ _ _ _ _, Kd.V_mono (Kd.V_below HS5.out HB2.out) (fun k_ h_ => .inl (.inr (.inr h_))), Kd.V_mono (Kd.V_below HS4.out HB2.out) (fun k_ h_ => .inl (.inr (.inl h_))), HB2.out⟩

set_option maxRecDepth 100000 in
set_option maxHeartbeats 2000000 in
theorem vc_zero (k : Nat) (a0_0 a0_1 a0_2 a0_3 a0_4 a0_5 : Int) (a1 a2 : Int) (P3_ : Nat → Prop) (A3 : Option Addr) (c3 : Nat) (l3 : List (List Int)) (P4_ : Nat → Prop) (A4 : Option Addr) (c4 : Nat) (l4 : List Int) (P5_ : Nat → Prop) (A5 : Option Addr) (c5 : Nat) (l5 : List Int) (w : World) (hT : TabOK w) (hs3 : Kd.V (Kd.slice 5 (Kd.int .u8)) 27 w w.heap.size (fun k_ => P3_ k_) (.slice A3 l3.length c3) l3) (hs4 : Kd.V (Kd.int .u8) 5 w w.heap.size (fun k_ => P4_ k_) (.slice A4 l4.length c4) l4) (hs5 : Kd.V (Kd.int .u8) 5 w w.heap.size (fun k_ => P5_ k_) (.slice A5 l5.length c5) l5) (h1 : ¬ a2 < a1) (h2 : ¬ a1 = a2) (h3 : a1 = 0) (h4 : ¬ 0 < l3.length) :
  Calls Tryd.prog 49 #[.iface 85 (.agg #[.int .i64 a0_0, .int .i64 a0_1, .int .i64 a0_2, .int .u64 a0_3, .int .u64 a0_4, .int .u64 a0_5]), .int .u64 a1, .int .u64 a2, .slice A3 l3.length c3, .slice A4 l4.length c4, .slice A5 l5.length c5] w fun e w' => ∃ v0_ v1_ v2_ : Value, e = .returned (errVc #[.int .i64 0, v0_, v1_, v2_]) ∧ Kd.V (Kd.int .u8) 5 w' w.heap.size (fun k_ => ((P3_ k_ ∨ P4_ k_ ∨ P5_ k_) ∨ w.heap.size ≤ k_)) v0_ [] ∧ Kd.V (Kd.int .u8) 5 w' w.heap.size (fun k_ => ((P3_ k_ ∨ P4_ k_ ∨ P5_ k_) ∨ w.heap.size ≤ k_)) v1_ [] ∧ Kd.V (Kd.int .u8) 5 w' w.heap.size (fun k_ => ((P3_ k_ ∨ P4_ k_ ∨ P5_ k_) ∨ w.heap.size ≤ k_)) v2_ [] ∧ Below w.heap.size w w' := by
 have HT := Aside0.mk hT
 have HS3 := Aside0.mk hs3
 have HS4 := Aside0.mk hs4
 have HS5 := Aside0.mk hs5
 clear hT hs3 hs4 hs5
 have b1 : decide (a2 < a1) = false := decide_eq_false h1
 have b2 : (a1 == a2) = false := beq_eq_false_iff_ne.mpr h2
 subst h3
 have b5 : decide ((l3.length : Int) > 0) = false := decide_eq_false (by omega)
 have b4 : ¬ (0 : Int) < (l3.length : Int) := by omega
 go_enter Tryd.func49, Tryd.ntmps49
 go_wp2
 go_ret
 exact ⟨.slice none 0 0, .slice none 0 0, .slice none 0 0, rfl, vc_dummy _ _ _ _ _ _, vc_dummy _ _ _ _ _ _, vc_dummy _ _ _ _ _ _, Below.refl _ _⟩

set_option maxRecDepth 100000 in
set_option maxHeartbeats 2000000 in
theorem vc_mp_len (k : Nat) (a0_0 a0_1 a0_2 a0_3 a0_4 a0_5 : Int) (a1 a2 : Int) (P3_ : Nat → Prop) (A3 : Option Addr) (c3 : Nat) (l3 : List (List Int)) (P4_ : Nat → Prop) (A4 : Option Addr) (c4 : Nat) (l4 : List Int) (P5_ : Nat → Prop) (A5 : Option Addr) (c5 : Nat) (l5 : List Int) (w : World) (hT : TabOK w) (hs3 : Kd.V (Kd.slice 5 (Kd.int .u8)) 27 w w.heap.size (fun k_ => P3_ k_) (.slice A3 l3.length c3) l3) (hs4 : Kd.V (Kd.int .u8) 5 w w.heap.size (fun k_ => P4_ k_) (.slice A4 l4.length c4) l4) (hs5 : Kd.V (Kd.int .u8) 5 w w.heap.size (fun k_ => P5_ k_) (.slice A5 l5.length c5) l5) (h1 : ¬ a2 < a1) (h2 : ¬ a1 = a2) (h3 : ¬ a1 = 0) (h4 : ¬ l3.length = 0) (d1 d2 s : Int) (hd : proof_decompInclProof.f (IntKind.u64.wrap (a1 - 1)) a2 = some (d1, d2)) (hs : bits_TrailingZeros64.f a1 = some s) (g1 : 0 ≤ s) (g2 : s ≤ d1) (g3 : d1 ≤ 64) (g4 : 0 ≤ d2) (g5 : d2 ≤ 64) (hp : a1 = shl .u64 1 s) (hl : ¬ (l3.length : Int) = d1 - s + d2) :
  Calls Tryd.prog 49 #[.iface 85 (.agg #[.int .i64 a0_0, .int .i64 a0_1, .int .i64 a0_2, .int .u64 a0_3, .int .u64 a0_4, .int .u64 a0_5]), .int .u64 a1, .int .u64 a2, .slice A3 l3.length c3, .slice A4 l4.length c4, .slice A5 l5.length c5] w fun e w' => ∃ v0_ v1_ v2_ : Value, e = .returned (errVc #[.int .i64 2, v0_, v1_, v2_]) ∧ Kd.V (Kd.int .u8) 5 w' w.heap.size (fun k_ => ((P3_ k_ ∨ P4_ k_ ∨ P5_ k_) ∨ w.heap.size ≤ k_)) v0_ [] ∧ Kd.V (Kd.int .u8) 5 w' w.heap.size (fun k_ => ((P3_ k_ ∨ P4_ k_ ∨ P5_ k_) ∨ w.heap.size ≤ k_)) v1_ [] ∧ Kd.V (Kd.int .u8) 5 w' w.heap.size (fun k_ => ((P3_ k_ ∨ P4_ k_ ∨ P5_ k_) ∨ w.heap.size ≤ k_)) v2_ [] ∧ Below w.heap.size w w' := by
 have HT := Aside0.mk hT
 have HS3 := Aside0.mk hs3
 have HS4 := Aside0.mk hs4
 have HS5 := Aside0.mk hs5
 clear hT hs3 hs4 hs5
 have b1 : decide (a2 < a1) = false := decide_eq_false h1
 have b2 : (a1 == a2) = false := beq_eq_false_iff_ne.mpr h2
 have b3 : (a1 == 0) = false := beq_eq_false_iff_ne.mpr h3
 have b5 : ((l3.length : Int) == 0) = false := beq_eq_false_iff_ne.mpr (by omega)
 obtain ⟨ad, hAd⟩ : ∃ ad, A3 = some ad := by
  obtain ⟨ad, _, _, e, _⟩ := at_L1 (Kd.V_reads' HS3.out).2.2 0 (by omega) (by omega)
  exact ⟨ad, e⟩
 subst hAd
 obtain ⟨cs, hcs, hFK, hcell⟩ := Kd.V_get HS3.out ([] : List Int) 0 (by omega) (by omega)
 obtain ⟨A0, c0, rfl, hc0, hF0⟩ := Kd.FK_slice_open hFK
 have hS0 : Kd.V (Kd.int .u8) 5 w w.heap.size (fun k_ => P3_ k_) (.slice A0 (l3.getD 0 []).length c0) (l3.getD 0 []) := Kd.V_mk hc0 hF0
 have ecell : w.cell? ad = some (.slice A0 (l3.getD 0 []).length c0) := by
  have e := hcell 0 _ rfl
  rwa [show ad.add ((0 : Int).toNat * (Kd.slice 5 (Kd.int .u8)).sz + 0) = ad from by cases ad; rfl] at e
 have bN : 0 < l3.length := by omega
 clear hcell hcs hFK hF0 hc0
 have HS0 := Aside0.mk hS0
 clear hS0
 generalize hx0 : l3.getD 0 [] = x0 at HS0 ecell
 obtain ⟨m, hm⟩ : ∃ m, IntKind.u64.wrap (a1 - 1) = m := ⟨_, rfl⟩
 rw [hm] at hd
 obtain ⟨mk, hmk⟩ : ∃ mk, shr .u64 m s = mk := ⟨_, rfl⟩
 have hmkz : m / 2 ^ s.toNat = mk := shr_small hmk (by show s ≤ 64; omega)
 obtain ⟨pw, hpw⟩ : ∃ pw, shl .u64 1 s = pw := ⟨_, rfl⟩
 have hpwz : IntKind.u64.wrap (2 ^ s.toNat) = pw := by have h := shl_small hpw (by show s ≤ 64; omega); rwa [Int.one_mul] at h
 rw [hpw] at hp
 have bp : (a1 == pw) = true := beq_iff_eq.mpr hp
 clear hp
 obtain ⟨inn, hin⟩ : ∃ inn, d1 - s = inn := ⟨_, rfl⟩
 have i0 : 0 ≤ inn := by omega
 have i1 : inn ≤ 64 := by omega
 have hinw : IntKind.i64.wrap (d1 - s) = inn := by rw [i64_w]; unfold wrap64; omega
 have bl : ((l3.length : Int) == inn + d2) = false := beq_eq_false_iff_ne.mpr (by omega)
 have bl2 : ((l3.length : Int) != inn + d2) = true := by rw [bne, bl]; rfl
 clear hl hin hx0
 have HD := Aside0.mk hd
 have HSZ := Aside0.mk hs
 clear hd hs h4
 go_enter Tryd.func49, Tryd.ntmps49
 go_wp2_with (first | (go_at_call 82; (with_reducible refine (proof_decompInclProof.calls m a2 d1 d2 _ HD.out).mono ?_); rintro e w' ⟨rfl, ⟨nd, rfl⟩⟩) | (go_at_call 83; (with_reducible refine (bits_TrailingZeros64.calls a1 s _ (TabOK.below HT.out (pw_below_drewN (Below.refl _ _) _)) HSZ.out).mono ?_); rintro e w' ⟨rfl, ⟨nd2, rfl⟩⟩; have HB := Aside0.mk (pw_below_drewN (pw_below_drewN (Below.refl w.heap.size w) nd) nd2); replace ecell := (HB.out.cell (World.block_lt_of_cell? w _ ecell)).trans ecell; generalize (w.drewN nd).drewN nd2 = w2 at HB ecell ⊢) | (go_at_call 80; (with_reducible refine (errors_New.calls _ (some 0) _ rfl).mono ?_); rintro e w1 ⟨T_, X_, rfl, hB⟩; have HB1 := Aside0.mk (below_step HB.out hB); clear hB; simp only [errW_some]))
 go_ret
 exact ⟨.slice (ptrOf (X_ 0)) 0 0, .slice none 0 0, .slice none 0 0, rfl, vc_dummy _ _ _ _ _ _, vc_dummy _ _ _ _ _ _, vc_dummy _ _ _ _ _ _, HB1.out⟩

set_option maxRecDepth 100000 in
set_option maxHeartbeats 2000000 in
theorem vc_mp_d1 (k : Nat) (a0_0 a0_1 a0_2 a0_3 a0_4 a0_5 : Int) (a1 a2 : Int) (P3_ : Nat → Prop) (A3 : Option Addr) (c3 : Nat) (l3 : List (List Int)) (P4_ : Nat → Prop) (A4 : Option Addr) (c4 : Nat) (l4 : List Int) (P5_ : Nat → Prop) (A5 : Option Addr) (c5 : Nat) (l5 : List Int) (w : World) (hT : TabOK w) (hs3 : Kd.V (Kd.slice 5 (Kd.int .u8)) 27 w w.heap.size (fun k_ => P3_ k_) (.slice A3 l3.length c3) l3) (hs4 : Kd.V (Kd.int .u8) 5 w w.heap.size (fun k_ => P4_ k_) (.slice A4 l4.length c4) l4) (hs5 : Kd.V (Kd.int .u8) 5 w w.heap.size (fun k_ => P5_ k_) (.slice A5 l5.length c5) l5) (h1 : ¬ a2 < a1) (h2 : ¬ a1 = a2) (h3 : ¬ a1 = 0) (h4 : ¬ l3.length = 0) (d1 d2 s : Int) (hd : proof_decompInclProof.f (IntKind.u64.wrap (a1 - 1)) a2 = some (d1, d2)) (hs : bits_TrailingZeros64.f a1 = some s) (g1 : 0 ≤ s) (g2 : s ≤ d1) (g3 : d1 ≤ 64) (g4 : 0 ≤ d2) (g5 : d2 ≤ 64) (hp : a1 = shl .u64 1 s) (hl : (l3.length : Int) = d1 - s + d2) (x1 x2 : List Int) (hx1 : proof_chainInnerRight.f k a0_0 a0_1 a0_2 a0_3 a0_4 a0_5 l4 (l3.take (d1 - s).toNat) (shr .u64 (IntKind.u64.wrap (a1 - 1)) s) = some x1) (hx2 : proof_chainBorderRight.f k a0_0 a0_1 a0_2 a0_3 a0_4 a0_5 x1 (l3.drop (d1 - s).toNat) = some x2) (hx3 : bytes_Equal.f x2 l4 = some false) :
  Calls Tryd.prog 49 #[.iface 85 (.agg #[.int .i64 a0_0, .int .i64 a0_1, .int .i64 a0_2, .int .u64 a0_3, .int .u64 a0_4, .int .u64 a0_5]), .int .u64 a1, .int .u64 a2, .slice A3 l3.length c3, .slice A4 l4.length c4, .slice A5 l5.length c5] w fun e w' => ∃ v0_ v1_ v2_ : Value, e = .returned (errVc #[.int .i64 1, v0_, v1_, v2_]) ∧ Kd.V (Kd.int .u8) 5 w' w.heap.size (fun k_ => ((P3_ k_ ∨ P4_ k_ ∨ P5_ k_) ∨ w.heap.size ≤ k_)) v0_ [] ∧ Kd.V (Kd.int .u8) 5 w' w.heap.size (fun k_ => ((P3_ k_ ∨ P4_ k_ ∨ P5_ k_) ∨ w.heap.size ≤ k_)) v1_ l4 ∧ Kd.V (Kd.int .u8) 5 w' w.heap.size (fun k_ => ((P3_ k_ ∨ P4_ k_ ∨ P5_ k_) ∨ w.heap.size ≤ k_)) v2_ x2 ∧ Below w.heap.size w w' := by
 have HT := Aside0.mk hT
 have HS3 := Aside0.mk hs3
 have HS4 := Aside0.mk hs4
 have HS5 := Aside0.mk hs5
 clear hT hs3 hs4 hs5
 have b1 : decide (a2 < a1) = false := decide_eq_false h1
 have b2 : (a1 == a2) = false := beq_eq_false_iff_ne.mpr h2
 have b3 : (a1 == 0) = false := beq_eq_false_iff_ne.mpr h3
 have b5 : ((l3.length : Int) == 0) = false := beq_eq_false_iff_ne.mpr (by omega)
 obtain ⟨ad, hAd⟩ : ∃ ad, A3 = some ad := by
  obtain ⟨ad, _, _, e, _⟩ := at_L1 (Kd.V_reads' HS3.out).2.2 0 (by omega) (by omega)
  exact ⟨ad, e⟩
 subst hAd
 obtain ⟨cs, hcs, hFK, hcell⟩ := Kd.V_get HS3.out ([] : List Int) 0 (by omega) (by omega)
 obtain ⟨A0, c0, rfl, hc0, hF0⟩ := Kd.FK_slice_open hFK
 have hS0 : Kd.V (Kd.int .u8) 5 w w.heap.size (fun k_ => P3_ k_) (.slice A0 (l3.getD 0 []).length c0) (l3.getD 0 []) := Kd.V_mk hc0 hF0
 have ecell : w.cell? ad = some (.slice A0 (l3.getD 0 []).length c0) := by
  have e := hcell 0 _ rfl
  rwa [show ad.add ((0 : Int).toNat * (Kd.slice 5 (Kd.int .u8)).sz + 0) = ad from by cases ad; rfl] at e
 have bN : 0 < l3.length := by omega
 clear hcell hcs hFK hF0 hc0
 have HS0 := Aside0.mk hS0
 clear hS0
 generalize hx0 : l3.getD 0 [] = x0 at HS0 ecell
 obtain ⟨m, hm⟩ : ∃ m, IntKind.u64.wrap (a1 - 1) = m := ⟨_, rfl⟩
 rw [hm] at hd
 obtain ⟨mk, hmk⟩ : ∃ mk, shr .u64 m s = mk := ⟨_, rfl⟩
 have hmkz : m / 2 ^ s.toNat = mk := shr_small hmk (by show s ≤ 64; omega)
 obtain ⟨pw, hpw⟩ : ∃ pw, shl .u64 1 s = pw := ⟨_, rfl⟩
 have hpwz : IntKind.u64.wrap (2 ^ s.toNat) = pw := by have h := shl_small hpw (by show s ≤ 64; omega); rwa [Int.one_mul] at h
 rw [hpw] at hp
 have bp : (a1 == pw) = true := beq_iff_eq.mpr hp
 clear hp
 obtain ⟨inn, hin⟩ : ∃ inn, d1 - s = inn := ⟨_, rfl⟩
 have i0 : 0 ≤ inn := by omega
 have i1 : inn ≤ 64 := by omega
 have hinw : IntKind.i64.wrap (d1 - s) = inn := by rw [i64_w]; unfold wrap64; omega
 have bl : ((l3.length : Int) == inn + d2) = true := beq_iff_eq.mpr (by omega)
 have bl2 : ((l3.length : Int) != inn + d2) = false := by rw [bne, bl]; rfl
 rw [hm, hmk, hin] at hx1
 rw [hin] at hx2
 obtain ⟨A6, c6, hcut, hc6, hC6⟩ := vc_from (some ad) c3 l3 0 (Kd.V_reads' HS3.out).2.1 (by omega) (by omega)
 obtain ⟨Rs, hRs⟩ : ∃ Rs, Rs = l3.drop (0 : Int).toNat := ⟨_, rfl⟩
 have hRl : Rs.length = l3.length - 0 := by rw [hRs]; simp
 rw [← hRs] at hcut hc6
 replace hC6 := hC6 w (Kd.V_reads' HS3.out).2.2
 rw [← hRs] at hC6
 obtain ⟨A7, c7, hcut7, hc7, hC7⟩ := vc_from A6 c6 Rs inn hc6 i0 (by omega)
 obtain ⟨hcut8, hc8, hC8⟩ := vc_to A6 c6 Rs inn hc6 i0 (by omega)
 replace hC7 := hC7 w hC6
 replace hC8 := hC8 w hC6
 have hx1 : proof_chainInnerRight.f k a0_0 a0_1 a0_2 a0_3 a0_4 a0_5 l4 (Rs.take inn.toNat) mk = some x1 := by rw [hRs]; exact hx1
 have hx2 : proof_chainBorderRight.f k a0_0 a0_1 a0_2 a0_3 a0_4 a0_5 x1 (Rs.drop inn.toNat) = some x2 := by rw [hRs]; exact hx2
 clear hx0 hRs hRl hl hC6 hc6 hin
 generalize Rs.drop inn.toNat = Rb at *
 generalize Rs.take inn.toNat = Ra at *
 have HC7 := Aside0.mk hC7
 clear hC7
 have HC8 := Aside0.mk hC8
 clear hC8
 have Hc7 := Aside0.mk hc7
 clear hc7
 have Hc8 := Aside0.mk hc8
 clear hc8
 have Hx1 := Aside0.mk hx1
 clear hx1
 have Hx2 := Aside0.mk hx2
 clear hx2
 have Hx3 := Aside0.mk hx3
 clear hx3
 have HD := Aside0.mk hd
 have HSZ := Aside0.mk hs
 clear hd hs h4
 go_enter Tryd.func49, Tryd.ntmps49
 go_wp2_with (first | (go_at_call 82; (with_reducible refine (proof_decompInclProof.calls m a2 d1 d2 _ HD.out).mono ?_); rintro e w' ⟨rfl, ⟨nd, rfl⟩⟩) | (go_at_call 83; (with_reducible refine (bits_TrailingZeros64.calls a1 s _ (TabOK.below HT.out (pw_below_drewN (Below.refl _ _) _)) HSZ.out).mono ?_); rintro e w' ⟨rfl, ⟨nd2, rfl⟩⟩; have HB := Aside0.mk (pw_below_drewN (pw_below_drewN (Below.refl w.heap.size w) nd) nd2); replace ecell := (HB.out.cell (World.block_lt_of_cell? w _ ecell)).trans ecell; generalize (w.drewN nd).drewN nd2 = w2 at HB ecell ⊢) | (go_at_call 84; (with_reducible refine (proof_chainInnerRight.calls k a0_0 a0_1 a0_2 a0_3 a0_4 a0_5 P4_ _ _ l4 _ _ Ra mk x1 _ (vc_base (Kd.V_below HS4.out HB.out)) (Kd.C_below HC8.out HB.out) Hc8.out Hx1.out).mono ?_); rintro e w3 ⟨v, rfl, ho, hB⟩; obtain ⟨Ao3, co3, rfl⟩ := Kd.V_slice ho; have HO3 := Aside0.mk ho; have HBL3 := Aside0.mk hB; have HB3 := Aside0.mk (below_step HB.out hB); clear ho hB) | (go_at_call 85; (with_reducible refine (proof_chainBorderRight.calls k a0_0 a0_1 a0_2 a0_3 a0_4 a0_5 (fun k_ => (P4_ k_ ∨ w2.heap.size ≤ k_)) _ _ x1 _ _ Rb x2 _ (vc_base HO3.out) (Kd.C_below HC7.out HB3.out) Hc7.out Hx2.out).mono ?_); rintro e w4 ⟨v, rfl, ho, hB⟩; obtain ⟨Ao4, co4, rfl⟩ := Kd.V_slice ho; have HO4 := Aside0.mk ho; have HBL4 := Aside0.mk hB; have HB4 := Aside0.mk (below_step HB3.out hB); clear ho hB) | (go_at_call 81; (with_reducible refine (proof_verifyMatch.diff _ _ x2 _ _ l4 _ (Kd.V_reads' HO4.out).2.2 (Kd.V_reads' HO4.out).2.1 (Kd.V_reads' (Kd.V_below HS4.out HB4.out)).2.2 (Kd.V_reads' HS4.out).2.1 Hx3.out).mono ?_); rintro e w5 ⟨rfl, hB2⟩; have HBL5 := Aside0.mk hB2; have HB5 := Aside0.mk (below_step HB4.out hB2); clear hB2))
 go_ret
 exact ⟨.slice none 0 0, .slice A4 l4.length c4, .slice Ao4 x2.length co4, rfl, vc_dummy _ _ _ _ _ _, Kd.V_mono (Kd.V_below HS4.out HB5.out) (fun k_ h_ => .inl (.inr (.inl h_))), Kd.V_mono (Kd.V_below HO4.out HBL5.out) (fun k_ h_ => Or.elim h_ (fun h_ => Or.elim h_ (fun h_ => .inl (.inr (.inl h_))) (fun h_ => .inr (Nat.le_trans HB.out.size h_))) (fun h_ => .inr (Nat.le_trans HB3.out.size h_))), HB5.out⟩

set_option maxRecDepth 100000 in
set_option maxHeartbeats 2000000 in
theorem vc_mp_d2 (k : Nat) (a0_0 a0_1 a0_2 a0_3 a0_4 a0_5 : Int) (a1 a2 : Int) (P3_ : Nat → Prop) (A3 : Option Addr) (c3 : Nat) (l3 : List (List Int)) (P4_ : Nat → Prop) (A4 : Option Addr) (c4 : Nat) (l4 : List Int) (P5_ : Nat → Prop) (A5 : Option Addr) (c5 : Nat) (l5 : List Int) (w : World) (hT : TabOK w) (hs3 : Kd.V (Kd.slice 5 (Kd.int .u8)) 27 w w.heap.size (fun k_ => P3_ k_) (.slice A3 l3.length c3) l3) (hs4 : Kd.V (Kd.int .u8) 5 w w.heap.size (fun k_ => P4_ k_) (.slice A4 l4.length c4) l4) (hs5 : Kd.V (Kd.int .u8) 5 w w.heap.size (fun k_ => P5_ k_) (.slice A5 l5.length c5) l5) (h1 : ¬ a2 < a1) (h2 : ¬ a1 = a2) (h3 : ¬ a1 = 0) (h4 : ¬ l3.length = 0) (d1 d2 s : Int) (hd : proof_decompInclProof.f (IntKind.u64.wrap (a1 - 1)) a2 = some (d1, d2)) (hs : bits_TrailingZeros64.f a1 = some s) (g1 : 0 ≤ s) (g2 : s ≤ d1) (g3 : d1 ≤ 64) (g4 : 0 ≤ d2) (g5 : d2 ≤ 64) (hp : a1 = shl .u64 1 s) (hl : (l3.length : Int) = d1 - s + d2) (x1 x2 : List Int) (hx1 : proof_chainInnerRight.f k a0_0 a0_1 a0_2 a0_3 a0_4 a0_5 l4 (l3.take (d1 - s).toNat) (shr .u64 (IntKind.u64.wrap (a1 - 1)) s) = some x1) (hx2 : proof_chainBorderRight.f k a0_0 a0_1 a0_2 a0_3 a0_4 a0_5 x1 (l3.drop (d1 - s).toNat) = some x2) (hx3 : bytes_Equal.f x2 l4 = some true) (x4 x5 : List Int) (hx4 : proof_chainInner.f k a0_0 a0_1 a0_2 a0_3 a0_4 a0_5 l4 (l3.take (d1 - s).toNat) (shr .u64 (IntKind.u64.wrap (a1 - 1)) s) = some x4) (hx5 : proof_chainBorderRight.f k a0_0 a0_1 a0_2 a0_3 a0_4 a0_5 x4 (l3.drop (d1 - s).toNat) = some x5) (hx6 : bytes_Equal.f x5 l5 = some false) :
  Calls Tryd.prog 49 #[.iface 85 (.agg #[.int .i64 a0_0, .int .i64 a0_1, .int .i64 a0_2, .int .u64 a0_3, .int .u64 a0_4, .int .u64 a0_5]), .int .u64 a1, .int .u64 a2, .slice A3 l3.length c3, .slice A4 l4.length c4, .slice A5 l5.length c5] w fun e w' => ∃ v0_ v1_ v2_ : Value, e = .returned (errVc #[.int .i64 1, v0_, v1_, v2_]) ∧ Kd.V (Kd.int .u8) 5 w' w.heap.size (fun k_ => ((P3_ k_ ∨ P4_ k_ ∨ P5_ k_) ∨ w.heap.size ≤ k_)) v0_ [] ∧ Kd.V (Kd.int .u8) 5 w' w.heap.size (fun k_ => ((P3_ k_ ∨ P4_ k_ ∨ P5_ k_) ∨ w.heap.size ≤ k_)) v1_ l5 ∧ Kd.V (Kd.int .u8) 5 w' w.heap.size (fun k_ => ((P3_ k_ ∨ P4_ k_ ∨ P5_ k_) ∨ w.heap.size ≤ k_)) v2_ x5 ∧ Below w.heap.size w w' := by
 have HT := Aside0.mk hT
 have HS3 := Aside0.mk hs3
 have HS4 := Aside0.mk hs4
 have HS5 := Aside0.mk hs5
 clear hT hs3 hs4 hs5
 have b1 : decide (a2 < a1) = false := decide_eq_false h1
 have b2 : (a1 == a2) = false := beq_eq_false_iff_ne.mpr h2
 have b3 : (a1 == 0) = false := beq_eq_false_iff_ne.mpr h3
 have b5 : ((l3.length : Int) == 0) = false := beq_eq_false_iff_ne.mpr (by omega)
 obtain ⟨ad, hAd⟩ : ∃ ad, A3 = some ad := by
  obtain ⟨ad, _, _, e, _⟩ := at_L1 (Kd.V_reads' HS3.out).2.2 0 (by omega) (by omega)
  exact ⟨ad, e⟩
 subst hAd
 obtain ⟨cs, hcs, hFK, hcell⟩ := Kd.V_get HS3.out ([] : List Int) 0 (by omega) (by omega)
 obtain ⟨A0, c0, rfl, hc0, hF0⟩ := Kd.FK_slice_open hFK
 have hS0 : Kd.V (Kd.int .u8) 5 w w.heap.size (fun k_ => P3_ k_) (.slice A0 (l3.getD 0 []).length c0) (l3.getD 0 []) := Kd.V_mk hc0 hF0
 have ecell : w.cell? ad = some (.slice A0 (l3.getD 0 []).length c0) := by
  have e := hcell 0 _ rfl
  rwa [show ad.add ((0 : Int).toNat * (Kd.slice 5 (Kd.int .u8)).sz + 0) = ad from by cases ad; rfl] at e
 have bN : 0 < l3.length := by omega
 clear hcell hcs hFK hF0 hc0
 have HS0 := Aside0.mk hS0
 clear hS0
 generalize hx0 : l3.getD 0 [] = x0 at HS0 ecell
 obtain ⟨m, hm⟩ : ∃ m, IntKind.u64.wrap (a1 - 1) = m := ⟨_, rfl⟩
 rw [hm] at hd
 obtain ⟨mk, hmk⟩ : ∃ mk, shr .u64 m s = mk := ⟨_, rfl⟩
 have hmkz : m / 2 ^ s.toNat = mk := shr_small hmk (by show s ≤ 64; omega)
 obtain ⟨pw, hpw⟩ : ∃ pw, shl .u64 1 s = pw := ⟨_, rfl⟩
 have hpwz : IntKind.u64.wrap (2 ^ s.toNat) = pw := by have h := shl_small hpw (by show s ≤ 64; omega); rwa [Int.one_mul] at h
 rw [hpw] at hp
 have bp : (a1 == pw) = true := beq_iff_eq.mpr hp
 clear hp
 obtain ⟨inn, hin⟩ : ∃ inn, d1 - s = inn := ⟨_, rfl⟩
 have i0 : 0 ≤ inn := by omega
 have i1 : inn ≤ 64 := by omega
 have hinw : IntKind.i64.wrap (d1 - s) = inn := by rw [i64_w]; unfold wrap64; omega
 have bl : ((l3.length : Int) == inn + d2) = true := beq_iff_eq.mpr (by omega)
 have bl2 : ((l3.length : Int) != inn + d2) = false := by rw [bne, bl]; rfl
 rw [hm, hmk, hin] at hx1
 rw [hin] at hx2
 obtain ⟨A6, c6, hcut, hc6, hC6⟩ := vc_from (some ad) c3 l3 0 (Kd.V_reads' HS3.out).2.1 (by omega) (by omega)
 obtain ⟨Rs, hRs⟩ : ∃ Rs, Rs = l3.drop (0 : Int).toNat := ⟨_, rfl⟩
 have hRl : Rs.length = l3.length - 0 := by rw [hRs]; simp
 rw [← hRs] at hcut hc6
 replace hC6 := hC6 w (Kd.V_reads' HS3.out).2.2
 rw [← hRs] at hC6
 obtain ⟨A7, c7, hcut7, hc7, hC7⟩ := vc_from A6 c6 Rs inn hc6 i0 (by omega)
 obtain ⟨hcut8, hc8, hC8⟩ := vc_to A6 c6 Rs inn hc6 i0 (by omega)
 replace hC7 := hC7 w hC6
 replace hC8 := hC8 w hC6
 have hx1 : proof_chainInnerRight.f k a0_0 a0_1 a0_2 a0_3 a0_4 a0_5 l4 (Rs.take inn.toNat) mk = some x1 := by rw [hRs]; exact hx1
 have hx2 : proof_chainBorderRight.f k a0_0 a0_1 a0_2 a0_3 a0_4 a0_5 x1 (Rs.drop inn.toNat) = some x2 := by rw [hRs]; exact hx2
 rw [hm, hmk, hin] at hx4
 rw [hin] at hx5
 have hx4 : proof_chainInner.f k a0_0 a0_1 a0_2 a0_3 a0_4 a0_5 l4 (Rs.take inn.toNat) mk = some x4 := by rw [hRs]; exact hx4
 have hx5 : proof_chainBorderRight.f k a0_0 a0_1 a0_2 a0_3 a0_4 a0_5 x4 (Rs.drop inn.toNat) = some x5 := by rw [hRs]; exact hx5
 clear hx0 hRs hRl hl hC6 hc6 hin
 generalize Rs.drop inn.toNat = Rb at *
 generalize Rs.take inn.toNat = Ra at *
 have HC7 := Aside0.mk hC7
 clear hC7
 have HC8 := Aside0.mk hC8
 clear hC8
 have Hc7 := Aside0.mk hc7
 clear hc7
 have Hc8 := Aside0.mk hc8
 clear hc8
 have Hx1 := Aside0.mk hx1
 clear hx1
 have Hx2 := Aside0.mk hx2
 clear hx2
 have Hx3 := Aside0.mk hx3
 clear hx3
 have Hx4 := Aside0.mk hx4
 clear hx4
 have Hx5 := Aside0.mk hx5
 clear hx5
 have Hx6 := Aside0.mk hx6
 clear hx6
 have HD := Aside0.mk hd
 have HSZ := Aside0.mk hs
 clear hd hs h4
 go_enter Tryd.func49, Tryd.ntmps49
 go_wp2_with (first | (go_at_call 82; (with_reducible refine (proof_decompInclProof.calls m a2 d1 d2 _ HD.out).mono ?_); rintro e w' ⟨rfl, ⟨nd, rfl⟩⟩) | (go_at_call 83; (with_reducible refine (bits_TrailingZeros64.calls a1 s _ (TabOK.below HT.out (pw_below_drewN (Below.refl _ _) _)) HSZ.out).mono ?_); rintro e w' ⟨rfl, ⟨nd2, rfl⟩⟩; have HB := Aside0.mk (pw_below_drewN (pw_below_drewN (Below.refl w.heap.size w) nd) nd2); replace ecell := (HB.out.cell (World.block_lt_of_cell? w _ ecell)).trans ecell; generalize (w.drewN nd).drewN nd2 = w2 at HB ecell ⊢) | (go_at_call 84; (with_reducible refine (proof_chainInnerRight.calls k a0_0 a0_1 a0_2 a0_3 a0_4 a0_5 P4_ _ _ l4 _ _ Ra mk x1 _ (vc_base (Kd.V_below HS4.out HB.out)) (Kd.C_below HC8.out HB.out) Hc8.out Hx1.out).mono ?_); rintro e w3 ⟨v, rfl, ho, hB⟩; obtain ⟨Ao3, co3, rfl⟩ := Kd.V_slice ho; have HO3 := Aside0.mk ho; have HBL3 := Aside0.mk hB; have HB3 := Aside0.mk (below_step HB.out hB); clear ho hB) | (go_at_call 85; (with_reducible refine (proof_chainBorderRight.calls k a0_0 a0_1 a0_2 a0_3 a0_4 a0_5 (fun k_ => (P4_ k_ ∨ w2.heap.size ≤ k_)) _ _ x1 _ _ Rb x2 _ (vc_base HO3.out) (Kd.C_below HC7.out HB3.out) Hc7.out Hx2.out).mono ?_); rintro e w4 ⟨v, rfl, ho, hB⟩; obtain ⟨Ao4, co4, rfl⟩ := Kd.V_slice ho; have HO4 := Aside0.mk ho; have HBL4 := Aside0.mk hB; have HB4 := Aside0.mk (below_step HB3.out hB); clear ho hB) | (go_at_call 81; (with_reducible refine (proof_verifyMatch.same _ _ x2 _ _ l4 _ (Kd.V_reads' HO4.out).2.2 (Kd.V_reads' HO4.out).2.1 (Kd.V_reads' (Kd.V_below HS4.out HB4.out)).2.2 (Kd.V_reads' HS4.out).2.1 Hx3.out).mono ?_); rintro e w5 ⟨rfl, hB2⟩; have HBL5 := Aside0.mk hB2; have HB5 := Aside0.mk (below_step HB4.out hB2); clear hB2) | (go_at_call 86; (with_reducible refine (proof_chainInner.calls k a0_0 a0_1 a0_2 a0_3 a0_4 a0_5 P4_ _ _ l4 _ _ Ra mk x4 _ (vc_base (Kd.V_below HS4.out HB5.out)) (Kd.C_below HC8.out HB5.out) Hc8.out Hx4.out).mono ?_); rintro e w6 ⟨v, rfl, ho, hB⟩; obtain ⟨Ao6, co6, rfl⟩ := Kd.V_slice ho; have HO6 := Aside0.mk ho; have HBL6 := Aside0.mk hB; have HB6 := Aside0.mk (below_step HB5.out hB); clear ho hB) | (go_at_call 85; (with_reducible refine (proof_chainBorderRight.calls k a0_0 a0_1 a0_2 a0_3 a0_4 a0_5 (fun k_ => (P4_ k_ ∨ w5.heap.size ≤ k_)) _ _ x4 _ _ Rb x5 _ (vc_base HO6.out) (Kd.C_below HC7.out HB6.out) Hc7.out Hx5.out).mono ?_); rintro e w7 ⟨v, rfl, ho, hB⟩; obtain ⟨Ao7, co7, rfl⟩ := Kd.V_slice ho; have HO7 := Aside0.mk ho; have HBL7 := Aside0.mk hB; have HB7 := Aside0.mk (below_step HB6.out hB); clear ho hB) | (go_at_call 81; (with_reducible refine (proof_verifyMatch.diff _ _ x5 _ _ l5 _ (Kd.V_reads' HO7.out).2.2 (Kd.V_reads' HO7.out).2.1 (Kd.V_reads' (Kd.V_below HS5.out HB7.out)).2.2 (Kd.V_reads' HS5.out).2.1 Hx6.out).mono ?_); rintro e w8 ⟨rfl, hB2⟩; have HBL8 := Aside0.mk hB2; have HB8 := Aside0.mk (below_step HB7.out hB2); clear hB2))
 go_ret
 exact ⟨.slice none 0 0, .slice A5 l5.length c5, .slice Ao7 x5.length co7, rfl, vc_dummy _ _ _ _ _ _, Kd.V_mono (Kd.V_below HS5.out HB8.out) (fun k_ h_ => .inl (.inr (.inr h_))), Kd.V_mono (Kd.V_below HO7.out HBL8.out) (fun k_ h_ => Or.elim h_ (fun h_ => Or.elim h_ (fun h_ => .inl (.inr (.inl h_))) (fun h_ => .inr (Nat.le_trans HB5.out.size h_))) (fun h_ => .inr (Nat.le_trans HB6.out.size h_))), HB8.out⟩

set_option maxRecDepth 100000 in
set_option maxHeartbeats 2000000 in
theorem vc_mp_ok (k : Nat) (a0_0 a0_1 a0_2 a0_3 a0_4 a0_5 : Int) (a1 a2 : Int) (P3_ : Nat → Prop) (A3 : Option Addr) (c3 : Nat) (l3 : List (List Int)) (P4_ : Nat → Prop) (A4 : Option Addr) (c4 : Nat) (l4 : List Int) (P5_ : Nat → Prop) (A5 : Option Addr) (c5 : Nat) (l5 : List Int) (w : World) (hT : TabOK w) (hs3 : Kd.V (Kd.slice 5 (Kd.int .u8)) 27 w w.heap.size (fun k_ => P3_ k_) (.slice A3 l3.length c3) l3) (hs4 : Kd.V (Kd.int .u8) 5 w w.heap.size (fun k_ => P4_ k_) (.slice A4 l4.length c4) l4) (hs5 : Kd.V (Kd.int .u8) 5 w w.heap.size (fun k_ => P5_ k_) (.slice A5 l5.length c5) l5) (h1 : ¬ a2 < a1) (h2 : ¬ a1 = a2) (h3 : ¬ a1 = 0) (h4 : ¬ l3.length = 0) (d1 d2 s : Int) (hd : proof_decompInclProof.f (IntKind.u64.wrap (a1 - 1)) a2 = some (d1, d2)) (hs : bits_TrailingZeros64.f a1 = some s) (g1 : 0 ≤ s) (g2 : s ≤ d1) (g3 : d1 ≤ 64) (g4 : 0 ≤ d2) (g5 : d2 ≤ 64) (hp : a1 = shl .u64 1 s) (hl : (l3.length : Int) = d1 - s + d2) (x1 x2 : List Int) (hx1 : proof_chainInnerRight.f k a0_0 a0_1 a0_2 a0_3 a0_4 a0_5 l4 (l3.take (d1 - s).toNat) (shr .u64 (IntKind.u64.wrap (a1 - 1)) s) = some x1) (hx2 : proof_chainBorderRight.f k a0_0 a0_1 a0_2 a0_3 a0_4 a0_5 x1 (l3.drop (d1 - s).toNat) = some x2) (hx3 : bytes_Equal.f x2 l4 = some true) (x4 x5 : List Int) (hx4 : proof_chainInner.f k a0_0 a0_1 a0_2 a0_3 a0_4 a0_5 l4 (l3.take (d1 - s).toNat) (shr .u64 (IntKind.u64.wrap (a1 - 1)) s) = some x4) (hx5 : proof_chainBorderRight.f k a0_0 a0_1 a0_2 a0_3 a0_4 a0_5 x4 (l3.drop (d1 - s).toNat) = some x5) (hx6 : bytes_Equal.f x5 l5 = some true) :
  Calls Tryd.prog 49 #[.iface 85 (.agg #[.int .i64 a0_0, .int .i64 a0_1, .int .i64 a0_2, .int .u64 a0_3, .int .u64 a0_4, .int .u64 a0_5]), .int .u64 a1, .int .u64 a2, .slice A3 l3.length c3, .slice A4 l4.length c4, .slice A5 l5.length c5] w fun e w' => ∃ v0_ v1_ v2_ : Value, e = .returned (errVc #[.int .i64 0, v0_, v1_, v2_]) ∧ Kd.V (Kd.int .u8) 5 w' w.heap.size (fun k_ => ((P3_ k_ ∨ P4_ k_ ∨ P5_ k_) ∨ w.heap.size ≤ k_)) v0_ [] ∧ Kd.V (Kd.int .u8) 5 w' w.heap.size (fun k_ => ((P3_ k_ ∨ P4_ k_ ∨ P5_ k_) ∨ w.heap.size ≤ k_)) v1_ [] ∧ Kd.V (Kd.int .u8) 5 w' w.heap.size (fun k_ => ((P3_ k_ ∨ P4_ k_ ∨ P5_ k_) ∨ w.heap.size ≤ k_)) v2_ [] ∧ Below w.heap.size w w' := by
 have HT := Aside0.mk hT
 have HS3 := Aside0.mk hs3
 have HS4 := Aside0.mk hs4
 have HS5 := Aside0.mk hs5
 clear hT hs3 hs4 hs5
 have b1 : decide (a2 < a1) = false := decide_eq_false h1
 have b2 : (a1 == a2) = false := beq_eq_false_iff_ne.mpr h2
 have b3 : (a1 == 0) = false := beq_eq_false_iff_ne.mpr h3
 have b5 : ((l3.length : Int) == 0) = false := beq_eq_false_iff_ne.mpr (by omega)
 obtain ⟨ad, hAd⟩ : ∃ ad, A3 = some ad := by
  obtain ⟨ad, _, _, e, _⟩ := at_L1 (Kd.V_reads' HS3.out).2.2 0 (by omega) (by omega)
  exact ⟨ad, e⟩
 subst hAd
 obtain ⟨cs, hcs, hFK, hcell⟩ := Kd.V_get HS3.out ([] : List Int) 0 (by omega) (by omega)
 obtain ⟨A0, c0, rfl, hc0, hF0⟩ := Kd.FK_slice_open hFK
 have hS0 : Kd.V (Kd.int .u8) 5 w w.heap.size (fun k_ => P3_ k_) (.slice A0 (l3.getD 0 []).length c0) (l3.getD 0 []) := Kd.V_mk hc0 hF0
 have ecell : w.cell? ad = some (.slice A0 (l3.getD 0 []).length c0) := by
  have e := hcell 0 _ rfl
  rwa [show ad.add ((0 : Int).toNat * (Kd.slice 5 (Kd.int .u8)).sz + 0) = ad from by cases ad; rfl] at e
 have bN : 0 < l3.length := by omega
 clear hcell hcs hFK hF0 hc0
 have HS0 := Aside0.mk hS0
 clear hS0
 generalize hx0 : l3.getD 0 [] = x0 at HS0 ecell
 obtain ⟨m, hm⟩ : ∃ m, IntKind.u64.wrap (a1 - 1) = m := ⟨_, rfl⟩
 rw [hm] at hd
 obtain ⟨mk, hmk⟩ : ∃ mk, shr .u64 m s = mk := ⟨_, rfl⟩
 have hmkz : m / 2 ^ s.toNat = mk := shr_small hmk (by show s ≤ 64; omega)
 obtain ⟨pw, hpw⟩ : ∃ pw, shl .u64 1 s = pw := ⟨_, rfl⟩
 have hpwz : IntKind.u64.wrap (2 ^ s.toNat) = pw := by have h := shl_small hpw (by show s ≤ 64; omega); rwa [Int.one_mul] at h
 rw [hpw] at hp
 have bp : (a1 == pw) = true := beq_iff_eq.mpr hp
 clear hp
 obtain ⟨inn, hin⟩ : ∃ inn, d1 - s = inn := ⟨_, rfl⟩
 have i0 : 0 ≤ inn := by omega
 have i1 : inn ≤ 64 := by omega
 have hinw : IntKind.i64.wrap (d1 - s) = inn := by rw [i64_w]; unfold wrap64; omega
 have bl : ((l3.length : Int) == inn + d2) = true := beq_iff_eq.mpr (by omega)
 have bl2 : ((l3.length : Int) != inn + d2) = false := by rw [bne, bl]; rfl
 rw [hm, hmk, hin] at hx1
 rw [hin] at hx2
 obtain ⟨A6, c6, hcut, hc6, hC6⟩ := vc_from (some ad) c3 l3 0 (Kd.V_reads' HS3.out).2.1 (by omega) (by omega)
 obtain ⟨Rs, hRs⟩ : ∃ Rs, Rs = l3.drop (0 : Int).toNat := ⟨_, rfl⟩
 have hRl : Rs.length = l3.length - 0 := by rw [hRs]; simp
 rw [← hRs] at hcut hc6
 replace hC6 := hC6 w (Kd.V_reads' HS3.out).2.2
 rw [← hRs] at hC6
 obtain ⟨A7, c7, hcut7, hc7, hC7⟩ := vc_from A6 c6 Rs inn hc6 i0 (by omega)
 obtain ⟨hcut8, hc8, hC8⟩ := vc_to A6 c6 Rs inn hc6 i0 (by omega)
 replace hC7 := hC7 w hC6
 replace hC8 := hC8 w hC6
 have hx1 : proof_chainInnerRight.f k a0_0 a0_1 a0_2 a0_3 a0_4 a0_5 l4 (Rs.take inn.toNat) mk = some x1 := by rw [hRs]; exact hx1
 have hx2 : proof_chainBorderRight.f k a0_0 a0_1 a0_2 a0_3 a0_4 a0_5 x1 (Rs.drop inn.toNat) = some x2 := by rw [hRs]; exact hx2
 rw [hm, hmk, hin] at hx4
 rw [hin] at hx5
 have hx4 : proof_chainInner.f k a0_0 a0_1 a0_2 a0_3 a0_4 a0_5 l4 (Rs.take inn.toNat) mk = some x4 := by rw [hRs]; exact hx4
 have hx5 : proof_chainBorderRight.f k a0_0 a0_1 a0_2 a0_3 a0_4 a0_5 x4 (Rs.drop inn.toNat) = some x5 := by rw [hRs]; exact hx5
 clear hx0 hRs hRl hl hC6 hc6 hin
 generalize Rs.drop inn.toNat = Rb at *
 generalize Rs.take inn.toNat = Ra at *
 have HC7 := Aside0.mk hC7
 clear hC7
 have HC8 := Aside0.mk hC8
 clear hC8
 have Hc7 := Aside0.mk hc7
 clear hc7
 have Hc8 := Aside0.mk hc8
 clear hc8
 have Hx1 := Aside0.mk hx1
 clear hx1
 have Hx2 := Aside0.mk hx2
 clear hx2
 have Hx3 := Aside0.mk hx3
 clear hx3
 have Hx4 := Aside0.mk hx4
 clear hx4
 have Hx5 := Aside0.mk hx5
 clear hx5
 have Hx6 := Aside0.mk hx6
 clear hx6
 have HD := Aside0.mk hd
 have HSZ := Aside0.mk hs
 clear hd hs h4
 go_enter Tryd.func49, Tryd.ntmps49
 go_wp2_with (first | (go_at_call 82; (with_reducible refine (proof_decompInclProof.calls m a2 d1 d2 _ HD.out).mono ?_); rintro e w' ⟨rfl, ⟨nd, rfl⟩⟩) | (go_at_call 83; (with_reducible refine (bits_TrailingZeros64.calls a1 s _ (TabOK.below HT.out (pw_below_drewN (Below.refl _ _) _)) HSZ.out).mono ?_); rintro e w' ⟨rfl, ⟨nd2, rfl⟩⟩; have HB := Aside0.mk (pw_below_drewN (pw_below_drewN (Below.refl w.heap.size w) nd) nd2); replace ecell := (HB.out.cell (World.block_lt_of_cell? w _ ecell)).trans ecell; generalize (w.drewN nd).drewN nd2 = w2 at HB ecell ⊢) | (go_at_call 84; (with_reducible refine (proof_chainInnerRight.calls k a0_0 a0_1 a0_2 a0_3 a0_4 a0_5 P4_ _ _ l4 _ _ Ra mk x1 _ (vc_base (Kd.V_below HS4.out HB.out)) (Kd.C_below HC8.out HB.out) Hc8.out Hx1.out).mono ?_); rintro e w3 ⟨v, rfl, ho, hB⟩; obtain ⟨Ao3, co3, rfl⟩ := Kd.V_slice ho; have HO3 := Aside0.mk ho; have HBL3 := Aside0.mk hB; have HB3 := Aside0.mk (below_step HB.out hB); clear ho hB) | (go_at_call 85; (with_reducible refine (proof_chainBorderRight.calls k a0_0 a0_1 a0_2 a0_3 a0_4 a0_5 (fun k_ => (P4_ k_ ∨ w2.heap.size ≤ k_)) _ _ x1 _ _ Rb x2 _ (vc_base HO3.out) (Kd.C_below HC7.out HB3.out) Hc7.out Hx2.out).mono ?_); rintro e w4 ⟨v, rfl, ho, hB⟩; obtain ⟨Ao4, co4, rfl⟩ := Kd.V_slice ho; have HO4 := Aside0.mk ho; have HBL4 := Aside0.mk hB; have HB4 := Aside0.mk (below_step HB3.out hB); clear ho hB) | (go_at_call 81; (with_reducible refine (proof_verifyMatch.same _ _ x2 _ _ l4 _ (Kd.V_reads' HO4.out).2.2 (Kd.V_reads' HO4.out).2.1 (Kd.V_reads' (Kd.V_below HS4.out HB4.out)).2.2 (Kd.V_reads' HS4.out).2.1 Hx3.out).mono ?_); rintro e w5 ⟨rfl, hB2⟩; have HBL5 := Aside0.mk hB2; have HB5 := Aside0.mk (below_step HB4.out hB2); clear hB2) | (go_at_call 86; (with_reducible refine (proof_chainInner.calls k a0_0 a0_1 a0_2 a0_3 a0_4 a0_5 P4_ _ _ l4 _ _ Ra mk x4 _ (vc_base (Kd.V_below HS4.out HB5.out)) (Kd.C_below HC8.out HB5.out) Hc8.out Hx4.out).mono ?_); rintro e w6 ⟨v, rfl, ho, hB⟩; obtain ⟨Ao6, co6, rfl⟩ := Kd.V_slice ho; have HO6 := Aside0.mk ho; have HBL6 := Aside0.mk hB; have HB6 := Aside0.mk (below_step HB5.out hB); clear ho hB) | (go_at_call 85; (with_reducible refine (proof_chainBorderRight.calls k a0_0 a0_1 a0_2 a0_3 a0_4 a0_5 (fun k_ => (P4_ k_ ∨ w5.heap.size ≤ k_)) _ _ x4 _ _ Rb x5 _ (vc_base HO6.out) (Kd.C_below HC7.out HB6.out) Hc7.out Hx5.out).mono ?_); rintro e w7 ⟨v, rfl, ho, hB⟩; obtain ⟨Ao7, co7, rfl⟩ := Kd.V_slice ho; have HO7 := Aside0.mk ho; have HBL7 := Aside0.mk hB; have HB7 := Aside0.mk (below_step HB6.out hB); clear ho hB) | (go_at_call 81; (with_reducible refine (proof_verifyMatch.same _ _ x5 _ _ l5 _ (Kd.V_reads' HO7.out).2.2 (Kd.V_reads' HO7.out).2.1 (Kd.V_reads' (Kd.V_below HS5.out HB7.out)).2.2 (Kd.V_reads' HS5.out).2.1 Hx6.out).mono ?_); rintro e w8 ⟨rfl, hB2⟩; have HBL8 := Aside0.mk hB2; have HB8 := Aside0.mk (below_step HB7.out hB2); clear hB2))
 go_ret
 exact ⟨.slice none 0 0, .slice none 0 0, .slice none 0 0, rfl, vc_dummy _ _ _ _ _ _, vc_dummy _ _ _ _ _ _, vc_dummy _ _ _ _ _ _, HB8.out⟩

set_option maxRecDepth 100000 in
set_option maxHeartbeats 2000000 in
theorem vc_mq_len (k : Nat) (a0_0 a0_1 a0_2 a0_3 a0_4 a0_5 : Int) (a1 a2 : Int) (P3_ : Nat → Prop) (A3 : Option Addr) (c3 : Nat) (l3 : List (List Int)) (P4_ : Nat → Prop) (A4 : Option Addr) (c4 : Nat) (l4 : List Int) (P5_ : Nat → Prop) (A5 : Option Addr) (c5 : Nat) (l5 : List Int) (w : World) (hT : TabOK w) (hs3 : Kd.V (Kd.slice 5 (Kd.int .u8)) 27 w w.heap.size (fun k_ => P3_ k_) (.slice A3 l3.length c3) l3) (hs4 : Kd.V (Kd.int .u8) 5 w w.heap.size (fun k_ => P4_ k_) (.slice A4 l4.length c4) l4) (hs5 : Kd.V (Kd.int .u8) 5 w w.heap.size (fun k_ => P5_ k_) (.slice A5 l5.length c5) l5) (h1 : ¬ a2 < a1) (h2 : ¬ a1 = a2) (h3 : ¬ a1 = 0) (h4 : ¬ l3.length = 0) (d1 d2 s : Int) (hd : proof_decompInclProof.f (IntKind.u64.wrap (a1 - 1)) a2 = some (d1, d2)) (hs : bits_TrailingZeros64.f a1 = some s) (g1 : 0 ≤ s) (g2 : s ≤ d1) (g3 : d1 ≤ 64) (g4 : 0 ≤ d2) (g5 : d2 ≤ 64) (hp : ¬ a1 = shl .u64 1 s) (hl : ¬ (l3.length : Int) = 1 + (d1 - s) + d2) :
  Calls Tryd.prog 49 #[.iface 85 (.agg #[.int .i64 a0_0, .int .i64 a0_1, .int .i64 a0_2, .int .u64 a0_3, .int .u64 a0_4, .int .u64 a0_5]), .int .u64 a1, .int .u64 a2, .slice A3 l3.length c3, .slice A4 l4.length c4, .slice A5 l5.length c5] w fun e w' => ∃ v0_ v1_ v2_ : Value, e = .returned (errVc #[.int .i64 2, v0_, v1_, v2_]) ∧ Kd.V (Kd.int .u8) 5 w' w.heap.size (fun k_ => ((P3_ k_ ∨ P4_ k_ ∨ P5_ k_) ∨ w.heap.size ≤ k_)) v0_ [] ∧ Kd.V (Kd.int .u8) 5 w' w.heap.size (fun k_ => ((P3_ k_ ∨ P4_ k_ ∨ P5_ k_) ∨ w.heap.size ≤ k_)) v1_ [] ∧ Kd.V (Kd.int .u8) 5 w' w.heap.size (fun k_ => ((P3_ k_ ∨ P4_ k_ ∨ P5_ k_) ∨ w.heap.size ≤ k_)) v2_ [] ∧ Below w.heap.size w w' := by
 have HT := Aside0.mk hT
 have HS3 := Aside0.mk hs3
 have HS4 := Aside0.mk hs4
 have HS5 := Aside0.mk hs5
 clear hT hs3 hs4 hs5
 have b1 : decide (a2 < a1) = false := decide_eq_false h1
 have b2 : (a1 == a2) = false := beq_eq_false_iff_ne.mpr h2
 have b3 : (a1 == 0) = false := beq_eq_false_iff_ne.mpr h3
 have b5 : ((l3.length : Int) == 0) = false := beq_eq_false_iff_ne.mpr (by omega)
 obtain ⟨ad, hAd⟩ : ∃ ad, A3 = some ad := by
  obtain ⟨ad, _, _, e, _⟩ := at_L1 (Kd.V_reads' HS3.out).2.2 0 (by omega) (by omega)
  exact ⟨ad, e⟩
 subst hAd
 obtain ⟨cs, hcs, hFK, hcell⟩ := Kd.V_get HS3.out ([] : List Int) 0 (by omega) (by omega)
 obtain ⟨A0, c0, rfl, hc0, hF0⟩ := Kd.FK_slice_open hFK
 have hS0 : Kd.V (Kd.int .u8) 5 w w.heap.size (fun k_ => P3_ k_) (.slice A0 (l3.getD 0 []).length c0) (l3.getD 0 []) := Kd.V_mk hc0 hF0
 have ecell : w.cell? ad = some (.slice A0 (l3.getD 0 []).length c0) := by
  have e := hcell 0 _ rfl
  rwa [show ad.add ((0 : Int).toNat * (Kd.slice 5 (Kd.int .u8)).sz + 0) = ad from by cases ad; rfl] at e
 have bN : 0 < l3.length := by omega
 clear hcell hcs hFK hF0 hc0
 have HS0 := Aside0.mk hS0
 clear hS0
 generalize hx0 : l3.getD 0 [] = x0 at HS0 ecell
 obtain ⟨m, hm⟩ : ∃ m, IntKind.u64.wrap (a1 - 1) = m := ⟨_, rfl⟩
 rw [hm] at hd
 obtain ⟨mk, hmk⟩ : ∃ mk, shr .u64 m s = mk := ⟨_, rfl⟩
 have hmkz : m / 2 ^ s.toNat = mk := shr_small hmk (by show s ≤ 64; omega)
 obtain ⟨pw, hpw⟩ : ∃ pw, shl .u64 1 s = pw := ⟨_, rfl⟩
 have hpwz : IntKind.u64.wrap (2 ^ s.toNat) = pw := by have h := shl_small hpw (by show s ≤ 64; omega); rwa [Int.one_mul] at h
 rw [hpw] at hp
 have bp : (a1 == pw) = false := beq_eq_false_iff_ne.mpr hp
 clear hp
 obtain ⟨inn, hin⟩ : ∃ inn, d1 - s = inn := ⟨_, rfl⟩
 have i0 : 0 ≤ inn := by omega
 have i1 : inn ≤ 64 := by omega
 have hinw : IntKind.i64.wrap (d1 - s) = inn := by rw [i64_w]; unfold wrap64; omega
 have bl : ((l3.length : Int) == 1 + inn + d2) = false := beq_eq_false_iff_ne.mpr (by omega)
 have bl2 : ((l3.length : Int) != 1 + inn + d2) = true := by rw [bne, bl]; rfl
 clear hl hin hx0
 have HD := Aside0.mk hd
 have HSZ := Aside0.mk hs
 clear hd hs h4
 go_enter Tryd.func49, Tryd.ntmps49
 go_wp2_with (first | (go_at_call 82; (with_reducible refine (proof_decompInclProof.calls m a2 d1 d2 _ HD.out).mono ?_); rintro e w' ⟨rfl, ⟨nd, rfl⟩⟩) | (go_at_call 83; (with_reducible refine (bits_TrailingZeros64.calls a1 s _ (TabOK.below HT.out (pw_below_drewN (Below.refl _ _) _)) HSZ.out).mono ?_); rintro e w' ⟨rfl, ⟨nd2, rfl⟩⟩; have HB := Aside0.mk (pw_below_drewN (pw_below_drewN (Below.refl w.heap.size w) nd) nd2); replace ecell := (HB.out.cell (World.block_lt_of_cell? w _ ecell)).trans ecell; generalize (w.drewN nd).drewN nd2 = w2 at HB ecell ⊢) | (go_at_call 80; (with_reducible refine (errors_New.calls _ (some 0) _ rfl).mono ?_); rintro e w1 ⟨T_, X_, rfl, hB⟩; have HB1 := Aside0.mk (below_step HB.out hB); clear hB; simp only [errW_some]))
 go_ret
 exact ⟨.slice (ptrOf (X_ 0)) 0 0, .slice none 0 0, .slice none 0 0, rfl, vc_dummy _ _ _ _ _ _, vc_dummy _ _ _ _ _ _, vc_dummy _ _ _ _ _ _, HB1.out⟩

set_option maxRecDepth 100000 in
set_option maxHeartbeats 2000000 in
theorem vc_mq_d1 (k : Nat) (a0_0 a0_1 a0_2 a0_3 a0_4 a0_5 : Int) (a1 a2 : Int) (P3_ : Nat → Prop) (A3 : Option Addr) (c3 : Nat) (l3 : List (List Int)) (P4_ : Nat → Prop) (A4 : Option Addr) (c4 : Nat) (l4 : List Int) (P5_ : Nat → Prop) (A5 : Option Addr) (c5 : Nat) (l5 : List Int) (w : World) (hT : TabOK w) (hs3 : Kd.V (Kd.slice 5 (Kd.int .u8)) 27 w w.heap.size (fun k_ => P3_ k_) (.slice A3 l3.length c3) l3) (hs4 : Kd.V (Kd.int .u8) 5 w w.heap.size (fun k_ => P4_ k_) (.slice A4 l4.length c4) l4) (hs5 : Kd.V (Kd.int .u8) 5 w w.heap.size (fun k_ => P5_ k_) (.slice A5 l5.length c5) l5) (h1 : ¬ a2 < a1) (h2 : ¬ a1 = a2) (h3 : ¬ a1 = 0) (h4 : ¬ l3.length = 0) (d1 d2 s : Int) (hd : proof_decompInclProof.f (IntKind.u64.wrap (a1 - 1)) a2 = some (d1, d2)) (hs : bits_TrailingZeros64.f a1 = some s) (g1 : 0 ≤ s) (g2 : s ≤ d1) (g3 : d1 ≤ 64) (g4 : 0 ≤ d2) (g5 : d2 ≤ 64) (hp : ¬ a1 = shl .u64 1 s) (hl : (l3.length : Int) = 1 + (d1 - s) + d2) (x1 x2 : List Int) (hx1 : proof_chainInnerRight.f k a0_0 a0_1 a0_2 a0_3 a0_4 a0_5 (l3.getD 0 []) ((l3.drop 1).take (d1 - s).toNat) (shr .u64 (IntKind.u64.wrap (a1 - 1)) s) = some x1) (hx2 : proof_chainBorderRight.f k a0_0 a0_1 a0_2 a0_3 a0_4 a0_5 x1 ((l3.drop 1).drop (d1 - s).toNat) = some x2) (hx3 : bytes_Equal.f x2 l4 = some false) :
  Calls Tryd.prog 49 #[.iface 85 (.agg #[.int .i64 a0_0, .int .i64 a0_1, .int .i64 a0_2, .int .u64 a0_3, .int .u64 a0_4, .int .u64 a0_5]), .int .u64 a1, .int .u64 a2, .slice A3 l3.length c3, .slice A4 l4.length c4, .slice A5 l5.length c5] w fun e w' => ∃ v0_ v1_ v2_ : Value, e = .returned (errVc #[.int .i64 1, v0_, v1_, v2_]) ∧ Kd.V (Kd.int .u8) 5 w' w.heap.size (fun k_ => ((P3_ k_ ∨ P4_ k_ ∨ P5_ k_) ∨ w.heap.size ≤ k_)) v0_ [] ∧ Kd.V (Kd.int .u8) 5 w' w.heap.size (fun k_ => ((P3_ k_ ∨ P4_ k_ ∨ P5_ k_) ∨ w.heap.size ≤ k_)) v1_ l4 ∧ Kd.V (Kd.int .u8) 5 w' w.heap.size (fun k_ => ((P3_ k_ ∨ P4_ k_ ∨ P5_ k_) ∨ w.heap.size ≤ k_)) v2_ x2 ∧ Below w.heap.size w w' := by
 have HT := Aside0.mk hT
 have HS3 := Aside0.mk hs3
 have HS4 := Aside0.mk hs4
 have HS5 := Aside0.mk hs5
 clear hT hs3 hs4 hs5
 have b1 : decide (a2 < a1) = false := decide_eq_false h1
 have b2 : (a1 == a2) = false := beq_eq_false_iff_ne.mpr h2
 have b3 : (a1 == 0) = false := beq_eq_false_iff_ne.mpr h3
 have b5 : ((l3.length : Int) == 0) = false := beq_eq_false_iff_ne.mpr (by omega)
 obtain ⟨ad, hAd⟩ : ∃ ad, A3 = some ad := by
  obtain ⟨ad, _, _, e, _⟩ := at_L1 (Kd.V_reads' HS3.out).2.2 0 (by omega) (by omega)
  exact ⟨ad, e⟩
 subst hAd
 obtain ⟨cs, hcs, hFK, hcell⟩ := Kd.V_get HS3.out ([] : List Int) 0 (by omega) (by omega)
 obtain ⟨A0, c0, rfl, hc0, hF0⟩ := Kd.FK_slice_open hFK
 have hS0 : Kd.V (Kd.int .u8) 5 w w.heap.size (fun k_ => P3_ k_) (.slice A0 (l3.getD 0 []).length c0) (l3.getD 0 []) := Kd.V_mk hc0 hF0
 have ecell : w.cell? ad = some (.slice A0 (l3.getD 0 []).length c0) := by
  have e := hcell 0 _ rfl
  rwa [show ad.add ((0 : Int).toNat * (Kd.slice 5 (Kd.int .u8)).sz + 0) = ad from by cases ad; rfl] at e
 have bN : 0 < l3.length := by omega
 clear hcell hcs hFK hF0 hc0
 have HS0 := Aside0.mk hS0
 clear hS0
 generalize hx0 : l3.getD 0 [] = x0 at HS0 ecell
 obtain ⟨m, hm⟩ : ∃ m, IntKind.u64.wrap (a1 - 1) = m := ⟨_, rfl⟩
 rw [hm] at hd
 obtain ⟨mk, hmk⟩ : ∃ mk, shr .u64 m s = mk := ⟨_, rfl⟩
 have hmkz : m / 2 ^ s.toNat = mk := shr_small hmk (by show s ≤ 64; omega)
 obtain ⟨pw, hpw⟩ : ∃ pw, shl .u64 1 s = pw := ⟨_, rfl⟩
 have hpwz : IntKind.u64.wrap (2 ^ s.toNat) = pw := by have h := shl_small hpw (by show s ≤ 64; omega); rwa [Int.one_mul] at h
 rw [hpw] at hp
 have bp : (a1 == pw) = false := beq_eq_false_iff_ne.mpr hp
 clear hp
 obtain ⟨inn, hin⟩ : ∃ inn, d1 - s = inn := ⟨_, rfl⟩
 have i0 : 0 ≤ inn := by omega
 have i1 : inn ≤ 64 := by omega
 have hinw : IntKind.i64.wrap (d1 - s) = inn := by rw [i64_w]; unfold wrap64; omega
 have bl : ((l3.length : Int) == 1 + inn + d2) = true := beq_iff_eq.mpr (by omega)
 have bl2 : ((l3.length : Int) != 1 + inn + d2) = false := by rw [bne, bl]; rfl
 rw [hm, hmk, hin] at hx1
 rw [hin] at hx2
 obtain ⟨A6, c6, hcut, hc6, hC6⟩ := vc_from (some ad) c3 l3 1 (Kd.V_reads' HS3.out).2.1 (by omega) (by omega)
 obtain ⟨Rs, hRs⟩ : ∃ Rs, Rs = l3.drop (1 : Int).toNat := ⟨_, rfl⟩
 have hRl : Rs.length = l3.length - 1 := by rw [hRs]; simp
 rw [← hRs] at hcut hc6
 replace hC6 := hC6 w (Kd.V_reads' HS3.out).2.2
 rw [← hRs] at hC6
 obtain ⟨A7, c7, hcut7, hc7, hC7⟩ := vc_from A6 c6 Rs inn hc6 i0 (by omega)
 obtain ⟨hcut8, hc8, hC8⟩ := vc_to A6 c6 Rs inn hc6 i0 (by omega)
 replace hC7 := hC7 w hC6
 replace hC8 := hC8 w hC6
 have hx1 : proof_chainInnerRight.f k a0_0 a0_1 a0_2 a0_3 a0_4 a0_5 x0 (Rs.take inn.toNat) mk = some x1 := by rw [hRs, ← hx0]; exact hx1
 have hx2 : proof_chainBorderRight.f k a0_0 a0_1 a0_2 a0_3 a0_4 a0_5 x1 (Rs.drop inn.toNat) = some x2 := by rw [hRs]; exact hx2
 clear hx0 hRs hRl hl hC6 hc6 hin
 generalize Rs.drop inn.toNat = Rb at *
 generalize Rs.take inn.toNat = Ra at *
 have HC7 := Aside0.mk hC7
 clear hC7
 have HC8 := Aside0.mk hC8
 clear hC8
 have Hc7 := Aside0.mk hc7
 clear hc7
 have Hc8 := Aside0.mk hc8
 clear hc8
 have Hx1 := Aside0.mk hx1
 clear hx1
 have Hx2 := Aside0.mk hx2
 clear hx2
 have Hx3 := Aside0.mk hx3
 clear hx3
 have HD := Aside0.mk hd
 have HSZ := Aside0.mk hs
 clear hd hs h4
 go_enter Tryd.func49, Tryd.ntmps49
 go_wp2_with (first | (go_at_call 82; (with_reducible refine (proof_decompInclProof.calls m a2 d1 d2 _ HD.out).mono ?_); rintro e w' ⟨rfl, ⟨nd, rfl⟩⟩) | (go_at_call 83; (with_reducible refine (bits_TrailingZeros64.calls a1 s _ (TabOK.below HT.out (pw_below_drewN (Below.refl _ _) _)) HSZ.out).mono ?_); rintro e w' ⟨rfl, ⟨nd2, rfl⟩⟩; have HB := Aside0.mk (pw_below_drewN (pw_below_drewN (Below.refl w.heap.size w) nd) nd2); replace ecell := (HB.out.cell (World.block_lt_of_cell? w _ ecell)).trans ecell; generalize (w.drewN nd).drewN nd2 = w2 at HB ecell ⊢) | (go_at_call 84; (with_reducible refine (proof_chainInnerRight.calls k a0_0 a0_1 a0_2 a0_3 a0_4 a0_5 P3_ _ _ x0 _ _ Ra mk x1 _ (vc_base (Kd.V_below HS0.out HB.out)) (Kd.C_below HC8.out HB.out) Hc8.out Hx1.out).mono ?_); rintro e w3 ⟨v, rfl, ho, hB⟩; obtain ⟨Ao3, co3, rfl⟩ := Kd.V_slice ho; have HO3 := Aside0.mk ho; have HBL3 := Aside0.mk hB; have HB3 := Aside0.mk (below_step HB.out hB); clear ho hB) | (go_at_call 85; (with_reducible refine (proof_chainBorderRight.calls k a0_0 a0_1 a0_2 a0_3 a0_4 a0_5 (fun k_ => (P3_ k_ ∨ w2.heap.size ≤ k_)) _ _ x1 _ _ Rb x2 _ (vc_base HO3.out) (Kd.C_below HC7.out HB3.out) Hc7.out Hx2.out).mono ?_); rintro e w4 ⟨v, rfl, ho, hB⟩; obtain ⟨Ao4, co4, rfl⟩ := Kd.V_slice ho; have HO4 := Aside0.mk ho; have HBL4 := Aside0.mk hB; have HB4 := Aside0.mk (below_step HB3.out hB); clear ho hB) | (go_at_call 81; (with_reducible refine (proof_verifyMatch.diff _ _ x2 _ _ l4 _ (Kd.V_reads' HO4.out).2.2 (Kd.V_reads' HO4.out).2.1 (Kd.V_reads' (Kd.V_below HS4.out HB4.out)).2.2 (Kd.V_reads' HS4.out).2.1 Hx3.out).mono ?_); rintro e w5 ⟨rfl, hB2⟩; have HBL5 := Aside0.mk hB2; have HB5 := Aside0.mk (below_step HB4.out hB2); clear hB2))
 go_ret
 exact ⟨.slice none 0 0, .slice A4 l4.length c4, .slice Ao4 x2.length co4, rfl, vc_dummy _ _ _ _ _ _, Kd.V_mono (Kd.V_below HS4.out HB5.out) (fun k_ h_ => .inl (.inr (.inl h_))), Kd.V_mono (Kd.V_below HO4.out HBL5.out) (fun k_ h_ => Or.elim h_ (fun h_ => Or.elim h_ (fun h_ => .inl (.inl h_)) (fun h_ => .inr (Nat.le_trans HB.out.size h_))) (fun h_ => .inr (Nat.le_trans HB3.out.size h_))), HB5.out⟩

set_option maxRecDepth 100000 in
set_option maxHeartbeats 2000000 in
theorem vc_mq_d2 (k : Nat) (a0_0 a0_1 a0_2 a0_3 a0_4 a0_5 : Int) (a1 a2 : Int) (P3_ : Nat → Prop) (A3 : Option Addr) (c3 : Nat) (l3 : List (List Int)) (P4_ : Nat → Prop) (A4 : Option Addr) (c4 : Nat) (l4 : List Int) (P5_ : Nat → Prop) (A5 : Option Addr) (c5 : Nat) (l5 : List Int) (w : World) (hT : TabOK w) (hs3 : Kd.V (Kd.slice 5 (Kd.int .u8)) 27 w w.heap.size (fun k_ => P3_ k_) (.slice A3 l3.length c3) l3) (hs4 : Kd.V (Kd.int .u8) 5 w w.heap.size (fun k_ => P4_ k_) (.slice A4 l4.length c4) l4) (hs5 : Kd.V (Kd.int .u8) 5 w w.heap.size (fun k_ => P5_ k_) (.slice A5 l5.length c5) l5) (h1 : ¬ a2 < a1) (h2 : ¬ a1 = a2) (h3 : ¬ a1 = 0) (h4 : ¬ l3.length = 0) (d1 d2 s : Int) (hd : proof_decompInclProof.f (IntKind.u64.wrap (a1 - 1)) a2 = some (d1, d2)) (hs : bits_TrailingZeros64.f a1 = some s) (g1 : 0 ≤ s) (g2 : s ≤ d1) (g3 : d1 ≤ 64) (g4 : 0 ≤ d2) (g5 : d2 ≤ 64) (hp : ¬ a1 = shl .u64 1 s) (hl : (l3.length : Int) = 1 + (d1 - s) + d2) (x1 x2 : List Int) (hx1 : proof_chainInnerRight.f k a0_0 a0_1 a0_2 a0_3 a0_4 a0_5 (l3.getD 0 []) ((l3.drop 1).take (d1 - s).toNat) (shr .u64 (IntKind.u64.wrap (a1 - 1)) s) = some x1) (hx2 : proof_chainBorderRight.f k a0_0 a0_1 a0_2 a0_3 a0_4 a0_5 x1 ((l3.drop 1).drop (d1 - s).toNat) = some x2) (hx3 : bytes_Equal.f x2 l4 = some true) (x4 x5 : List Int) (hx4 : proof_chainInner.f k a0_0 a0_1 a0_2 a0_3 a0_4 a0_5 (l3.getD 0 []) ((l3.drop 1).take (d1 - s).toNat) (shr .u64 (IntKind.u64.wrap (a1 - 1)) s) = some x4) (hx5 : proof_chainBorderRight.f k a0_0 a0_1 a0_2 a0_3 a0_4 a0_5 x4 ((l3.drop 1).drop (d1 - s).toNat) = some x5) (hx6 : bytes_Equal.f x5 l5 = some false) :
  Calls Tryd.prog 49 #[.iface 85 (.agg #[.int .i64 a0_0, .int .i64 a0_1, .int .i64 a0_2, .int .u64 a0_3, .int .u64 a0_4, .int .u64 a0_5]), .int .u64 a1, .int .u64 a2, .slice A3 l3.length c3, .slice A4 l4.length c4, .slice A5 l5.length c5] w fun e w' => ∃ v0_ v1_ v2_ : Value, e = .returned (errVc #[.int .i64 1, v0_, v1_, v2_]) ∧ Kd.V (Kd.int .u8) 5 w' w.heap.size (fun k_ => ((P3_ k_ ∨ P4_ k_ ∨ P5_ k_) ∨ w.heap.size ≤ k_)) v0_ [] ∧ Kd.V (Kd.int .u8) 5 w' w.heap.size (fun k_ => ((P3_ k_ ∨ P4_ k_ ∨ P5_ k_) ∨ w.heap.size ≤ k_)) v1_ l5 ∧ Kd.V (Kd.int .u8) 5 w' w.heap.size (fun k_ => ((P3_ k_ ∨ P4_ k_ ∨ P5_ k_) ∨ w.heap.size ≤ k_)) v2_ x5 ∧ Below w.heap.size w w' := by
 have HT := Aside0.mk hT
 have HS3 := Aside0.mk hs3
 have HS4 := Aside0.mk hs4
 have HS5 := Aside0.mk hs5
 clear hT hs3 hs4 hs5
 have b1 : decide (a2 < a1) = false := decide_eq_false h1
 have b2 : (a1 == a2) = false := beq_eq_false_iff_ne.mpr h2
 have b3 : (a1 == 0) = false := beq_eq_false_iff_ne.mpr h3
 have b5 : ((l3.length : Int) == 0) = false := beq_eq_false_iff_ne.mpr (by omega)
 obtain ⟨ad, hAd⟩ : ∃ ad, A3 = some ad := by
  obtain ⟨ad, _, _, e, _⟩ := at_L1 (Kd.V_reads' HS3.out).2.2 0 (by omega) (by omega)
  exact ⟨ad, e⟩
 subst hAd
 obtain ⟨cs, hcs, hFK, hcell⟩ := Kd.V_get HS3.out ([] : List Int) 0 (by omega) (by omega)
 obtain ⟨A0, c0, rfl, hc0, hF0⟩ := Kd.FK_slice_open hFK
 have hS0 : Kd.V (Kd.int .u8) 5 w w.heap.size (fun k_ => P3_ k_) (.slice A0 (l3.getD 0 []).length c0) (l3.getD 0 []) := Kd.V_mk hc0 hF0
 have ecell : w.cell? ad = some (.slice A0 (l3.getD 0 []).length c0) := by
  have e := hcell 0 _ rfl
  rwa [show ad.add ((0 : Int).toNat * (Kd.slice 5 (Kd.int .u8)).sz + 0) = ad from by cases ad; rfl] at e
 have bN : 0 < l3.length := by omega
 clear hcell hcs hFK hF0 hc0
 have HS0 := Aside0.mk hS0
 clear hS0
 generalize hx0 : l3.getD 0 [] = x0 at HS0 ecell
 obtain ⟨m, hm⟩ : ∃ m, IntKind.u64.wrap (a1 - 1) = m := ⟨_, rfl⟩
 rw [hm] at hd
 obtain ⟨mk, hmk⟩ : ∃ mk, shr .u64 m s = mk := ⟨_, rfl⟩
 have hmkz : m / 2 ^ s.toNat = mk := shr_small hmk (by show s ≤ 64; omega)
 obtain ⟨pw, hpw⟩ : ∃ pw, shl .u64 1 s = pw := ⟨_, rfl⟩
 have hpwz : IntKind.u64.wrap (2 ^ s.toNat) = pw := by have h := shl_small hpw (by show s ≤ 64; omega); rwa [Int.one_mul] at h
 rw [hpw] at hp
 have bp : (a1 == pw) = false := beq_eq_false_iff_ne.mpr hp
 clear hp
 obtain ⟨inn, hin⟩ : ∃ inn, d1 - s = inn := ⟨_, rfl⟩
 have i0 : 0 ≤ inn := by omega
 have i1 : inn ≤ 64 := by omega
 have hinw : IntKind.i64.wrap (d1 - s) = inn := by rw [i64_w]; unfold wrap64; omega
 have bl : ((l3.length : Int) == 1 + inn + d2) = true := beq_iff_eq.mpr (by omega)
 have bl2 : ((l3.length : Int) != 1 + inn + d2) = false := by rw [bne, bl]; rfl
 rw [hm, hmk, hin] at hx1
 rw [hin] at hx2
 obtain ⟨A6, c6, hcut, hc6, hC6⟩ := vc_from (some ad) c3 l3 1 (Kd.V_reads' HS3.out).2.1 (by omega) (by omega)
 obtain ⟨Rs, hRs⟩ : ∃ Rs, Rs = l3.drop (1 : Int).toNat := ⟨_, rfl⟩
 have hRl : Rs.length = l3.length - 1 := by rw [hRs]; simp
 rw [← hRs] at hcut hc6
 replace hC6 := hC6 w (Kd.V_reads' HS3.out).2.2
 rw [← hRs] at hC6
 obtain ⟨A7, c7, hcut7, hc7, hC7⟩ := vc_from A6 c6 Rs inn hc6 i0 (by omega)
 obtain ⟨hcut8, hc8, hC8⟩ := vc_to A6 c6 Rs inn hc6 i0 (by omega)
 replace hC7 := hC7 w hC6
 replace hC8 := hC8 w hC6
 have hx1 : proof_chainInnerRight.f k a0_0 a0_1 a0_2 a0_3 a0_4 a0_5 x0 (Rs.take inn.toNat) mk = some x1 := by rw [hRs, ← hx0]; exact hx1
 have hx2 : proof_chainBorderRight.f k a0_0 a0_1 a0_2 a0_3 a0_4 a0_5 x1 (Rs.drop inn.toNat) = some x2 := by rw [hRs]; exact hx2
 rw [hm, hmk, hin] at hx4
 rw [hin] at hx5
 have hx4 : proof_chainInner.f k a0_0 a0_1 a0_2 a0_3 a0_4 a0_5 x0 (Rs.take inn.toNat) mk = some x4 := by rw [hRs, ← hx0]; exact hx4
 have hx5 : proof_chainBorderRight.f k a0_0 a0_1 a0_2 a0_3 a0_4 a0_5 x4 (Rs.drop inn.toNat) = some x5 := by rw [hRs]; exact hx5
 clear hx0 hRs hRl hl hC6 hc6 hin
 generalize Rs.drop inn.toNat = Rb at *
 generalize Rs.take inn.toNat = Ra at *
 have HC7 := Aside0.mk hC7
 clear hC7
 have HC8 := Aside0.mk hC8
 clear hC8
 have Hc7 := Aside0.mk hc7
 clear hc7
 have Hc8 := Aside0.mk hc8
 clear hc8
 have Hx1 := Aside0.mk hx1
 clear hx1
 have Hx2 := Aside0.mk hx2
 clear hx2
 have Hx3 := Aside0.mk hx3
 clear hx3
 have Hx4 := Aside0.mk hx4
 clear hx4
 have Hx5 := Aside0.mk hx5
 clear hx5
 have Hx6 := Aside0.mk hx6
 clear hx6
 have HD := Aside0.mk hd
 have HSZ := Aside0.mk hs
 clear hd hs h4
 go_enter Tryd.func49, Tryd.ntmps49
 go_wp2_with (first | (go_at_call 82; (with_reducible refine (proof_decompInclProof.calls m a2 d1 d2 _ HD.out).mono ?_); rintro e w' ⟨rfl, ⟨nd, rfl⟩⟩) | (go_at_call 83; (with_reducible refine (bits_TrailingZeros64.calls a1 s _ (TabOK.below HT.out (pw_below_drewN (Below.refl _ _) _)) HSZ.out).mono ?_); rintro e w' ⟨rfl, ⟨nd2, rfl⟩⟩; have HB := Aside0.mk (pw_below_drewN (pw_below_drewN (Below.refl w.heap.size w) nd) nd2); replace ecell := (HB.out.cell (World.block_lt_of_cell? w _ ecell)).trans ecell; generalize (w.drewN nd).drewN nd2 = w2 at HB ecell ⊢) | (go_at_call 84; (with_reducible refine (proof_chainInnerRight.calls k a0_0 a0_1 a0_2 a0_3 a0_4 a0_5 P3_ _ _ x0 _ _ Ra mk x1 _ (vc_base (Kd.V_below HS0.out HB.out)) (Kd.C_below HC8.out HB.out) Hc8.out Hx1.out).mono ?_); rintro e w3 ⟨v, rfl, ho, hB⟩; obtain ⟨Ao3, co3, rfl⟩ := Kd.V_slice ho; have HO3 := Aside0.mk ho; have HBL3 := Aside0.mk hB; have HB3 := Aside0.mk (below_step HB.out hB); clear ho hB) | (go_at_call 85; (with_reducible refine (proof_chainBorderRight.calls k a0_0 a0_1 a0_2 a0_3 a0_4 a0_5 (fun k_ => (P3_ k_ ∨ w2.heap.size ≤ k_)) _ _ x1 _ _ Rb x2 _ (vc_base HO3.out) (Kd.C_below HC7.out HB3.out) Hc7.out Hx2.out).mono ?_); rintro e w4 ⟨v, rfl, ho, hB⟩; obtain ⟨Ao4, co4, rfl⟩ := Kd.V_slice ho; have HO4 := Aside0.mk ho; have HBL4 := Aside0.mk hB; have HB4 := Aside0.mk (below_step HB3.out hB); clear ho hB) | (go_at_call 81; (with_reducible refine (proof_verifyMatch.same _ _ x2 _ _ l4 _ (Kd.V_reads' HO4.out).2.2 (Kd.V_reads' HO4.out).2.1 (Kd.V_reads' (Kd.V_below HS4.out HB4.out)).2.2 (Kd.V_reads' HS4.out).2.1 Hx3.out).mono ?_); rintro e w5 ⟨rfl, hB2⟩; have HBL5 := Aside0.mk hB2; have HB5 := Aside0.mk (below_step HB4.out hB2); clear hB2) | (go_at_call 86; (with_reducible refine (proof_chainInner.calls k a0_0 a0_1 a0_2 a0_3 a0_4 a0_5 P3_ _ _ x0 _ _ Ra mk x4 _ (vc_base (Kd.V_below HS0.out HB5.out)) (Kd.C_below HC8.out HB5.out) Hc8.out Hx4.out).mono ?_); rintro e w6 ⟨v, rfl, ho, hB⟩; obtain ⟨Ao6, co6, rfl⟩ := Kd.V_slice ho; have HO6 := Aside0.mk ho; have HBL6 := Aside0.mk hB; have HB6 := Aside0.mk (below_step HB5.out hB); clear ho hB) | (go_at_call 85; (with_reducible refine (proof_chainBorderRight.calls k a0_0 a0_1 a0_2 a0_3 a0_4 a0_5 (fun k_ => (P3_ k_ ∨ w5.heap.size ≤ k_)) _ _ x4 _ _ Rb x5 _ (vc_base HO6.out) (Kd.C_below HC7.out HB6.out) Hc7.out Hx5.out).mono ?_); rintro e w7 ⟨v, rfl, ho, hB⟩; obtain ⟨Ao7, co7, rfl⟩ := Kd.V_slice ho; have HO7 := Aside0.mk ho; have HBL7 := Aside0.mk hB; have HB7 := Aside0.mk (below_step HB6.out hB); clear ho hB) | (go_at_call 81; (with_reducible refine (proof_verifyMatch.diff _ _ x5 _ _ l5 _ (Kd.V_reads' HO7.out).2.2 (Kd.V_reads' HO7.out).2.1 (Kd.V_reads' (Kd.V_below HS5.out HB7.out)).2.2 (Kd.V_reads' HS5.out).2.1 Hx6.out).mono ?_); rintro e w8 ⟨rfl, hB2⟩; have HBL8 := Aside0.mk hB2; have HB8 := Aside0.mk (below_step HB7.out hB2); clear hB2))
 go_ret
 exact ⟨.slice none 0 0, .slice A5 l5.length c5, .slice Ao7 x5.length co7, rfl, vc_dummy _ _ _ _ _ _, Kd.V_mono (Kd.V_below HS5.out HB8.out) (fun k_ h_ => .inl (.inr (.inr h_))), Kd.V_mono (Kd.V_below HO7.out HBL8.out) (fun k_ h_ => Or.elim h_ (fun h_ => Or.elim h_ (fun h_ => .inl (.inl h_)) (fun h_ => .inr (Nat.le_trans HB5.out.size h_))) (fun h_ => .inr (Nat.le_trans HB6.out.size h_))), HB8.out⟩

set_option maxRecDepth 100000 in
set_option maxHeartbeats 2000000 in
theorem vc_mq_ok (k : Nat) (a0_0 a0_1 a0_2 a0_3 a0_4 a0_5 : Int) (a1 a2 : Int) (P3_ : Nat → Prop) (A3 : Option Addr) (c3 : Nat) (l3 : List (List Int)) (P4_ : Nat → Prop) (A4 : Option Addr) (c4 : Nat) (l4 : List Int) (P5_ : Nat → Prop) (A5 : Option Addr) (c5 : Nat) (l5 : List Int) (w : World) (hT : TabOK w) (hs3 : Kd.V (Kd.slice 5 (Kd.int .u8)) 27 w w.heap.size (fun k_ => P3_ k_) (.slice A3 l3.length c3) l3) (hs4 : Kd.V (Kd.int .u8) 5 w w.heap.size (fun k_ => P4_ k_) (.slice A4 l4.length c4) l4) (hs5 : Kd.V (Kd.int .u8) 5 w w.heap.size (fun k_ => P5_ k_) (.slice A5 l5.length c5) l5) (h1 : ¬ a2 < a1) (h2 : ¬ a1 = a2) (h3 : ¬ a1 = 0) (h4 : ¬ l3.length = 0) (d1 d2 s : Int) (hd : proof_decompInclProof.f (IntKind.u64.wrap (a1 - 1)) a2 = some (d1, d2)) (hs : bits_TrailingZeros64.f a1 = some s) (g1 : 0 ≤ s) (g2 : s ≤ d1) (g3 : d1 ≤ 64) (g4 : 0 ≤ d2) (g5 : d2 ≤ 64) (hp : ¬ a1 = shl .u64 1 s) (hl : (l3.length : Int) = 1 + (d1 - s) + d2) (x1 x2 : List Int) (hx1 : proof_chainInnerRight.f k a0_0 a0_1 a0_2 a0_3 a0_4 a0_5 (l3.getD 0 []) ((l3.drop 1).take (d1 - s).toNat) (shr .u64 (IntKind.u64.wrap (a1 - 1)) s) = some x1) (hx2 : proof_chainBorderRight.f k a0_0 a0_1 a0_2 a0_3 a0_4 a0_5 x1 ((l3.drop 1).drop (d1 - s).toNat) = some x2) (hx3 : bytes_Equal.f x2 l4 = some true) (x4 x5 : List Int) (hx4 : proof_chainInner.f k a0_0 a0_1 a0_2 a0_3 a0_4 a0_5 (l3.getD 0 []) ((l3.drop 1).take (d1 - s).toNat) (shr .u64 (IntKind.u64.wrap (a1 - 1)) s) = some x4) (hx5 : proof_chainBorderRight.f k a0_0 a0_1 a0_2 a0_3 a0_4 a0_5 x4 ((l3.drop 1).drop (d1 - s).toNat) = some x5) (hx6 : bytes_Equal.f x5 l5 = some true) :
  Calls Tryd.prog 49 #[.iface 85 (.agg #[.int .i64 a0_0, .int .i64 a0_1, .int .i64 a0_2, .int .u64 a0_3, .int .u64 a0_4, .int .u64 a0_5]), .int .u64 a1, .int .u64 a2, .slice A3 l3.length c3, .slice A4 l4.length c4, .slice A5 l5.length c5] w fun e w' => ∃ v0_ v1_ v2_ : Value, e = .returned (errVc #[.int .i64 0, v0_, v1_, v2_]) ∧ Kd.V (Kd.int .u8) 5 w' w.heap.size (fun k_ => ((P3_ k_ ∨ P4_ k_ ∨ P5_ k_) ∨ w.heap.size ≤ k_)) v0_ [] ∧ Kd.V (Kd.int .u8) 5 w' w.heap.size (fun k_ => ((P3_ k_ ∨ P4_ k_ ∨ P5_ k_) ∨ w.heap.size ≤ k_)) v1_ [] ∧ Kd.V (Kd.int .u8) 5 w' w.heap.size (fun k_ => ((P3_ k_ ∨ P4_ k_ ∨ P5_ k_) ∨ w.heap.size ≤ k_)) v2_ [] ∧ Below w.heap.size w w' := by
 have HT := Aside0.mk hT
 have HS3 := Aside0.mk hs3
 have HS4 := Aside0.mk hs4
 have HS5 := Aside0.mk hs5
 clear hT hs3 hs4 hs5
 have b1 : decide (a2 < a1) = false := decide_eq_false h1
 have b2 : (a1 == a2) = false := beq_eq_false_iff_ne.mpr h2
 have b3 : (a1 == 0) = false := beq_eq_false_iff_ne.mpr h3
 have b5 : ((l3.length : Int) == 0) = false := beq_eq_false_iff_ne.mpr (by omega)
 obtain ⟨ad, hAd⟩ : ∃ ad, A3 = some ad := by
  obtain ⟨ad, _, _, e, _⟩ := at_L1 (Kd.V_reads' HS3.out).2.2 0 (by omega) (by omega)
  exact ⟨ad, e⟩
 subst hAd
 obtain ⟨cs, hcs, hFK, hcell⟩ := Kd.V_get HS3.out ([] : List Int) 0 (by omega) (by omega)
 obtain ⟨A0, c0, rfl, hc0, hF0⟩ := Kd.FK_slice_open hFK
 have hS0 : Kd.V (Kd.int .u8) 5 w w.heap.size (fun k_ => P3_ k_) (.slice A0 (l3.getD 0 []).length c0) (l3.getD 0 []) := Kd.V_mk hc0 hF0
 have ecell : w.cell? ad = some (.slice A0 (l3.getD 0 []).length c0) := by
  have e := hcell 0 _ rfl
  rwa [show ad.add ((0 : Int).toNat * (Kd.slice 5 (Kd.int .u8)).sz + 0) = ad from by cases ad; rfl] at e
 have bN : 0 < l3.length := by omega
 clear hcell hcs hFK hF0 hc0
 have HS0 := Aside0.mk hS0
 clear hS0
 generalize hx0 : l3.getD 0 [] = x0 at HS0 ecell
 obtain ⟨m, hm⟩ : ∃ m, IntKind.u64.wrap (a1 - 1) = m := ⟨_, rfl⟩
 rw [hm] at hd
 obtain ⟨mk, hmk⟩ : ∃ mk, shr .u64 m s = mk := ⟨_, rfl⟩
 have hmkz : m / 2 ^ s.toNat = mk := shr_small hmk (by show s ≤ 64; omega)
 obtain ⟨pw, hpw⟩ : ∃ pw, shl .u64 1 s = pw := ⟨_, rfl⟩
 have hpwz : IntKind.u64.wrap (2 ^ s.toNat) = pw := by have h := shl_small hpw (by show s ≤ 64; omega); rwa [Int.one_mul] at h
 rw [hpw] at hp
 have bp : (a1 == pw) = false := beq_eq_false_iff_ne.mpr hp
 clear hp
 obtain ⟨inn, hin⟩ : ∃ inn, d1 - s = inn := ⟨_, rfl⟩
 have i0 : 0 ≤ inn := by omega
 have i1 : inn ≤ 64 := by omega
 have hinw : IntKind.i64.wrap (d1 - s) = inn := by rw [i64_w]; unfold wrap64; omega
 have bl : ((l3.length : Int) == 1 + inn + d2) = true := beq_iff_eq.mpr (by omega)
 have bl2 : ((l3.length : Int) != 1 + inn + d2) = false := by rw [bne, bl]; rfl
 rw [hm, hmk, hin] at hx1
 rw [hin] at hx2
 obtain ⟨A6, c6, hcut, hc6, hC6⟩ := vc_from (some ad) c3 l3 1 (Kd.V_reads' HS3.out).2.1 (by omega) (by omega)
 obtain ⟨Rs, hRs⟩ : ∃ Rs, Rs = l3.drop (1 : Int).toNat := ⟨_, rfl⟩
 have hRl : Rs.length = l3.length - 1 := by rw [hRs]; simp
 rw [← hRs] at hcut hc6
 replace hC6 := hC6 w (Kd.V_reads' HS3.out).2.2
 rw [← hRs] at hC6
 obtain ⟨A7, c7, hcut7, hc7, hC7⟩ := vc_from A6 c6 Rs inn hc6 i0 (by omega)
 obtain ⟨hcut8, hc8, hC8⟩ := vc_to A6 c6 Rs inn hc6 i0 (by omega)
 replace hC7 := hC7 w hC6
 replace hC8 := hC8 w hC6
 have hx1 : proof_chainInnerRight.f k a0_0 a0_1 a0_2 a0_3 a0_4 a0_5 x0 (Rs.take inn.toNat) mk = some x1 := by rw [hRs, ← hx0]; exact hx1
 have hx2 : proof_chainBorderRight.f k a0_0 a0_1 a0_2 a0_3 a0_4 a0_5 x1 (Rs.drop inn.toNat) = some x2 := by rw [hRs]; exact hx2
 rw [hm, hmk, hin] at hx4
 rw [hin] at hx5
 have hx4 : proof_chainInner.f k a0_0 a0_1 a0_2 a0_3 a0_4 a0_5 x0 (Rs.take inn.toNat) mk = some x4 := by rw [hRs, ← hx0]; exact hx4
 have hx5 : proof_chainBorderRight.f k a0_0 a0_1 a0_2 a0_3 a0_4 a0_5 x4 (Rs.drop inn.toNat) = some x5 := by rw [hRs]; exact hx5
 clear hx0 hRs hRl hl hC6 hc6 hin
 generalize Rs.drop inn.toNat = Rb at *
 generalize Rs.take inn.toNat = Ra at *
 have HC7 := Aside0.mk hC7
 clear hC7
 have HC8 := Aside0.mk hC8
 clear hC8
 have Hc7 := Aside0.mk hc7
 clear hc7
 have Hc8 := Aside0.mk hc8
 clear hc8
 have Hx1 := Aside0.mk hx1
 clear hx1
 have Hx2 := Aside0.mk hx2
 clear hx2
 have Hx3 := Aside0.mk hx3
 clear hx3
 have Hx4 := Aside0.mk hx4
 clear hx4
 have Hx5 := Aside0.mk hx5
 clear hx5
 have Hx6 := Aside0.mk hx6
 clear hx6
 have HD := Aside0.mk hd
 have HSZ := Aside0.mk hs
 clear hd hs h4
 go_enter Tryd.func49, Tryd.ntmps49
 go_wp2_with (first | (go_at_call 82; (with_reducible refine (proof_decompInclProof.calls m a2 d1 d2 _ HD.out).mono ?_); rintro e w' ⟨rfl, ⟨nd, rfl⟩⟩) | (go_at_call 83; (with_reducible refine (bits_TrailingZeros64.calls a1 s _ (TabOK.below HT.out (pw_below_drewN (Below.refl _ _) _)) HSZ.out).mono ?_); rintro e w' ⟨rfl, ⟨nd2, rfl⟩⟩; have HB := Aside0.mk (pw_below_drewN (pw_below_drewN (Below.refl w.heap.size w) nd) nd2); replace ecell := (HB.out.cell (World.block_lt_of_cell? w _ ecell)).trans ecell; generalize (w.drewN nd).drewN nd2 = w2 at HB ecell ⊢) | (go_at_call 84; (with_reducible refine (proof_chainInnerRight.calls k a0_0 a0_1 a0_2 a0_3 a0_4 a0_5 P3_ _ _ x0 _ _ Ra mk x1 _ (vc_base (Kd.V_below HS0.out HB.out)) (Kd.C_below HC8.out HB.out) Hc8.out Hx1.out).mono ?_); rintro e w3 ⟨v, rfl, ho, hB⟩; obtain ⟨Ao3, co3, rfl⟩ := Kd.V_slice ho; have HO3 := Aside0.mk ho; have HBL3 := Aside0.mk hB; have HB3 := Aside0.mk (below_step HB.out hB); clear ho hB) | (go_at_call 85; (with_reducible refine (proof_chainBorderRight.calls k a0_0 a0_1 a0_2 a0_3 a0_4 a0_5 (fun k_ => (P3_ k_ ∨ w2.heap.size ≤ k_)) _ _ x1 _ _ Rb x2 _ (vc_base HO3.out) (Kd.C_below HC7.out HB3.out) Hc7.out Hx2.out).mono ?_); rintro e w4 ⟨v, rfl, ho, hB⟩; obtain ⟨Ao4, co4, rfl⟩ := Kd.V_slice ho; have HO4 := Aside0.mk ho; have HBL4 := Aside0.mk hB; have HB4 := Aside0.mk (below_step HB3.out hB); clear ho hB) | (go_at_call 81; (with_reducible refine (proof_verifyMatch.same _ _ x2 _ _ l4 _ (Kd.V_reads' HO4.out).2.2 (Kd.V_reads' HO4.out).2.1 (Kd.V_reads' (Kd.V_below HS4.out HB4.out)).2.2 (Kd.V_reads' HS4.out).2.1 Hx3.out).mono ?_); rintro e w5 ⟨rfl, hB2⟩; have HBL5 := Aside0.mk hB2; have HB5 := Aside0.mk (below_step HB4.out hB2); clear hB2) | (go_at_call 86; (with_reducible refine (proof_chainInner.calls k a0_0 a0_1 a0_2 a0_3 a0_4 a0_5 P3_ _ _ x0 _ _ Ra mk x4 _ (vc_base (Kd.V_below HS0.out HB5.out)) (Kd.C_below HC8.out HB5.out) Hc8.out Hx4.out).mono ?_); rintro e w6 ⟨v, rfl, ho, hB⟩; obtain ⟨Ao6, co6, rfl⟩ := Kd.V_slice ho; have HO6 := Aside0.mk ho; have HBL6 := Aside0.mk hB; have HB6 := Aside0.mk (below_step HB5.out hB); clear ho hB) | (go_at_call 85; (with_reducible refine (proof_chainBorderRight.calls k a0_0 a0_1 a0_2 a0_3 a0_4 a0_5 (fun k_ => (P3_ k_ ∨ w5.heap.size ≤ k_)) _ _ x4 _ _ Rb x5 _ (vc_base HO6.out) (Kd.C_below HC7.out HB6.out) Hc7.out Hx5.out).mono ?_); rintro e w7 ⟨v, rfl, ho, hB⟩; obtain ⟨Ao7, co7, rfl⟩ := Kd.V_slice ho; have HO7 := Aside0.mk ho; have HBL7 := Aside0.mk hB; have HB7 := Aside0.mk (below_step HB6.out hB); clear ho hB) | (go_at_call 81; (with_reducible refine (proof_verifyMatch.same _ _ x5 _ _ l5 _ (Kd.V_reads' HO7.out).2.2 (Kd.V_reads' HO7.out).2.1 (Kd.V_reads' (Kd.V_below HS5.out HB7.out)).2.2 (Kd.V_reads' HS5.out).2.1 Hx6.out).mono ?_); rintro e w8 ⟨rfl, hB2⟩; have HBL8 := Aside0.mk hB2; have HB8 := Aside0.mk (below_step HB7.out hB2); clear hB2))
 go_ret
 exact ⟨.slice none 0 0, .slice none 0 0, .slice none 0 0, rfl, vc_dummy _ _ _ _ _ _, vc_dummy _ _ _ _ _ _, vc_dummy _ _ _ _ _ _, HB8.out⟩

theorem vc_tail_open (k : Nat) (a0_0 a0_1 a0_2 a0_3 a0_4 a0_5 : Int) (seed : List Int) (rest : List (List Int)) (inn mask : Int) (l4 l5 : List Int) (r : Int × List Int × List Int × List Int) (h : vcTail k a0_0 a0_1 a0_2 a0_3 a0_4 a0_5 seed rest inn mask l4 l5 = some r) :
  ∃ x1 x2, proof_chainInnerRight.f k a0_0 a0_1 a0_2 a0_3 a0_4 a0_5 seed (rest.take inn.toNat) mask = some x1 ∧ proof_chainBorderRight.f k a0_0 a0_1 a0_2 a0_3 a0_4 a0_5 x1 (rest.drop inn.toNat) = some x2 ∧ ((bytes_Equal.f x2 l4 = some false ∧ (1, [], l4, x2) = r) ∨ (bytes_Equal.f x2 l4 = some true ∧ ∃ x4 x5, proof_chainInner.f k a0_0 a0_1 a0_2 a0_3 a0_4 a0_5 seed (rest.take inn.toNat) mask = some x4 ∧ proof_chainBorderRight.f k a0_0 a0_1 a0_2 a0_3 a0_4 a0_5 x4 (rest.drop inn.toNat) = some x5 ∧ ((bytes_Equal.f x5 l5 = some true ∧ (0, [], [], []) = r) ∨ (bytes_Equal.f x5 l5 = some false ∧ (1, [], l5, x5) = r)))) := by
 unfold vcTail at h
 obtain ⟨x1, h1, h⟩ := Option.bind_eq_some_iff.mp h
 obtain ⟨x2, h2, h⟩ := Option.bind_eq_some_iff.mp h
 obtain ⟨t, ht, h⟩ := Option.bind_eq_some_iff.mp h
 refine ⟨x1, x2, h1, h2, ?_⟩
 cases t with
 | false =>
  simp only [Bool.false_eq_true, if_false] at h
  exact .inl ⟨ht, Option.some.inj h⟩
 | true =>
  simp only [if_true] at h
  obtain ⟨x4, h4, h⟩ := Option.bind_eq_some_iff.mp h
  obtain ⟨x5, h5, h⟩ := Option.bind_eq_some_iff.mp h
  obtain ⟨t2, ht2, h⟩ := Option.bind_eq_some_iff.mp h
  refine .inr ⟨ht, x4, x5, h4, h5, ?_⟩
  cases t2 with
  | true =>
   simp only [if_true] at h
   exact .inl ⟨ht2, Option.some.inj h⟩
  | false =>
   simp only [Bool.false_eq_true, if_false] at h
   exact .inr ⟨ht2, Option.some.inj h⟩
theorem proof_VerifyConsistency.calls (k : Nat) (a0_0 a0_1 a0_2 a0_3 a0_4 a0_5 : Int) (a1 a2 : Int) (P3_ : Nat → Prop) (A3 : Option Addr) (c3 : Nat) (l3 : List (List Int)) (P4_ : Nat → Prop) (A4 : Option Addr) (c4 : Nat) (l4 : List Int) (P5_ : Nat → Prop) (A5 : Option Addr) (c5 : Nat) (l5 : List Int) (r1 : Int) (r2 r3 r4 : List Int) (w : World) (hT : TabOK w) (hs3 : Kd.V (Kd.slice 5 (Kd.int .u8)) 27 w w.heap.size (fun k_ => P3_ k_) (.slice A3 l3.length c3) l3) (hs4 : Kd.V (Kd.int .u8) 5 w w.heap.size (fun k_ => P4_ k_) (.slice A4 l4.length c4) l4) (hs5 : Kd.V (Kd.int .u8) 5 w w.heap.size (fun k_ => P5_ k_) (.slice A5 l5.length c5) l5) (h : proof_VerifyConsistency.f k a0_0 a0_1 a0_2 a0_3 a0_4 a0_5 a1 a2 l3 l4 l5 = some (r1, r2, r3, r4)) :
  Calls Tryd.prog 49 #[.iface 85 (.agg #[.int .i64 a0_0, .int .i64 a0_1, .int .i64 a0_2, .int .u64 a0_3, .int .u64 a0_4, .int .u64 a0_5]), .int .u64 a1, .int .u64 a2, .slice A3 l3.length c3, .slice A4 l4.length c4, .slice A5 l5.length c5] w fun e w' => ∃ v0_ v1_ v2_ : Value, e = .returned (errVc #[.int .i64 r1, v0_, v1_, v2_]) ∧ Kd.V (Kd.int .u8) 5 w' w.heap.size (fun k_ => ((P3_ k_ ∨ P4_ k_ ∨ P5_ k_) ∨ w.heap.size ≤ k_)) v0_ r2 ∧ Kd.V (Kd.int .u8) 5 w' w.heap.size (fun k_ => ((P3_ k_ ∨ P4_ k_ ∨ P5_ k_) ∨ w.heap.size ≤ k_)) v1_ r3 ∧ Kd.V (Kd.int .u8) 5 w' w.heap.size (fun k_ => ((P3_ k_ ∨ P4_ k_ ∨ P5_ k_) ∨ w.heap.size ≤ k_)) v2_ r4 ∧ Below w.heap.size w w' := by
 unfold proof_VerifyConsistency.f at h
 by_cases h1 : a2 < a1
 ·rw [if_pos h1] at h
  simp only [Option.some.injEq, Prod.mk.injEq] at h
  obtain ⟨rfl, rfl, rfl, rfl⟩ := h
  exact vc_e1 k a0_0 a0_1 a0_2 a0_3 a0_4 a0_5 a1 a2 P3_ A3 c3 l3 P4_ A4 c4 l4 P5_ A5 c5 l5 w hT hs3 hs4 hs5 h1
 rw [if_neg h1] at h
 by_cases h2 : a1 = a2
 ·rw [if_pos h2] at h
  by_cases h3 : 0 < l3.length
  ·rw [if_pos h3] at h
   simp only [Option.some.injEq, Prod.mk.injEq] at h
   obtain ⟨rfl, rfl, rfl, rfl⟩ := h
   exact vc_e2 k a0_0 a0_1 a0_2 a0_3 a0_4 a0_5 a1 a2 P3_ A3 c3 l3 P4_ A4 c4 l4 P5_ A5 c5 l5 w hT hs3 hs4 hs5 h1 h2 h3
  rw [if_neg h3] at h
  obtain ⟨t, ht, h⟩ := Option.bind_eq_some_iff.mp h
  cases t with
  | true =>
   simp only [if_true] at h
   simp only [Option.some.injEq, Prod.mk.injEq] at h
   obtain ⟨rfl, rfl, rfl, rfl⟩ := h
   exact vc_eqsame k a0_0 a0_1 a0_2 a0_3 a0_4 a0_5 a1 a2 P3_ A3 c3 l3 P4_ A4 c4 l4 P5_ A5 c5 l5 w hT hs3 hs4 hs5 h1 h2 h3 ht
  | false =>
   simp only [Bool.false_eq_true, if_false] at h
   simp only [Option.some.injEq, Prod.mk.injEq] at h
   obtain ⟨rfl, rfl, rfl, rfl⟩ := h
   exact vc_eqdiff k a0_0 a0_1 a0_2 a0_3 a0_4 a0_5 a1 a2 P3_ A3 c3 l3 P4_ A4 c4 l4 P5_ A5 c5 l5 w hT hs3 hs4 hs5 h1 h2 h3 ht
 rw [if_neg h2] at h
 by_cases h3 : a1 = 0
 ·rw [if_pos h3] at h
  by_cases h4 : 0 < l3.length
  ·rw [if_pos h4] at h
   simp only [Option.some.injEq, Prod.mk.injEq] at h
   obtain ⟨rfl, rfl, rfl, rfl⟩ := h
   exact vc_e3 k a0_0 a0_1 a0_2 a0_3 a0_4 a0_5 a1 a2 P3_ A3 c3 l3 P4_ A4 c4 l4 P5_ A5 c5 l5 w hT hs3 hs4 hs5 h1 h2 h3 h4
  rw [if_neg h4] at h
  simp only [Option.some.injEq, Prod.mk.injEq] at h
  obtain ⟨rfl, rfl, rfl, rfl⟩ := h
  exact vc_zero k a0_0 a0_1 a0_2 a0_3 a0_4 a0_5 a1 a2 P3_ A3 c3 l3 P4_ A4 c4 l4 P5_ A5 c5 l5 w hT hs3 hs4 hs5 h1 h2 h3 h4
 rw [if_neg h3] at h
 by_cases h4 : l3.length = 0
 ·rw [if_pos h4] at h
  simp only [Option.some.injEq, Prod.mk.injEq] at h
  obtain ⟨rfl, rfl, rfl, rfl⟩ := h
  exact vc_e4 k a0_0 a0_1 a0_2 a0_3 a0_4 a0_5 a1 a2 P3_ A3 c3 l3 P4_ A4 c4 l4 P5_ A5 c5 l5 w hT hs3 hs4 hs5 h1 h2 h3 h4
 rw [if_neg h4] at h
 obtain ⟨⟨d1, d2⟩, hd, h⟩ := Option.bind_eq_some_iff.mp h
 obtain ⟨s, hs, h⟩ := Option.bind_eq_some_iff.mp h
 dsimp only at h
 by_cases hg : 0 ≤ s ∧ s ≤ d1 ∧ d1 ≤ 64 ∧ 0 ≤ d2 ∧ d2 ≤ 64
 ·rw [if_pos hg] at h
  obtain ⟨g1, g2, g3, g4, g5⟩ := hg
  by_cases hp : a1 = shl .u64 1 s
  ·rw [if_pos hp] at h
   by_cases hl : (l3.length : Int) = d1 - s + d2
   ·rw [if_pos hl] at h
    obtain ⟨x1, x2, hx1, hx2, hx | hx⟩ := vc_tail_open _ _ _ _ _ _ _ _ _ _ _ _ _ _ h
    ·obtain ⟨hx3, hr⟩ := hx
     simp only [Prod.mk.injEq] at hr
     obtain ⟨rfl, rfl, rfl, rfl⟩ := hr
     exact vc_mp_d1 k a0_0 a0_1 a0_2 a0_3 a0_4 a0_5 a1 a2 P3_ A3 c3 l3 P4_ A4 c4 l4 P5_ A5 c5 l5 w hT hs3 hs4 hs5 h1 h2 h3 h4 d1 d2 s hd hs g1 g2 g3 g4 g5 hp hl x1 _ hx1 hx2 hx3
    ·obtain ⟨hx3, x4, x5, hx4, hx5, hx | hx⟩ := hx
     ·obtain ⟨hx6, hr⟩ := hx
      simp only [Prod.mk.injEq] at hr
      obtain ⟨rfl, rfl, rfl, rfl⟩ := hr
      exact vc_mp_ok k a0_0 a0_1 a0_2 a0_3 a0_4 a0_5 a1 a2 P3_ A3 c3 l3 P4_ A4 c4 l4 P5_ A5 c5 l5 w hT hs3 hs4 hs5 h1 h2 h3 h4 d1 d2 s hd hs g1 g2 g3 g4 g5 hp hl x1 x2 hx1 hx2 hx3 x4 x5 hx4 hx5 hx6
     ·obtain ⟨hx6, hr⟩ := hx
      simp only [Prod.mk.injEq] at hr
      obtain ⟨rfl, rfl, rfl, rfl⟩ := hr
      exact vc_mp_d2 k a0_0 a0_1 a0_2 a0_3 a0_4 a0_5 a1 a2 P3_ A3 c3 l3 P4_ A4 c4 l4 P5_ A5 c5 l5 w hT hs3 hs4 hs5 h1 h2 h3 h4 d1 d2 s hd hs g1 g2 g3 g4 g5 hp hl x1 x2 hx1 hx2 hx3 x4 _ hx4 hx5 hx6
   ·rw [if_neg hl] at h
    simp only [Option.some.injEq, Prod.mk.injEq] at h
    obtain ⟨rfl, rfl, rfl, rfl⟩ := h
    exact vc_mp_len k a0_0 a0_1 a0_2 a0_3 a0_4 a0_5 a1 a2 P3_ A3 c3 l3 P4_ A4 c4 l4 P5_ A5 c5 l5 w hT hs3 hs4 hs5 h1 h2 h3 h4 d1 d2 s hd hs g1 g2 g3 g4 g5 hp hl
  ·rw [if_neg hp] at h
   by_cases hl : (l3.length : Int) = 1 + (d1 - s) + d2
   ·rw [if_pos hl] at h
    obtain ⟨x1, x2, hx1, hx2, hx | hx⟩ := vc_tail_open _ _ _ _ _ _ _ _ _ _ _ _ _ _ h
    ·obtain ⟨hx3, hr⟩ := hx
     simp only [Prod.mk.injEq] at hr
     obtain ⟨rfl, rfl, rfl, rfl⟩ := hr
     exact vc_mq_d1 k a0_0 a0_1 a0_2 a0_3 a0_4 a0_5 a1 a2 P3_ A3 c3 l3 P4_ A4 c4 l4 P5_ A5 c5 l5 w hT hs3 hs4 hs5 h1 h2 h3 h4 d1 d2 s hd hs g1 g2 g3 g4 g5 hp hl x1 _ hx1 hx2 hx3
    ·obtain ⟨hx3, x4, x5, hx4, hx5, hx | hx⟩ := hx
     ·obtain ⟨hx6, hr⟩ := hx
      simp only [Prod.mk.injEq] at hr
      obtain ⟨rfl, rfl, rfl, rfl⟩ := hr
      exact vc_mq_ok k a0_0 a0_1 a0_2 a0_3 a0_4 a0_5 a1 a2 P3_ A3 c3 l3 P4_ A4 c4 l4 P5_ A5 c5 l5 w hT hs3 hs4 hs5 h1 h2 h3 h4 d1 d2 s hd hs g1 g2 g3 g4 g5 hp hl x1 x2 hx1 hx2 hx3 x4 x5 hx4 hx5 hx6
     ·obtain ⟨hx6, hr⟩ := hx
      simp only [Prod.mk.injEq] at hr
      obtain ⟨rfl, rfl, rfl, rfl⟩ := hr
      exact vc_mq_d2 k a0_0 a0_1 a0_2 a0_3 a0_4 a0_5 a1 a2 P3_ A3 c3 l3 P4_ A4 c4 l4 P5_ A5 c5 l5 w hT hs3 hs4 hs5 h1 h2 h3 h4 d1 d2 s hd hs g1 g2 g3 g4 g5 hp hl x1 x2 hx1 hx2 hx3 x4 _ hx4 hx5 hx6
   ·rw [if_neg hl] at h
    simp only [Option.some.injEq, Prod.mk.injEq] at h
    obtain ⟨rfl, rfl, rfl, rfl⟩ := h
    exact vc_mq_len k a0_0 a0_1 a0_2 a0_3 a0_4 a0_5 a1 a2 P3_ A3 c3 l3 P4_ A4 c4 l4 P5_ A5 c5 l5 w hT hs3 hs4 hs5 h1 h2 h3 h4 d1 d2 s hd hs g1 g2 g3 g4 g5 hp hl
 ·rw [if_neg hg] at h
  cases h

end Go.Proofs.YtkmdkmlgahfcpaaDoor.M

