import Derived.Test.YtkmdkmlgahfcpaaDoorSr
import Derived.Test.YtkmdkmlgahfcpaaDoorMm1
import Derived.Test.YtkmdkmlgahfcpaaDoorMm2
import Derived.Test.YtkmdkmlgahfcpaaDoorMm4
import Derived.Test.YtkmdkmlgahfcpaaDoorMm3
namespace Go.Proofs.YtkmdkmlgahfcpaaDoor.M
open Go.RowKit Go.Proofs.YtkmdkmlgahfcpaaDoorW.PrintWords Go.Proofs.YtkmdkmlgahfcpaaDoorW.PrintLast Go.Proofs.YtkmdkmlgahfcpaaDoorW.PrintMore
attribute [local go_sem] max2_int min2_int max_two min_two max_three min_three max_four min_four
set_option linter.unusedVariables false
set_option linter.unusedSimpArgs false
def vcTail (k : Nat) (a0_0 a0_1 a0_2 a0_3 a0_4 a0_5 : Int) (seed : List Int) (rest : List (List Int)) (inn mask : Int) (l4 l5 : List Int) : Option (Int × List Int × List Int × List Int) :=
 (proof_chainInnerRight.f k a0_0 a0_1 a0_2 a0_3 a0_4 a0_5 seed (rest.take inn.toNat) mask).bind fun h1 => (proof_chainBorderRight.f k a0_0 a0_1 a0_2 a0_3 a0_4 a0_5 h1 (rest.drop inn.toNat)).bind fun h2 => (bytes_Equal.f h2 l4).bind fun t => if t = true then
  ((proof_chainInner.f k a0_0 a0_1 a0_2 a0_3 a0_4 a0_5 seed (rest.take inn.toNat) mask).bind fun h3 => (proof_chainBorderRight.f k a0_0 a0_1 a0_2 a0_3 a0_4 a0_5 h3 (rest.drop inn.toNat)).bind fun h4 => (bytes_Equal.f h4 l5).bind fun t2 => if t2 = true then some (0, [], [], []) else none)
 else none
def proof_VerifyConsistency.f (k : Nat) (a0_0 a0_1 a0_2 a0_3 a0_4 a0_5 : Int) (a1 a2 : Int) (l3 : List (List Int)) (l4 l5 : List Int) : Option (Int × List Int × List Int × List Int) :=
 if a2 < a1 then none else if a1 = a2 then (if 0 < l3.length then none else (bytes_Equal.f l4 l5).bind fun t => if t = true then some (0, [], [], []) else none)
 else if a1 = 0 then none
 else if l3.length = 0 then none
 else (proof_decompInclProof.f (IntKind.u64.wrap (a1 - 1)) a2).bind fun d => (bits_TrailingZeros64.f a1).bind fun s =>
  if 0 ≤ s ∧ s ≤ d.1 ∧ d.1 ≤ 64 ∧ 0 ≤ d.2 ∧ d.2 ≤ 64 then
   (if a1 = shl .u64 1 s then (if (l3.length : Int) = d.1 - s + d.2 then vcTail k a0_0 a0_1 a0_2 a0_3 a0_4 a0_5 l4 l3 (d.1 - s) (shr .u64 (IntKind.u64.wrap (a1 - 1)) s) l4 l5 else none)
   else if (l3.length : Int) = 1 + (d.1 - s) + d.2 then vcTail k a0_0 a0_1 a0_2 a0_3 a0_4 a0_5 (l3.getD 0 []) (l3.drop 1) (d.1 - s) (shr .u64 (IntKind.u64.wrap (a1 - 1)) s) l4 l5 else none)
  else none
theorem vc_dummy (d : Kd Int) (e : Nat) (W : World) (base : Nat) (ok : Nat → Prop) (p : Option Addr) : Kd.V d e W base ok (.slice p 0 0) [] := ⟨p, 0, rfl, Nat.le_refl _, fun W' _ => ⟨rfl, by decide, fun h => absurd h (Nat.lt_irrefl _)⟩⟩
theorem vc_base {d : Kd Int} {e : Nat} {W : World} {b b' : Nat} {ok : Nat → Prop} {v : Value} {xs : List Int} (h : Kd.V d e W b ok v xs) : Kd.V d e W b' ok v xs := h
theorem vc_info : (Tryd.prog.info? 27).map (fun i => (i.zero, i.size, i.bytes)) = some (some (.slice none 0 0), 1, 24) := by kernel_rfl
theorem vc_from (A : Option Addr) (c : Nat) (l : List (List Int)) (j : Int) (hl : l.length ≤ c) (h0 : 0 ≤ j) (hj : j ≤ l.length) : ∃ A' c', (∀ W, (Instr.slice 25 (.slice A l.length c) (some (.int .i64 j)) none none).run Tryd.prog W = .ok (.slice A' (l.drop j.toNat).length c') W) ∧ (l.drop j.toNat).length ≤ c' ∧ (∀ w, Kd.C (Kd.slice 5 (Kd.int .u8)) w A l.length l → Kd.C (Kd.slice 5 (Kd.int .u8)) w A' (l.drop j.toNat).length (l.drop j.toNat)) := by
 obtain ⟨i0, hi, _, hsz, _⟩ := info_parts vc_info
 have h := cut_from (P := Tryd.prog) 25 27 .i64 Tryd.underlying25 hi 1 hsz A l.length c j h0 hj
 refine ⟨_, _, fun W => by rw [h W, List.length_drop], by rw [List.length_drop]; omega, fun w hC => ?_⟩
 exact Kd.C_drop hC (by omega) hl
theorem vc_to (A : Option Addr) (c : Nat) (l : List (List Int)) (j : Int) (hl : l.length ≤ c) (h0 : 0 ≤ j) (hj : j ≤ l.length) : (∀ W, (Instr.slice 25 (.slice A l.length c) none (some (.int .i64 j)) none).run Tryd.prog W = .ok (.slice A (l.take j.toNat).length c) W) ∧ (l.take j.toNat).length ≤ c ∧ (∀ w, Kd.C (Kd.slice 5 (Kd.int .u8)) w A l.length l → Kd.C (Kd.slice 5 (Kd.int .u8)) w A (l.take j.toNat).length (l.take j.toNat)) := by
 obtain ⟨i0, hi, _, hsz, _⟩ := info_parts vc_info
 have h := cut_to (P := Tryd.prog) 25 27 .i64 Tryd.underlying25 hi A l.length c j h0 hj hl
 refine ⟨fun W => ?_, by rw [List.length_take]; omega, fun w hC => Kd.C_take hC (by omega)⟩
 rw [h W, List.length_take, Nat.min_eq_left (by omega)]
set_option maxRecDepth 100000 in
set_option maxHeartbeats 2000000 in
set_option maxRecDepth 100000 in
set_option maxHeartbeats 2000000 in
set_option maxRecDepth 100000 in
set_option maxHeartbeats 2000000 in
set_option maxRecDepth 100000 in
set_option maxHeartbeats 2000000 in
set_option maxRecDepth 100000 in
set_option maxHeartbeats 2000000 in
theorem vc_eqsame (k : Nat) (a0_0 a0_1 a0_2 a0_3 a0_4 a0_5 : Int) (a1 a2 : Int) (P3_ : Nat → Prop) (A3 : Option Addr) (c3 : Nat) (l3 : List (List Int)) (P4_ : Nat → Prop) (A4 : Option Addr) (c4 : Nat) (l4 : List Int) (P5_ : Nat → Prop) (A5 : Option Addr) (c5 : Nat) (l5 : List Int) (w : World) (hT : TabOK w) (hs3 : Kd.V (Kd.slice 5 (Kd.int .u8)) 27 w w.heap.size (fun k_ => P3_ k_) (.slice A3 l3.length c3) l3) (hs4 : Kd.V (Kd.int .u8) 5 w w.heap.size (fun k_ => P4_ k_) (.slice A4 l4.length c4) l4) (hs5 : Kd.V (Kd.int .u8) 5 w w.heap.size (fun k_ => P5_ k_) (.slice A5 l5.length c5) l5) (h1 : ¬ a2 < a1) (h2 : a1 = a2) (h3 : ¬ 0 < l3.length) (ht : bytes_Equal.f l4 l5 = some true) :
  Calls Tryd.prog 49 #[.iface 85 (.agg #[.int .i64 a0_0, .int .i64 a0_1, .int .i64 a0_2, .int .u64 a0_3, .int .u64 a0_4, .int .u64 a0_5]), .int .u64 a1, .int .u64 a2, .slice A3 l3.length c3, .slice A4 l4.length c4, .slice A5 l5.length c5] w fun e w' => ∃ v0_ v1_ v2_ : Value, e = .returned (errVc #[.int .i64 0, v0_, v1_, v2_]) ∧ Kd.V (Kd.int .u8) 5 w' w.heap.size (fun k_ => ((P3_ k_ ∨ P4_ k_ ∨ P5_ k_) ∨ w.heap.size ≤ k_)) v0_ [] ∧ Kd.V (Kd.int .u8) 5 w' w.heap.size (fun k_ => ((P3_ k_ ∨ P4_ k_ ∨ P5_ k_) ∨ w.heap.size ≤ k_)) v1_ [] ∧ Kd.V (Kd.int .u8) 5 w' w.heap.size (fun k_ => ((P3_ k_ ∨ P4_ k_ ∨ P5_ k_) ∨ w.heap.size ≤ k_)) v2_ [] ∧ Below w.heap.size w w' := by
 have HT := zM hT
 have HS3 := zM hs3
 have HS4 := zM hs4
 have HS5 := zM hs5
 clear hT hs3 hs4 hs5
 have HTE := zM ht
 clear ht
 have b1 : decide (a2 < a1) = false := decide_eq_false h1
 subst h2
 have b2 : (a1 == a1) = true := beq_self_eq_true _
 have b3 : decide ((l3.length : Int) > 0) = false := decide_eq_false (by omega)
 have b4 : ¬ (0 : Int) < (l3.length : Int) := by omega
 go_enter Tryd.func49, Tryd.ntmps49
 go_wp2_with (go_at_call 81; (with_reducible refine (proof_verifyMatch.same _ _ l4 _ _ l5 _ (Kd.V_reads' HS4.out).2.2 (Kd.V_reads' HS4.out).2.1 (Kd.V_reads' HS5.out).2.2 (Kd.V_reads' HS5.out).2.1 HTE.out).mono ?_); rintro e w2 ⟨rfl, hB2⟩; have HB2 := zM hB2; clear hB2)
 go_ret
 exact ⟨.slice none 0 0, .slice none 0 0, .slice none 0 0, rfl, vc_dummy _ _ _ _ _ _, vc_dummy _ _ _ _ _ _, vc_dummy _ _ _ _ _ _, HB2.out⟩
set_option maxRecDepth 100000 in
set_option maxHeartbeats 2000000 in
set_option maxRecDepth 100000 in
set_option maxHeartbeats 2000000 in
set_option maxRecDepth 100000 in
set_option maxHeartbeats 2000000 in
set_option maxRecDepth 100000 in
set_option maxHeartbeats 2000000 in
set_option maxRecDepth 100000 in
set_option maxHeartbeats 2000000 in
set_option maxRecDepth 100000 in
set_option maxHeartbeats 2000000 in
theorem vc_mp_ok (k : Nat) (a0_0 a0_1 a0_2 a0_3 a0_4 a0_5 : Int) (a1 a2 : Int) (P3_ : Nat → Prop) (A3 : Option Addr) (c3 : Nat) (l3 : List (List Int)) (P4_ : Nat → Prop) (A4 : Option Addr) (c4 : Nat) (l4 : List Int) (P5_ : Nat → Prop) (A5 : Option Addr) (c5 : Nat) (l5 : List Int) (w : World) (hT : TabOK w) (hs3 : Kd.V (Kd.slice 5 (Kd.int .u8)) 27 w w.heap.size (fun k_ => P3_ k_) (.slice A3 l3.length c3) l3) (hs4 : Kd.V (Kd.int .u8) 5 w w.heap.size (fun k_ => P4_ k_) (.slice A4 l4.length c4) l4) (hs5 : Kd.V (Kd.int .u8) 5 w w.heap.size (fun k_ => P5_ k_) (.slice A5 l5.length c5) l5) (h1 : ¬ a2 < a1) (h2 : ¬ a1 = a2) (h3 : ¬ a1 = 0) (h4 : ¬ l3.length = 0) (d1 d2 s : Int) (hd : proof_decompInclProof.f (IntKind.u64.wrap (a1 - 1)) a2 = some (d1, d2)) (hs : bits_TrailingZeros64.f a1 = some s) (g1 : 0 ≤ s) (g2 : s ≤ d1) (g3 : d1 ≤ 64) (g4 : 0 ≤ d2) (g5 : d2 ≤ 64) (hp : a1 = shl .u64 1 s) (hl : (l3.length : Int) = d1 - s + d2) (x1 x2 : List Int) (hx1 : proof_chainInnerRight.f k a0_0 a0_1 a0_2 a0_3 a0_4 a0_5 l4 (l3.take (d1 - s).toNat) (shr .u64 (IntKind.u64.wrap (a1 - 1)) s) = some x1) (hx2 : proof_chainBorderRight.f k a0_0 a0_1 a0_2 a0_3 a0_4 a0_5 x1 (l3.drop (d1 - s).toNat) = some x2) (hx3 : bytes_Equal.f x2 l4 = some true) (x4 x5 : List Int) (hx4 : proof_chainInner.f k a0_0 a0_1 a0_2 a0_3 a0_4 a0_5 l4 (l3.take (d1 - s).toNat) (shr .u64 (IntKind.u64.wrap (a1 - 1)) s) = some x4) (hx5 : proof_chainBorderRight.f k a0_0 a0_1 a0_2 a0_3 a0_4 a0_5 x4 (l3.drop (d1 - s).toNat) = some x5) (hx6 : bytes_Equal.f x5 l5 = some true) :
  Calls Tryd.prog 49 #[.iface 85 (.agg #[.int .i64 a0_0, .int .i64 a0_1, .int .i64 a0_2, .int .u64 a0_3, .int .u64 a0_4, .int .u64 a0_5]), .int .u64 a1, .int .u64 a2, .slice A3 l3.length c3, .slice A4 l4.length c4, .slice A5 l5.length c5] w fun e w' => ∃ v0_ v1_ v2_ : Value, e = .returned (errVc #[.int .i64 0, v0_, v1_, v2_]) ∧ Kd.V (Kd.int .u8) 5 w' w.heap.size (fun k_ => ((P3_ k_ ∨ P4_ k_ ∨ P5_ k_) ∨ w.heap.size ≤ k_)) v0_ [] ∧ Kd.V (Kd.int .u8) 5 w' w.heap.size (fun k_ => ((P3_ k_ ∨ P4_ k_ ∨ P5_ k_) ∨ w.heap.size ≤ k_)) v1_ [] ∧ Kd.V (Kd.int .u8) 5 w' w.heap.size (fun k_ => ((P3_ k_ ∨ P4_ k_ ∨ P5_ k_) ∨ w.heap.size ≤ k_)) v2_ [] ∧ Below w.heap.size w w' := by
 have HT := zM hT
 have HS3 := zM hs3
 have HS4 := zM hs4
 have HS5 := zM hs5
 clear hT hs3 hs4 hs5
 have b1 : decide (a2 < a1) = false := decide_eq_false h1
 have b2 : (a1 == a2) = false := beq_eq_false_iff_ne.mpr h2
 have b3 : (a1 == 0) = false := beq_eq_false_iff_ne.mpr h3
 have b5 : ((l3.length : Int) == 0) = false := beq_eq_false_iff_ne.mpr (by omega)
 obtain ⟨ad, hAd⟩ : ∃ ad, A3 = some ad := by
  obtain ⟨ad, _, _, e, _⟩ := at_L1 (Kd.V_reads' HS3.out).2.2 0 (by omega) (by omega)
  exact ⟨ad, e⟩
 subst hAd
 obtain ⟨cs, hcs, hFK, hcell⟩ := Kd.V_get HS3.out ([] : List Int) 0 (by omega) (by omega)
 obtain ⟨A0, c0, rfl, hc0, hF0⟩ := Kd.FK_slice_open hFK
 have hS0 : Kd.V (Kd.int .u8) 5 w w.heap.size (fun k_ => P3_ k_) (.slice A0 (l3.getD 0 []).length c0) (l3.getD 0 []) := Kd.V_mk hc0 hF0
 have ecell : w.cell? ad = some (.slice A0 (l3.getD 0 []).length c0) := by
  have e := hcell 0 _ rfl
  rwa [show ad.add ((0 : Int).toNat * (Kd.slice 5 (Kd.int .u8)).sz + 0) = ad from by cases ad; rfl] at e
 have bN : 0 < l3.length := by omega
 clear hcell hcs hFK hF0 hc0
 have HS0 := zM hS0
 clear hS0
 generalize hx0 : l3.getD 0 [] = x0 at HS0 ecell
 obtain ⟨m, hm⟩ : ∃ m, IntKind.u64.wrap (a1 - 1) = m := ⟨_, rfl⟩
 rw [hm] at hd
 obtain ⟨mk, hmk⟩ : ∃ mk, shr .u64 m s = mk := ⟨_, rfl⟩
 have hmkz : m / 2 ^ s.toNat = mk := shr_small hmk (by show s ≤ 64; omega)
 obtain ⟨pw, hpw⟩ : ∃ pw, shl .u64 1 s = pw := ⟨_, rfl⟩
 have hpwz : IntKind.u64.wrap (2 ^ s.toNat) = pw := by have h := shl_small hpw (by show s ≤ 64; omega); rwa [Int.one_mul] at h
 rw [hpw] at hp
 have bp : (a1 == pw) = true := beq_iff_eq.mpr hp
 clear hp
 obtain ⟨inn, hin⟩ : ∃ inn, d1 - s = inn := ⟨_, rfl⟩
 have i0 : 0 ≤ inn := by omega
 have i1 : inn ≤ 64 := by omega
 have hinw : IntKind.i64.wrap (d1 - s) = inn := by rw [i64_w]; unfold wrap64; omega
 have bl : ((l3.length : Int) == inn + d2) = true := beq_iff_eq.mpr (by omega)
 have bl2 : ((l3.length : Int) != inn + d2) = false := by rw [bne, bl]; rfl
 rw [hm, hmk, hin] at hx1
 rw [hin] at hx2
 obtain ⟨A6, c6, hcut, hc6, hC6⟩ := vc_from (some ad) c3 l3 0 (Kd.V_reads' HS3.out).2.1 (by omega) (by omega)
 obtain ⟨Rs, hRs⟩ : ∃ Rs, Rs = l3.drop (0 : Int).toNat := ⟨_, rfl⟩
 have hRl : Rs.length = l3.length - 0 := by rw [hRs]; simp
 rw [← hRs] at hcut hc6
 replace hC6 := hC6 w (Kd.V_reads' HS3.out).2.2
 rw [← hRs] at hC6
 obtain ⟨A7, c7, hcut7, hc7, hC7⟩ := vc_from A6 c6 Rs inn hc6 i0 (by omega)
 obtain ⟨hcut8, hc8, hC8⟩ := vc_to A6 c6 Rs inn hc6 i0 (by omega)
 replace hC7 := hC7 w hC6
 replace hC8 := hC8 w hC6
 have hx1 : proof_chainInnerRight.f k a0_0 a0_1 a0_2 a0_3 a0_4 a0_5 l4 (Rs.take inn.toNat) mk = some x1 := by rw [hRs]; exact hx1
 have hx2 : proof_chainBorderRight.f k a0_0 a0_1 a0_2 a0_3 a0_4 a0_5 x1 (Rs.drop inn.toNat) = some x2 := by rw [hRs]; exact hx2
 rw [hm, hmk, hin] at hx4
 rw [hin] at hx5
 have hx4 : proof_chainInner.f k a0_0 a0_1 a0_2 a0_3 a0_4 a0_5 l4 (Rs.take inn.toNat) mk = some x4 := by rw [hRs]; exact hx4
 have hx5 : proof_chainBorderRight.f k a0_0 a0_1 a0_2 a0_3 a0_4 a0_5 x4 (Rs.drop inn.toNat) = some x5 := by rw [hRs]; exact hx5
 clear hx0 hRs hRl hl hC6 hc6 hin
 generalize Rs.drop inn.toNat = Rb at *
 generalize Rs.take inn.toNat = Ra at *
 have HC7 := zM hC7
 clear hC7
 have HC8 := zM hC8
 clear hC8
 have Hc7 := zM hc7
 clear hc7
 have Hc8 := zM hc8
 clear hc8
 have Hx1 := zM hx1
 clear hx1
 have Hx2 := zM hx2
 clear hx2
 have Hx3 := zM hx3
 clear hx3
 have Hx4 := zM hx4
 clear hx4
 have Hx5 := zM hx5
 clear hx5
 have Hx6 := zM hx6
 clear hx6
 have HD := zM hd
 have HSZ := zM hs
 clear hd hs h4
 go_enter Tryd.func49, Tryd.ntmps49
 go_wp2_with (first | (go_at_call 82; (with_reducible refine (proof_decompInclProof.calls m a2 d1 d2 _ HD.out).mono ?_); rintro e w' ⟨rfl, ⟨nd, rfl⟩⟩) | (go_at_call 83; (with_reducible refine (bits_TrailingZeros64.calls a1 s _ (TabOK.below HT.out (pw_below_drewN (Below.refl _ _) _)) HSZ.out).mono ?_); rintro e w' ⟨rfl, ⟨nd2, rfl⟩⟩; have HB := zM (pw_below_drewN (pw_below_drewN (Below.refl w.heap.size w) nd) nd2); replace ecell := (HB.out.cell (World.block_lt_of_cell? w _ ecell)).trans ecell; generalize (w.drewN nd).drewN nd2 = w2 at HB ecell ⊢) | (go_at_call 84; (with_reducible refine (proof_chainInnerRight.calls k a0_0 a0_1 a0_2 a0_3 a0_4 a0_5 P4_ _ _ l4 _ _ Ra mk x1 _ (vc_base (Kd.V_below HS4.out HB.out)) (Kd.C_below HC8.out HB.out) Hc8.out Hx1.out).mono ?_); rintro e w3 ⟨v, rfl, ho, hB⟩; obtain ⟨Ao3, co3, rfl⟩ := Kd.V_slice ho; have HO3 := zM ho; have HBL3 := zM hB; have HB3 := zM (below_step HB.out hB); clear ho hB) | (go_at_call 85; (with_reducible refine (proof_chainBorderRight.calls k a0_0 a0_1 a0_2 a0_3 a0_4 a0_5 (fun k_ => (P4_ k_ ∨ w2.heap.size ≤ k_)) _ _ x1 _ _ Rb x2 _ (vc_base HO3.out) (Kd.C_below HC7.out HB3.out) Hc7.out Hx2.out).mono ?_); rintro e w4 ⟨v, rfl, ho, hB⟩; obtain ⟨Ao4, co4, rfl⟩ := Kd.V_slice ho; have HO4 := zM ho; have HBL4 := zM hB; have HB4 := zM (below_step HB3.out hB); clear ho hB) | (go_at_call 81; (with_reducible refine (proof_verifyMatch.same _ _ x2 _ _ l4 _ (Kd.V_reads' HO4.out).2.2 (Kd.V_reads' HO4.out).2.1 (Kd.V_reads' (Kd.V_below HS4.out HB4.out)).2.2 (Kd.V_reads' HS4.out).2.1 Hx3.out).mono ?_); rintro e w5 ⟨rfl, hB2⟩; have HBL5 := zM hB2; have HB5 := zM (below_step HB4.out hB2); clear hB2) | (go_at_call 86; (with_reducible refine (proof_chainInner.calls k a0_0 a0_1 a0_2 a0_3 a0_4 a0_5 P4_ _ _ l4 _ _ Ra mk x4 _ (vc_base (Kd.V_below HS4.out HB5.out)) (Kd.C_below HC8.out HB5.out) Hc8.out Hx4.out).mono ?_); rintro e w6 ⟨v, rfl, ho, hB⟩; obtain ⟨Ao6, co6, rfl⟩ := Kd.V_slice ho; have HO6 := zM ho; have HBL6 := zM hB; have HB6 := zM (below_step HB5.out hB); clear ho hB) | (go_at_call 85; (with_reducible refine (proof_chainBorderRight.calls k a0_0 a0_1 a0_2 a0_3 a0_4 a0_5 (fun k_ => (P4_ k_ ∨ w5.heap.size ≤ k_)) _ _ x4 _ _ Rb x5 _ (vc_base HO6.out) (Kd.C_below HC7.out HB6.out) Hc7.out Hx5.out).mono ?_); rintro e w7 ⟨v, rfl, ho, hB⟩; obtain ⟨Ao7, co7, rfl⟩ := Kd.V_slice ho; have HO7 := zM ho; have HBL7 := zM hB; have HB7 := zM (below_step HB6.out hB); clear ho hB) | (go_at_call 81; (with_reducible refine (proof_verifyMatch.same _ _ x5 _ _ l5 _ (Kd.V_reads' HO7.out).2.2 (Kd.V_reads' HO7.out).2.1 (Kd.V_reads' (Kd.V_below HS5.out HB7.out)).2.2 (Kd.V_reads' HS5.out).2.1 Hx6.out).mono ?_); rintro e w8 ⟨rfl, hB2⟩; have HBL8 := zM hB2; have HB8 := zM (below_step HB7.out hB2); clear hB2))
 go_ret
 exact ⟨.slice none 0 0, .slice none 0 0, .slice none 0 0, rfl, vc_dummy _ _ _ _ _ _, vc_dummy _ _ _ _ _ _, vc_dummy _ _ _ _ _ _, HB8.out⟩
set_option maxRecDepth 100000 in
set_option maxHeartbeats 2000000 in
set_option maxRecDepth 100000 in
set_option maxHeartbeats 2000000 in
set_option maxRecDepth 100000 in
set_option maxHeartbeats 2000000 in
set_option maxRecDepth 100000 in
set_option maxHeartbeats 2000000 in
theorem vc_mq_ok (k : Nat) (a0_0 a0_1 a0_2 a0_3 a0_4 a0_5 : Int) (a1 a2 : Int) (P3_ : Nat → Prop) (A3 : Option Addr) (c3 : Nat) (l3 : List (List Int)) (P4_ : Nat → Prop) (A4 : Option Addr) (c4 : Nat) (l4 : List Int) (P5_ : Nat → Prop) (A5 : Option Addr) (c5 : Nat) (l5 : List Int) (w : World) (hT : TabOK w) (hs3 : Kd.V (Kd.slice 5 (Kd.int .u8)) 27 w w.heap.size (fun k_ => P3_ k_) (.slice A3 l3.length c3) l3) (hs4 : Kd.V (Kd.int .u8) 5 w w.heap.size (fun k_ => P4_ k_) (.slice A4 l4.length c4) l4) (hs5 : Kd.V (Kd.int .u8) 5 w w.heap.size (fun k_ => P5_ k_) (.slice A5 l5.length c5) l5) (h1 : ¬ a2 < a1) (h2 : ¬ a1 = a2) (h3 : ¬ a1 = 0) (h4 : ¬ l3.length = 0) (d1 d2 s : Int) (hd : proof_decompInclProof.f (IntKind.u64.wrap (a1 - 1)) a2 = some (d1, d2)) (hs : bits_TrailingZeros64.f a1 = some s) (g1 : 0 ≤ s) (g2 : s ≤ d1) (g3 : d1 ≤ 64) (g4 : 0 ≤ d2) (g5 : d2 ≤ 64) (hp : ¬ a1 = shl .u64 1 s) (hl : (l3.length : Int) = 1 + (d1 - s) + d2) (x1 x2 : List Int) (hx1 : proof_chainInnerRight.f k a0_0 a0_1 a0_2 a0_3 a0_4 a0_5 (l3.getD 0 []) ((l3.drop 1).take (d1 - s).toNat) (shr .u64 (IntKind.u64.wrap (a1 - 1)) s) = some x1) (hx2 : proof_chainBorderRight.f k a0_0 a0_1 a0_2 a0_3 a0_4 a0_5 x1 ((l3.drop 1).drop (d1 - s).toNat) = some x2) (hx3 : bytes_Equal.f x2 l4 = some true) (x4 x5 : List Int) (hx4 : proof_chainInner.f k a0_0 a0_1 a0_2 a0_3 a0_4 a0_5 (l3.getD 0 []) ((l3.drop 1).take (d1 - s).toNat) (shr .u64 (IntKind.u64.wrap (a1 - 1)) s) = some x4) (hx5 : proof_chainBorderRight.f k a0_0 a0_1 a0_2 a0_3 a0_4 a0_5 x4 ((l3.drop 1).drop (d1 - s).toNat) = some x5) (hx6 : bytes_Equal.f x5 l5 = some true) :
  Calls Tryd.prog 49 #[.iface 85 (.agg #[.int .i64 a0_0, .int .i64 a0_1, .int .i64 a0_2, .int .u64 a0_3, .int .u64 a0_4, .int .u64 a0_5]), .int .u64 a1, .int .u64 a2, .slice A3 l3.length c3, .slice A4 l4.length c4, .slice A5 l5.length c5] w fun e w' => ∃ v0_ v1_ v2_ : Value, e = .returned (errVc #[.int .i64 0, v0_, v1_, v2_]) ∧ Kd.V (Kd.int .u8) 5 w' w.heap.size (fun k_ => ((P3_ k_ ∨ P4_ k_ ∨ P5_ k_) ∨ w.heap.size ≤ k_)) v0_ [] ∧ Kd.V (Kd.int .u8) 5 w' w.heap.size (fun k_ => ((P3_ k_ ∨ P4_ k_ ∨ P5_ k_) ∨ w.heap.size ≤ k_)) v1_ [] ∧ Kd.V (Kd.int .u8) 5 w' w.heap.size (fun k_ => ((P3_ k_ ∨ P4_ k_ ∨ P5_ k_) ∨ w.heap.size ≤ k_)) v2_ [] ∧ Below w.heap.size w w' := by
 have HT := zM hT
 have HS3 := zM hs3
 have HS4 := zM hs4
 have HS5 := zM hs5
 clear hT hs3 hs4 hs5
 have b1 : decide (a2 < a1) = false := decide_eq_false h1
 have b2 : (a1 == a2) = false := beq_eq_false_iff_ne.mpr h2
 have b3 : (a1 == 0) = false := beq_eq_false_iff_ne.mpr h3
 have b5 : ((l3.length : Int) == 0) = false := beq_eq_false_iff_ne.mpr (by omega)
 obtain ⟨ad, hAd⟩ : ∃ ad, A3 = some ad := by
  obtain ⟨ad, _, _, e, _⟩ := at_L1 (Kd.V_reads' HS3.out).2.2 0 (by omega) (by omega)
  exact ⟨ad, e⟩
 subst hAd
 obtain ⟨cs, hcs, hFK, hcell⟩ := Kd.V_get HS3.out ([] : List Int) 0 (by omega) (by omega)
 obtain ⟨A0, c0, rfl, hc0, hF0⟩ := Kd.FK_slice_open hFK
 have hS0 : Kd.V (Kd.int .u8) 5 w w.heap.size (fun k_ => P3_ k_) (.slice A0 (l3.getD 0 []).length c0) (l3.getD 0 []) := Kd.V_mk hc0 hF0
 have ecell : w.cell? ad = some (.slice A0 (l3.getD 0 []).length c0) := by
  have e := hcell 0 _ rfl
  rwa [show ad.add ((0 : Int).toNat * (Kd.slice 5 (Kd.int .u8)).sz + 0) = ad from by cases ad; rfl] at e
 have bN : 0 < l3.length := by omega
 clear hcell hcs hFK hF0 hc0
 have HS0 := zM hS0
 clear hS0
 generalize hx0 : l3.getD 0 [] = x0 at HS0 ecell
 obtain ⟨m, hm⟩ : ∃ m, IntKind.u64.wrap (a1 - 1) = m := ⟨_, rfl⟩
 rw [hm] at hd
 obtain ⟨mk, hmk⟩ : ∃ mk, shr .u64 m s = mk := ⟨_, rfl⟩
 have hmkz : m / 2 ^ s.toNat = mk := shr_small hmk (by show s ≤ 64; omega)
 obtain ⟨pw, hpw⟩ : ∃ pw, shl .u64 1 s = pw := ⟨_, rfl⟩
 have hpwz : IntKind.u64.wrap (2 ^ s.toNat) = pw := by have h := shl_small hpw (by show s ≤ 64; omega); rwa [Int.one_mul] at h
 rw [hpw] at hp
 have bp : (a1 == pw) = false := beq_eq_false_iff_ne.mpr hp
 clear hp
 obtain ⟨inn, hin⟩ : ∃ inn, d1 - s = inn := ⟨_, rfl⟩
 have i0 : 0 ≤ inn := by omega
 have i1 : inn ≤ 64 := by omega
 have hinw : IntKind.i64.wrap (d1 - s) = inn := by rw [i64_w]; unfold wrap64; omega
 have bl : ((l3.length : Int) == 1 + inn + d2) = true := beq_iff_eq.mpr (by omega)
 have bl2 : ((l3.length : Int) != 1 + inn + d2) = false := by rw [bne, bl]; rfl
 rw [hm, hmk, hin] at hx1
 rw [hin] at hx2
 obtain ⟨A6, c6, hcut, hc6, hC6⟩ := vc_from (some ad) c3 l3 1 (Kd.V_reads' HS3.out).2.1 (by omega) (by omega)
 obtain ⟨Rs, hRs⟩ : ∃ Rs, Rs = l3.drop (1 : Int).toNat := ⟨_, rfl⟩
 have hRl : Rs.length = l3.length - 1 := by rw [hRs]; simp
 rw [← hRs] at hcut hc6
 replace hC6 := hC6 w (Kd.V_reads' HS3.out).2.2
 rw [← hRs] at hC6
 obtain ⟨A7, c7, hcut7, hc7, hC7⟩ := vc_from A6 c6 Rs inn hc6 i0 (by omega)
 obtain ⟨hcut8, hc8, hC8⟩ := vc_to A6 c6 Rs inn hc6 i0 (by omega)
 replace hC7 := hC7 w hC6
 replace hC8 := hC8 w hC6
 have hx1 : proof_chainInnerRight.f k a0_0 a0_1 a0_2 a0_3 a0_4 a0_5 x0 (Rs.take inn.toNat) mk = some x1 := by rw [hRs, ← hx0]; exact hx1
 have hx2 : proof_chainBorderRight.f k a0_0 a0_1 a0_2 a0_3 a0_4 a0_5 x1 (Rs.drop inn.toNat) = some x2 := by rw [hRs]; exact hx2
 rw [hm, hmk, hin] at hx4
 rw [hin] at hx5
 have hx4 : proof_chainInner.f k a0_0 a0_1 a0_2 a0_3 a0_4 a0_5 x0 (Rs.take inn.toNat) mk = some x4 := by rw [hRs, ← hx0]; exact hx4
 have hx5 : proof_chainBorderRight.f k a0_0 a0_1 a0_2 a0_3 a0_4 a0_5 x4 (Rs.drop inn.toNat) = some x5 := by rw [hRs]; exact hx5
 clear hx0 hRs hRl hl hC6 hc6 hin
 generalize Rs.drop inn.toNat = Rb at *
 generalize Rs.take inn.toNat = Ra at *
 have HC7 := zM hC7
 clear hC7
 have HC8 := zM hC8
 clear hC8
 have Hc7 := zM hc7
 clear hc7
 have Hc8 := zM hc8
 clear hc8
 have Hx1 := zM hx1
 clear hx1
 have Hx2 := zM hx2
 clear hx2
 have Hx3 := zM hx3
 clear hx3
 have Hx4 := zM hx4
 clear hx4
 have Hx5 := zM hx5
 clear hx5
 have Hx6 := zM hx6
 clear hx6
 have HD := zM hd
 have HSZ := zM hs
 clear hd hs h4
 go_enter Tryd.func49, Tryd.ntmps49
 go_wp2_with (first | (go_at_call 82; (with_reducible refine (proof_decompInclProof.calls m a2 d1 d2 _ HD.out).mono ?_); rintro e w' ⟨rfl, ⟨nd, rfl⟩⟩) | (go_at_call 83; (with_reducible refine (bits_TrailingZeros64.calls a1 s _ (TabOK.below HT.out (pw_below_drewN (Below.refl _ _) _)) HSZ.out).mono ?_); rintro e w' ⟨rfl, ⟨nd2, rfl⟩⟩; have HB := zM (pw_below_drewN (pw_below_drewN (Below.refl w.heap.size w) nd) nd2); replace ecell := (HB.out.cell (World.block_lt_of_cell? w _ ecell)).trans ecell; generalize (w.drewN nd).drewN nd2 = w2 at HB ecell ⊢) | (go_at_call 84; (with_reducible refine (proof_chainInnerRight.calls k a0_0 a0_1 a0_2 a0_3 a0_4 a0_5 P3_ _ _ x0 _ _ Ra mk x1 _ (vc_base (Kd.V_below HS0.out HB.out)) (Kd.C_below HC8.out HB.out) Hc8.out Hx1.out).mono ?_); rintro e w3 ⟨v, rfl, ho, hB⟩; obtain ⟨Ao3, co3, rfl⟩ := Kd.V_slice ho; have HO3 := zM ho; have HBL3 := zM hB; have HB3 := zM (below_step HB.out hB); clear ho hB) | (go_at_call 85; (with_reducible refine (proof_chainBorderRight.calls k a0_0 a0_1 a0_2 a0_3 a0_4 a0_5 (fun k_ => (P3_ k_ ∨ w2.heap.size ≤ k_)) _ _ x1 _ _ Rb x2 _ (vc_base HO3.out) (Kd.C_below HC7.out HB3.out) Hc7.out Hx2.out).mono ?_); rintro e w4 ⟨v, rfl, ho, hB⟩; obtain ⟨Ao4, co4, rfl⟩ := Kd.V_slice ho; have HO4 := zM ho; have HBL4 := zM hB; have HB4 := zM (below_step HB3.out hB); clear ho hB) | (go_at_call 81; (with_reducible refine (proof_verifyMatch.same _ _ x2 _ _ l4 _ (Kd.V_reads' HO4.out).2.2 (Kd.V_reads' HO4.out).2.1 (Kd.V_reads' (Kd.V_below HS4.out HB4.out)).2.2 (Kd.V_reads' HS4.out).2.1 Hx3.out).mono ?_); rintro e w5 ⟨rfl, hB2⟩; have HBL5 := zM hB2; have HB5 := zM (below_step HB4.out hB2); clear hB2) | (go_at_call 86; (with_reducible refine (proof_chainInner.calls k a0_0 a0_1 a0_2 a0_3 a0_4 a0_5 P3_ _ _ x0 _ _ Ra mk x4 _ (vc_base (Kd.V_below HS0.out HB5.out)) (Kd.C_below HC8.out HB5.out) Hc8.out Hx4.out).mono ?_); rintro e w6 ⟨v, rfl, ho, hB⟩; obtain ⟨Ao6, co6, rfl⟩ := Kd.V_slice ho; have HO6 := zM ho; have HBL6 := zM hB; have HB6 := zM (below_step HB5.out hB); clear ho hB) | (go_at_call 85; (with_reducible refine (proof_chainBorderRight.calls k a0_0 a0_1 a0_2 a0_3 a0_4 a0_5 (fun k_ => (P3_ k_ ∨ w5.heap.size ≤ k_)) _ _ x4 _ _ Rb x5 _ (vc_base HO6.out) (Kd.C_below HC7.out HB6.out) Hc7.out Hx5.out).mono ?_); rintro e w7 ⟨v, rfl, ho, hB⟩; obtain ⟨Ao7, co7, rfl⟩ := Kd.V_slice ho; have HO7 := zM ho; have HBL7 := zM hB; have HB7 := zM (below_step HB6.out hB); clear ho hB) | (go_at_call 81; (with_reducible refine (proof_verifyMatch.same _ _ x5 _ _ l5 _ (Kd.V_reads' HO7.out).2.2 (Kd.V_reads' HO7.out).2.1 (Kd.V_reads' (Kd.V_below HS5.out HB7.out)).2.2 (Kd.V_reads' HS5.out).2.1 Hx6.out).mono ?_); rintro e w8 ⟨rfl, hB2⟩; have HBL8 := zM hB2; have HB8 := zM (below_step HB7.out hB2); clear hB2))
 go_ret
 exact ⟨.slice none 0 0, .slice none 0 0, .slice none 0 0, rfl, vc_dummy _ _ _ _ _ _, vc_dummy _ _ _ _ _ _, vc_dummy _ _ _ _ _ _, HB8.out⟩
theorem vc_tail_open (k : Nat) (a0_0 a0_1 a0_2 a0_3 a0_4 a0_5 : Int) (seed : List Int) (rest : List (List Int)) (inn mask : Int) (l4 l5 : List Int) (r : Int × List Int × List Int × List Int) (h : vcTail k a0_0 a0_1 a0_2 a0_3 a0_4 a0_5 seed rest inn mask l4 l5 = some r) :
  ∃ x1 x2, proof_chainInnerRight.f k a0_0 a0_1 a0_2 a0_3 a0_4 a0_5 seed (rest.take inn.toNat) mask = some x1 ∧ proof_chainBorderRight.f k a0_0 a0_1 a0_2 a0_3 a0_4 a0_5 x1 (rest.drop inn.toNat) = some x2 ∧ bytes_Equal.f x2 l4 = some true ∧
   ∃ x4 x5, proof_chainInner.f k a0_0 a0_1 a0_2 a0_3 a0_4 a0_5 seed (rest.take inn.toNat) mask = some x4 ∧ proof_chainBorderRight.f k a0_0 a0_1 a0_2 a0_3 a0_4 a0_5 x4 (rest.drop inn.toNat) = some x5 ∧ bytes_Equal.f x5 l5 = some true ∧ (0, [], [], []) = r := by
 unfold vcTail at h
 obtain ⟨x1, h1, h⟩ := Option.bind_eq_some_iff.mp h
 obtain ⟨x2, h2, h⟩ := Option.bind_eq_some_iff.mp h
 obtain ⟨t, ht, h⟩ := Option.bind_eq_some_iff.mp h
 refine ⟨x1, x2, h1, h2, ?_⟩
 cases t with
 | false => simp at h
 | true =>
  simp only [if_true] at h
  obtain ⟨x4, h4, h⟩ := Option.bind_eq_some_iff.mp h
  obtain ⟨x5, h5, h⟩ := Option.bind_eq_some_iff.mp h
  obtain ⟨t2, ht2, h⟩ := Option.bind_eq_some_iff.mp h
  refine ⟨ht, x4, x5, h4, h5, ?_⟩
  cases t2 with
  | false => simp at h
  | true =>
   simp only [if_true] at h
   exact ⟨ht2, Option.some.inj h⟩
theorem proof_VerifyConsistency.calls (k : Nat) (a0_0 a0_1 a0_2 a0_3 a0_4 a0_5 : Int) (a1 a2 : Int) (P3_ : Nat → Prop) (A3 : Option Addr) (c3 : Nat) (l3 : List (List Int)) (P4_ : Nat → Prop) (A4 : Option Addr) (c4 : Nat) (l4 : List Int) (P5_ : Nat → Prop) (A5 : Option Addr) (c5 : Nat) (l5 : List Int) (r1 : Int) (r2 r3 r4 : List Int) (w : World) (hT : TabOK w) (hs3 : Kd.V (Kd.slice 5 (Kd.int .u8)) 27 w w.heap.size (fun k_ => P3_ k_) (.slice A3 l3.length c3) l3) (hs4 : Kd.V (Kd.int .u8) 5 w w.heap.size (fun k_ => P4_ k_) (.slice A4 l4.length c4) l4) (hs5 : Kd.V (Kd.int .u8) 5 w w.heap.size (fun k_ => P5_ k_) (.slice A5 l5.length c5) l5) (h : proof_VerifyConsistency.f k a0_0 a0_1 a0_2 a0_3 a0_4 a0_5 a1 a2 l3 l4 l5 = some (r1, r2, r3, r4)) :
  Calls Tryd.prog 49 #[.iface 85 (.agg #[.int .i64 a0_0, .int .i64 a0_1, .int .i64 a0_2, .int .u64 a0_3, .int .u64 a0_4, .int .u64 a0_5]), .int .u64 a1, .int .u64 a2, .slice A3 l3.length c3, .slice A4 l4.length c4, .slice A5 l5.length c5] w fun e w' => ∃ v0_ v1_ v2_ : Value, e = .returned (errVc #[.int .i64 r1, v0_, v1_, v2_]) ∧ Kd.V (Kd.int .u8) 5 w' w.heap.size (fun k_ => ((P3_ k_ ∨ P4_ k_ ∨ P5_ k_) ∨ w.heap.size ≤ k_)) v0_ r2 ∧ Kd.V (Kd.int .u8) 5 w' w.heap.size (fun k_ => ((P3_ k_ ∨ P4_ k_ ∨ P5_ k_) ∨ w.heap.size ≤ k_)) v1_ r3 ∧ Kd.V (Kd.int .u8) 5 w' w.heap.size (fun k_ => ((P3_ k_ ∨ P4_ k_ ∨ P5_ k_) ∨ w.heap.size ≤ k_)) v2_ r4 ∧ Below w.heap.size w w' := by
 unfold proof_VerifyConsistency.f at h
 by_cases h1 : a2 < a1
 ·rw [if_pos h1] at h; cases h
 rw [if_neg h1] at h
 by_cases h2 : a1 = a2
 ·rw [if_pos h2] at h
  by_cases h3 : 0 < l3.length
  ·rw [if_pos h3] at h; cases h
  rw [if_neg h3] at h
  obtain ⟨t, ht, h⟩ := Option.bind_eq_some_iff.mp h
  cases t with
  | false => simp at h
  | true =>
   simp only [if_true, Option.some.injEq, Prod.mk.injEq] at h
   obtain ⟨rfl, rfl, rfl, rfl⟩ := h
   exact vc_eqsame k a0_0 a0_1 a0_2 a0_3 a0_4 a0_5 a1 a2 P3_ A3 c3 l3 P4_ A4 c4 l4 P5_ A5 c5 l5 w hT hs3 hs4 hs5 h1 h2 h3 ht
 rw [if_neg h2] at h
 by_cases h3 : a1 = 0
 ·rw [if_pos h3] at h; cases h
 rw [if_neg h3] at h
 by_cases h4 : l3.length = 0
 ·rw [if_pos h4] at h; cases h
 rw [if_neg h4] at h
 obtain ⟨⟨d1, d2⟩, hd, h⟩ := Option.bind_eq_some_iff.mp h
 obtain ⟨s, hs, h⟩ := Option.bind_eq_some_iff.mp h
 dsimp only at h
 by_cases hg : 0 ≤ s ∧ s ≤ d1 ∧ d1 ≤ 64 ∧ 0 ≤ d2 ∧ d2 ≤ 64
 ·rw [if_pos hg] at h
  obtain ⟨g1, g2, g3, g4, g5⟩ := hg
  by_cases hp : a1 = shl .u64 1 s
  ·rw [if_pos hp] at h
   by_cases hl : (l3.length : Int) = d1 - s + d2
   ·rw [if_pos hl] at h
    obtain ⟨x1, x2, hx1, hx2, hx3, x4, x5, hx4, hx5, hx6, hr⟩ := vc_tail_open _ _ _ _ _ _ _ _ _ _ _ _ _ _ h
    simp only [Prod.mk.injEq] at hr
    obtain ⟨rfl, rfl, rfl, rfl⟩ := hr
    exact vc_mp_ok k a0_0 a0_1 a0_2 a0_3 a0_4 a0_5 a1 a2 P3_ A3 c3 l3 P4_ A4 c4 l4 P5_ A5 c5 l5 w hT hs3 hs4 hs5 h1 h2 h3 h4 d1 d2 s hd hs g1 g2 g3 g4 g5 hp hl x1 x2 hx1 hx2 hx3 x4 x5 hx4 hx5 hx6
   ·rw [if_neg hl] at h; cases h
  ·rw [if_neg hp] at h
   by_cases hl : (l3.length : Int) = 1 + (d1 - s) + d2
   ·rw [if_pos hl] at h
    obtain ⟨x1, x2, hx1, hx2, hx3, x4, x5, hx4, hx5, hx6, hr⟩ := vc_tail_open _ _ _ _ _ _ _ _ _ _ _ _ _ _ h
    simp only [Prod.mk.injEq] at hr
    obtain ⟨rfl, rfl, rfl, rfl⟩ := hr
    exact vc_mq_ok k a0_0 a0_1 a0_2 a0_3 a0_4 a0_5 a1 a2 P3_ A3 c3 l3 P4_ A4 c4 l4 P5_ A5 c5 l5 w hT hs3 hs4 hs5 h1 h2 h3 h4 d1 d2 s hd hs g1 g2 g3 g4 g5 hp hl x1 x2 hx1 hx2 hx3 x4 x5 hx4 hx5 hx6
   ·rw [if_neg hl] at h; cases h
 ·rw [if_neg hg] at h
  cases h
def impl_VerifyConsistency.f (k : Nat) (a0_0 : Int) (a0_1 : Int) (a0_2 : Int) (a0_3 : Int) (a0_4 : Int) (a0_5 : Int) (a1 : Int) (a2 : Int) (l3 : List (List Int)) (l4 : List Int) (l5 : List Int) : Option (Int × List Int) := (impl_texts.f k l3).bind fun t390 => ((some (([] : List Int) : List Int)).bind fun y393 => (if y393.length + l4.length < 140737488355328 then ((some (([] : List Int) : List Int)).bind fun y399 => (if y399.length + l5.length < 140737488355328 then ((proof_VerifyConsistency.f k a0_0 a0_1 a0_2 a0_3 a0_4 a0_5 a1 a2 t390 (y393 ++ l4) (y399 ++ l5)).bind fun bt405 => ((impl_verdict.f k bt405.1 bt405.2.1 bt405.2.2.1 bt405.2.2.2).bind fun bt415 => (some (bt415.1, bt415.2)))) else (none))) else (none)))
def impl_VerifyConsistency.T1 : Bool × List (List Nat × List Nat) := (true, [([], []), ([0], [0]), ([1], [1]), ([], []), ([], []), ([], []), ([5], [5]), ([], []), ([], []), ([7, 8, 6], [7, 8]), ([], []), ([], []), ([10, 11, 9], [10, 11]), ([2, 3, 4, 6, 9, 12, 12], [2, 3, 4, 6, 9, 12]), ([13, 13], [13]), ([14], [14]), ([14], [14]), ([15, 14, 0, 1, 2, 3, 4, 5, 6, 7, 8, 9, 10, 11, 12, 13, 14, 15, 16], [15]), ([16, 17, 0, 1, 2, 3, 4, 5, 6, 7, 8, 9, 10, 11, 12, 13, 14, 15, 16, 17], [16])])
def impl_VerifyConsistency.B1 : List Nat := [0, 1, 3, 0, 0, 0, 32, 0, 0, 480, 0, 0, 4064, 8191, 16383, 32767, 32767, 131071, 262143]
theorem impl_VerifyConsistency.tab1 : rtab .any (opsOf Tryd.f18 1) = impl_VerifyConsistency.T1 := by kernel_rfl
theorem impl_VerifyConsistency.bits1 : waitsOk impl_VerifyConsistency.T1.2 impl_VerifyConsistency.B1 = true := by kernel_rfl
set_option maxHeartbeats 8000000 in
set_option maxRecDepth 100000 in
theorem impl_VerifyConsistency.calls (k : Nat) (a0_0 : Int) (a0_1 : Int) (a0_2 : Int) (a0_3 : Int) (a0_4 : Int) (a0_5 : Int) (a1 : Int) (a2 : Int) (A3 : Option Addr) (c3 : Nat) (l3 : List (List Int)) (A4 : Option Addr) (c4 : Nat) (l4 : List Int) (A5 : Option Addr) (c5 : Nat) (l5 : List Int) (r1 : Int) (r2 : List Int) (w : World) (hT : TabOK w) (hr3 : Kd.C (Kd.slice 5 (Kd.int .u8)) w A3 l3.length l3) (hc3 : l3.length ≤ c3) (hr4 : Kd.C (Kd.int .u8) w A4 l4.length l4) (hc4 : l4.length ≤ c4) (hr5 : Kd.C (Kd.int .u8) w A5 l5.length l5) (hc5 : l5.length ≤ c5) (h : impl_VerifyConsistency.f k a0_0 a0_1 a0_2 a0_3 a0_4 a0_5 a1 a2 l3 l4 l5 = some (r1, r2)) :
  Calls Tryd.prog 18 #[.agg #[.int .i64 a0_0, .int .i64 a0_1, .int .i64 a0_2, .int .u64 a0_3, .int .u64 a0_4, .int .u64 a0_5], .int .u64 a1, .int .u64 a2, .slice A3 l3.length c3, .slice A4 l4.length c4, .slice A5 l5.length c5] w fun e w' => ∃ v1_ : Value, e = .returned (.tuple #[.int .i64 r1, v1_]) ∧ Kd.R (Kd.int .u8) 5 w' w.heap.size (fun _ => True) v1_ r2 ∧ Below w.heap.size w w' := by
 have hu24 := Tryd.underlying24
 have hu85 := Tryd.underlying85
 have HT := zM hT
 clear hT
 have HR3 := zM hr3
 have HC3 := zM hc3
 clear hr3 hc3
 have HR4 := zM hr4
 have HC4 := zM hc4
 clear hr4 hc4
 have HR5 := zM hr5
 have HC5 := zM hc5
 clear hr5 hc5
 have HB := zM (Below.refl w.heap.size w)
 have H : ((impl_texts.f k l3).bind fun t390 => ((some (([] : List Int) : List Int)).bind fun y393 => (if y393.length + l4.length < 140737488355328 then ((some (([] : List Int) : List Int)).bind fun y399 => (if y399.length + l5.length < 140737488355328 then ((proof_VerifyConsistency.f k a0_0 a0_1 a0_2 a0_3 a0_4 a0_5 a1 a2 t390 (y393 ++ l4) (y399 ++ l5)).bind fun bt405 => ((impl_verdict.f k bt405.1 bt405.2.1 bt405.2.2.1 bt405.2.2.2).bind fun bt415 => (some (bt415.1, bt415.2)))) else (none))) else (none)))) = some (r1, r2) := h
 clear h
 replace H := Option.bind_eq_some_iff.mp H
 obtain ⟨t390, A70, H⟩ := H
 (try dsimp only at H)
 have A7 := zM A70
 clear A70
 obtain ⟨y393, hy393⟩ : ∃ y_ : List Int, y_ = (([] : List Int)) := ⟨_, rfl⟩
 replace H : (if y393.length + l4.length < 140737488355328 then ((some (([] : List Int) : List Int)).bind fun y399 => (if y399.length + l5.length < 140737488355328 then ((proof_VerifyConsistency.f k a0_0 a0_1 a0_2 a0_3 a0_4 a0_5 a1 a2 t390 (y393 ++ l4) (y399 ++ l5)).bind fun bt405 => ((impl_verdict.f k bt405.1 bt405.2.1 bt405.2.2.1 bt405.2.2.2).bind fun bt415 => (some (bt415.1, bt415.2)))) else (none))) else (none)) = some (r1, r2) := by first | (rw [hy393]; with_reducible exact H) | (have H := (Option.bind_some _ _).symm.trans H; first | (rw [hy393]; with_reducible exact H) | with_reducible exact H) | (rw [hy393]; exact H) | exact H
 have Ny393 := zM hy393
 clear hy393
 by_cases c8 : y393.length + l4.length < 140737488355328
 ·rw [if_pos c8] at H
  have LMc8 := zM c8
  clear c8
  obtain ⟨y396, hy396⟩ : ∃ y_ : List Int, y_ = (y393 ++ l4) := ⟨_, rfl⟩
  replace H : ((some (([] : List Int) : List Int)).bind fun y399 => (if y399.length + l5.length < 140737488355328 then ((proof_VerifyConsistency.f k a0_0 a0_1 a0_2 a0_3 a0_4 a0_5 a1 a2 t390 y396 (y399 ++ l5)).bind fun bt405 => ((impl_verdict.f k bt405.1 bt405.2.1 bt405.2.2.1 bt405.2.2.2).bind fun bt415 => (some (bt415.1, bt415.2)))) else (none))) = some (r1, r2) := by first | (rw [hy396]; with_reducible exact H) | (have H := (Option.bind_some _ _).symm.trans H; first | (rw [hy396]; with_reducible exact H) | with_reducible exact H) | (rw [hy396]; exact H) | exact H
  have Ny396 := zM hy396
  clear hy396
  obtain ⟨y399, hy399⟩ : ∃ y_ : List Int, y_ = (([] : List Int)) := ⟨_, rfl⟩
  replace H : (if y399.length + l5.length < 140737488355328 then ((proof_VerifyConsistency.f k a0_0 a0_1 a0_2 a0_3 a0_4 a0_5 a1 a2 t390 y396 (y399 ++ l5)).bind fun bt405 => ((impl_verdict.f k bt405.1 bt405.2.1 bt405.2.2.1 bt405.2.2.2).bind fun bt415 => (some (bt415.1, bt415.2)))) else (none)) = some (r1, r2) := by first | (rw [hy399]; with_reducible exact H) | (have H := (Option.bind_some _ _).symm.trans H; first | (rw [hy399]; with_reducible exact H) | with_reducible exact H) | (rw [hy399]; exact H) | exact H
  have Ny399 := zM hy399
  clear hy399
  by_cases c9 : y399.length + l5.length < 140737488355328
  ·rw [if_pos c9] at H
   have LMc9 := zM c9
   clear c9
   obtain ⟨y402, hy402⟩ : ∃ y_ : List Int, y_ = (y399 ++ l5) := ⟨_, rfl⟩
   replace H : ((proof_VerifyConsistency.f k a0_0 a0_1 a0_2 a0_3 a0_4 a0_5 a1 a2 t390 y396 y402).bind fun bt405 => ((impl_verdict.f k bt405.1 bt405.2.1 bt405.2.2.1 bt405.2.2.2).bind fun bt415 => (some (bt415.1, bt415.2)))) = some (r1, r2) := by first | (rw [hy402]; with_reducible exact H) | (have H := (Option.bind_some _ _).symm.trans H; first | (rw [hy402]; with_reducible exact H) | with_reducible exact H) | (rw [hy402]; exact H) | exact H
   have Ny402 := zM hy402
   clear hy402
   replace H := Option.bind_eq_some_iff.mp H
   obtain ⟨⟨t405, t406, t409, t412⟩, A100, H⟩ := H
   (try dsimp only at H)
   have A10 := zM A100
   clear A100
   replace H := Option.bind_eq_some_iff.mp H
   obtain ⟨⟨t415, t416⟩, A110, H⟩ := H
   (try dsimp only at H)
   have A11 := zM A110
   clear A110
   simp only [Option.some.injEq, Prod.mk.injEq] at H
   obtain ⟨rfl, rfl⟩ := H
   go_enter Tryd.func18, Tryd.ntmps18
   try go_wp2_with (first | ((with_reducible refine gate_dst (N := 6) rfl ?_); refine bx 6 #[.int .i64 a0_0, .int .i64 a0_1, .int .i64 a0_2, .int .u64 a0_3, .int .u64 a0_4, .int .u64 a0_5] 24 ?_; intro gb389 hg w12 hbox hb; have BK389 := zM (hbox); have GW389 := zM ((gB hg : w.heap.size ≤ gb389)); have GE389 := zM ((gB hg : w.heap.size ≤ gb389)); replace HB := zM (below_step bB hb); clear hb hbox hg))
   replace BK389 := zM (blk_drew BK389.out)
   replace HB := zM (below_drew1 HB.out)
   refine start_ (n := 19) (S := fun w' => C6 w' gb389 (.int .i64 a0_0) (.int .i64 a0_1) (.int .i64 a0_2) (.int .u64 a0_3) (.int .u64 a0_4) (.int .u64 a0_5)) (ds := []) #[ff,ff,ff,ff,ff,ff,ff,ff,ff,ff,ff,ff,ff,ff,ff,ff,ff,ff,ff] (by kernel_rfl) rfl rfl (h6 BK389) (fun hHeld => ?_); refine with_tabW impl_VerifyConsistency.tab1 impl_VerifyConsistency.bits1 (fun HT_ HW_ => ?_)
   generalize w12.drew = w13 at BK389 HB hHeld ⊢
   refine pA 3 (some 17) #[ff,ff,ff,tt,ff,ff,ff,ff,ff,ff,ff,ff,ff,ff,ff,ff,ff,ff,ff] HT_ ?_
   refine pA 4 (some 18) #[ff,ff,ff,tt,tt,ff,ff,ff,ff,ff,ff,ff,ff,ff,ff,ff,ff,ff,ff] HT_ ?_
   refine pA 5 (some 19) #[ff,ff,ff,tt,tt,tt,ff,ff,ff,ff,ff,ff,ff,ff,ff,ff,ff,ff,ff] HT_ ?_
   refine pA 8 (some 22) #[ff,ff,ff,tt,tt,tt,ff,ff,tt,ff,ff,ff,ff,ff,ff,ff,ff,ff,ff] HT_ ?_
   refine pA 11 (some 25) #[ff,ff,ff,tt,tt,tt,ff,ff,tt,ff,ff,tt,ff,ff,ff,ff,ff,ff,ff] HT_ ?_
   refine tA 0 (some 14) #[tt,ff,ff,tt,tt,tt,ff,ff,tt,ff,ff,tt,ff,ff,ff,ff,ff,ff,ff] rfl rfl HT_ HW_ hHeld (by rintro w' ⟨s0, s1, s2, s3, s4, s5⟩; go_simp; with_reducible rfl) ?_
   refine pA 1 (some 15) #[tt,tt,ff,tt,tt,tt,ff,ff,tt,ff,ff,tt,ff,ff,ff,ff,ff,ff,ff] HT_ ?_
   refine pA 2 (some 16) #[tt,tt,tt,tt,tt,tt,ff,ff,tt,ff,ff,tt,ff,ff,ff,ff,ff,ff,ff] HT_ ?_
   refine join_ (σ := Value × Value × Value × Value) 7 #[tt,tt,tt,tt,tt,tt,tt,tt,tt,tt,tt,tt,ff,ff,ff,ff,ff,ff,ff] (fun s_ => [(20, s_.1), (21, s_.2.1), (23, s_.2.2.1), (24, s_.2.2.2)]) (fun s_ w' => (C6 w' gb389 (.int .i64 a0_0) (.int .i64 a0_1) (.int .i64 a0_2) (.int .u64 a0_3) (.int .u64 a0_4) (.int .u64 a0_5)) ∧ (Kd.S (Kd.slice 5 (Kd.int .u8)) 27 w' w.heap.size (fun k_ => some k_ ≠ (s_.2.2.1 : Value).ownBlock ∧ some k_ ≠ (s_.2.2.2 : Value).ownBlock) s_.1 t390) ∧ (Kd.R (Kd.int .u8) 5 w' w.heap.size (fun k_ => some k_ ≠ (s_.2.2.2 : Value).ownBlock) s_.2.2.1 y396) ∧ (Kd.R (Kd.int .u8) 5 w' w.heap.size (fun k_ => some k_ ≠ (s_.2.2.1 : Value).ownBlock) s_.2.2.2 y399) ∧ (w'.heap[gb389]? = some (.cells #[.int .i64 a0_0, .int .i64 a0_1, .int .i64 a0_2, .int .u64 a0_3, .int .u64 a0_4, .int .u64 a0_5] 24 (0, 0))) ∧ (Below w.heap.size w w')) ?_ ?_
   rotate_left
   ·intro hJ6_7_9_10
    refine join_ (σ := Value × Value × Value) 8 #[tt,tt,tt,tt,tt,tt,tt,tt,tt,tt,ff,tt,ff,ff,ff,ff,ff,ff,ff] (fun s_ => [(20, s_.1), (21, s_.2.1), (23, s_.2.2)]) (fun s_ w' => (C6 w' gb389 (.int .i64 a0_0) (.int .i64 a0_1) (.int .i64 a0_2) (.int .u64 a0_3) (.int .u64 a0_4) (.int .u64 a0_5)) ∧ (Kd.S (Kd.slice 5 (Kd.int .u8)) 27 w' w.heap.size (fun k_ => some k_ ≠ (s_.2.2 : Value).ownBlock) s_.1 t390) ∧ (Kd.R (Kd.int .u8) 5 w' w.heap.size (fun _ => True) s_.2.2 y396) ∧ (w'.heap[gb389]? = some (.cells #[.int .i64 a0_0, .int .i64 a0_1, .int .i64 a0_2, .int .u64 a0_3, .int .u64 a0_4, .int .u64 a0_5] 24 (0, 0))) ∧ (Below w.heap.size w w')) ?_ ?_
    rotate_left
    ·intro hJ6_7_9
     refine join_ (σ := Value × Value × Value) 8 #[tt,tt,tt,tt,tt,tt,tt,tt,tt,ff,tt,tt,ff,ff,ff,ff,ff,ff,ff] (fun s_ => [(20, s_.1), (21, s_.2.1), (24, s_.2.2)]) (fun s_ w' => (C6 w' gb389 (.int .i64 a0_0) (.int .i64 a0_1) (.int .i64 a0_2) (.int .u64 a0_3) (.int .u64 a0_4) (.int .u64 a0_5)) ∧ (Kd.S (Kd.slice 5 (Kd.int .u8)) 27 w' w.heap.size (fun k_ => some k_ ≠ (s_.2.1 : Value).ownBlock ∧ some k_ ≠ (s_.2.2 : Value).ownBlock) s_.1 t390) ∧ (Kd.R (Kd.int .u8) 5 w' w.heap.size (fun k_ => some k_ ≠ (s_.2.2 : Value).ownBlock) s_.2.1 y393) ∧ (Kd.R (Kd.int .u8) 5 w' w.heap.size (fun k_ => some k_ ≠ (s_.2.1 : Value).ownBlock) s_.2.2 y399) ∧ (w'.heap[gb389]? = some (.cells #[.int .i64 a0_0, .int .i64 a0_1, .int .i64 a0_2, .int .u64 a0_3, .int .u64 a0_4, .int .u64 a0_5] 24 (0, 0))) ∧ (Below w.heap.size w w')) ?_ ?_
     rotate_left
     ·intro hJ6_7_10
      refine join_ (σ := Value × Value) 9 #[tt,tt,tt,tt,tt,tt,tt,tt,tt,ff,ff,tt,ff,ff,ff,ff,ff,ff,ff] (fun s_ => [(20, s_.1), (21, s_.2)]) (fun s_ w' => (C6 w' gb389 (.int .i64 a0_0) (.int .i64 a0_1) (.int .i64 a0_2) (.int .u64 a0_3) (.int .u64 a0_4) (.int .u64 a0_5)) ∧ (Kd.S (Kd.slice 5 (Kd.int .u8)) 27 w' w.heap.size (fun k_ => some k_ ≠ (s_.2 : Value).ownBlock) s_.1 t390) ∧ (Kd.R (Kd.int .u8) 5 w' w.heap.size (fun _ => True) s_.2 y393) ∧ (w'.heap[gb389]? = some (.cells #[.int .i64 a0_0, .int .i64 a0_1, .int .i64 a0_2, .int .u64 a0_3, .int .u64 a0_4, .int .u64 a0_5] 24 (0, 0))) ∧ (Below w.heap.size w w')) ?_ ?_
      rotate_left
      ·intro hJ6_7
       refine join_ (σ := Value × Value) 9 #[tt,tt,tt,tt,tt,tt,tt,ff,tt,ff,tt,tt,ff,ff,ff,ff,ff,ff,ff] (fun s_ => [(20, s_.1), (24, s_.2)]) (fun s_ w' => (C6 w' gb389 (.int .i64 a0_0) (.int .i64 a0_1) (.int .i64 a0_2) (.int .u64 a0_3) (.int .u64 a0_4) (.int .u64 a0_5)) ∧ (Kd.S (Kd.slice 5 (Kd.int .u8)) 27 w' w.heap.size (fun k_ => some k_ ≠ (s_.2 : Value).ownBlock) s_.1 t390) ∧ (Kd.R (Kd.int .u8) 5 w' w.heap.size (fun _ => True) s_.2 y399) ∧ (w'.heap[gb389]? = some (.cells #[.int .i64 a0_0, .int .i64 a0_1, .int .i64 a0_2, .int .u64 a0_3, .int .u64 a0_4, .int .u64 a0_5] 24 (0, 0))) ∧ (Below w.heap.size w w')) ?_ ?_
       rotate_left
       ·intro hJ6_10
        refine join_ (σ := Value × Value) 9 #[tt,tt,tt,tt,tt,tt,ff,tt,tt,ff,tt,tt,ff,ff,ff,ff,ff,ff,ff] (fun s_ => [(21, s_.1), (24, s_.2)]) (fun s_ w' => (C6 w' gb389 (.int .i64 a0_0) (.int .i64 a0_1) (.int .i64 a0_2) (.int .u64 a0_3) (.int .u64 a0_4) (.int .u64 a0_5)) ∧ (Kd.R (Kd.int .u8) 5 w' w.heap.size (fun k_ => some k_ ≠ (s_.2 : Value).ownBlock) s_.1 y393) ∧ (Kd.R (Kd.int .u8) 5 w' w.heap.size (fun k_ => some k_ ≠ (s_.1 : Value).ownBlock) s_.2 y399) ∧ (w'.heap[gb389]? = some (.cells #[.int .i64 a0_0, .int .i64 a0_1, .int .i64 a0_2, .int .u64 a0_3, .int .u64 a0_4, .int .u64 a0_5] 24 (0, 0))) ∧ (Below w.heap.size w w')) ?_ ?_
        rotate_left
        ·intro hJ7_10
         refine join_ (σ := Value) 10 #[tt,tt,tt,tt,tt,tt,tt,ff,tt,ff,ff,tt,ff,ff,ff,ff,ff,ff,ff] (fun s_ => [(20, s_)]) (fun s_ w' => (C6 w' gb389 (.int .i64 a0_0) (.int .i64 a0_1) (.int .i64 a0_2) (.int .u64 a0_3) (.int .u64 a0_4) (.int .u64 a0_5)) ∧ (Kd.S (Kd.slice 5 (Kd.int .u8)) 27 w' w.heap.size (fun _ => True) s_ t390) ∧ (w'.heap[gb389]? = some (.cells #[.int .i64 a0_0, .int .i64 a0_1, .int .i64 a0_2, .int .u64 a0_3, .int .u64 a0_4, .int .u64 a0_5] 24 (0, 0))) ∧ (Below w.heap.size w w')) ?_ ?_
         rotate_left
         ·intro hJ6
          refine join_ (σ := Value) 10 #[tt,tt,tt,tt,tt,tt,ff,tt,tt,ff,ff,tt,ff,ff,ff,ff,ff,ff,ff] (fun s_ => [(21, s_)]) (fun s_ w' => (C6 w' gb389 (.int .i64 a0_0) (.int .i64 a0_1) (.int .i64 a0_2) (.int .u64 a0_3) (.int .u64 a0_4) (.int .u64 a0_5)) ∧ (Kd.R (Kd.int .u8) 5 w' w.heap.size (fun _ => True) s_ y393) ∧ (w'.heap[gb389]? = some (.cells #[.int .i64 a0_0, .int .i64 a0_1, .int .i64 a0_2, .int .u64 a0_3, .int .u64 a0_4, .int .u64 a0_5] 24 (0, 0))) ∧ (Below w.heap.size w w')) ?_ ?_
          rotate_left
          ·intro hJ7
           refine join_ (σ := Value) 10 #[tt,tt,tt,tt,tt,tt,ff,ff,tt,ff,tt,tt,ff,ff,ff,ff,ff,ff,ff] (fun s_ => [(24, s_)]) (fun s_ w' => (C6 w' gb389 (.int .i64 a0_0) (.int .i64 a0_1) (.int .i64 a0_2) (.int .u64 a0_3) (.int .u64 a0_4) (.int .u64 a0_5)) ∧ (Kd.R (Kd.int .u8) 5 w' w.heap.size (fun _ => True) s_ y399) ∧ (w'.heap[gb389]? = some (.cells #[.int .i64 a0_0, .int .i64 a0_1, .int .i64 a0_2, .int .u64 a0_3, .int .u64 a0_4, .int .u64 a0_5] 24 (0, 0))) ∧ (Below w.heap.size w w')) ?_ ?_
           rotate_left
           ·intro hJ10
            refine three_ (i := 6) (j := 7) (k := 10) (Ni := some 20) (Nj := some 21) (Nk := some 24) #[tt,tt,tt,tt,tt,tt,tt,ff,tt,ff,ff,tt,ff,ff,ff,ff,ff,ff,ff] #[tt,tt,tt,tt,tt,tt,ff,tt,tt,ff,ff,tt,ff,ff,ff,ff,ff,ff,ff] #[tt,tt,tt,tt,tt,tt,ff,ff,tt,ff,tt,tt,ff,ff,ff,ff,ff,ff,ff] rfl rfl rfl rfl rfl rfl (three_of HT_.out (by kernel_rfl)) (by decide) (by decide) (by decide) (fun K hK => ?_) (fun K hK => ?_) (fun K hK => ?_)
            ·skip
             refine goes_ Tryd.func46 (by kernel_rfl) rfl #[.slice A3 l3.length c3] (by rfl) rfl rfl aV ?_
             with_reducible refine (impl_texts.calls k _ _ l3 t390 _ ?side1 ?side2 A7.out).mono ?_
             (case side1 => repeat (first | exact (Kd.C_below HR3.out HB.out) | (with_reducible refine Kd.C_alloc ?_ _) | (with_reducible refine Kd.C_drewN ?_ _) | (with_reducible refine Kd.C_drew ?_)))
             (case side2 => exact HC3.out)
             rintro e w14 ⟨v391, rfl, ho0, hb⟩
             refine ⟨_, rfl, ?_⟩
             have HO392 := zM (Kd.S_lower ho0 (below_size bB))
             replace BK389 := zM (bK BK389 hb)
             replace HB := zM (below_step bB hb)
             refine hK.out _ _ (h6 BK389) (fun hHeld => ?_)
             clear hK K
             refine nS ?_
             exact nC (hJ6 (v391) _ ⟨hHeld, (by refine vS ?_; exact HO392.out), (kB BK389.out), bB⟩)
            ·skip
             refine Kd.R_lit_step (Kd.int .u8) _ 5 ?hg (N := 21) ?hd (xs := ([] : List Int)) (inner := []) (ok := fun _ => True) (okp := fun _ => True) ?hr ?hp (fun _ hk => hk) trivial (Below.refl _ _) (Nat.le_refl _) (by simp) ?_; (case hd => rfl); (case hg => rfl); (case hr => first | (go_simp; done) | (go_simp; rfl)); (case hp => exact (Reps.none _ _))
             intro v394 w14 ho15 hb hg_ hnew_
             clear hg_ hnew_
             (first | rw [← Ny393.out] at ho15 | (simp only [Int.reduceToNat] at ho15; rw [← Ny393.out] at ho15))
             have HO395 := zM (Kd.R_lower ho15 (below_size bB))
             replace BK389 := zM (bK BK389 hb)
             replace HB := zM (below_step bB hb)
             clear hb ho15
             refine hK.out _ _ (h6 BK389) (fun hHeld => ?_)
             clear hK K
             refine nS ?_
             exact nC (hJ7 (v394) _ ⟨hHeld, (kR HO395.out), (kB BK389.out), bB⟩)
            ·skip
             refine Kd.R_lit_step (Kd.int .u8) _ 5 ?hg (N := 24) ?hd (xs := ([] : List Int)) (inner := []) (ok := fun _ => True) (okp := fun _ => True) ?hr ?hp (fun _ hk => hk) trivial (Below.refl _ _) (Nat.le_refl _) (by simp) ?_; (case hd => rfl); (case hg => rfl); (case hr => first | (go_simp; done) | (go_simp; rfl)); (case hp => exact (Reps.none _ _))
             intro v400 w14 ho15 hb hg_ hnew_
             clear hg_ hnew_
             (first | rw [← Ny399.out] at ho15 | (simp only [Int.reduceToNat] at ho15; rw [← Ny399.out] at ho15))
             have HO401 := zM (Kd.R_lower ho15 (below_size bB))
             replace BK389 := zM (bK BK389 hb)
             replace HB := zM (below_step bB hb)
             clear hb ho15
             refine hK.out _ _ (h6 BK389) (fun hHeld => ?_)
             clear hK K
             refine nS ?_
             exact nC (hJ10 (v400) _ ⟨hHeld, (kR HO401.out), (kB BK389.out), bB⟩)
           ·skip
            rintro v400 w16 ⟨hS_, h0_, h1_, h2_⟩
            have n0_ : Aside0 (Kd.R (Kd.int .u8) 5 w16 w.heap.size (fun _ => True) v400 y399) := ⟨h0_⟩
            have n1_ : Aside0 (w16.heap[gb389]? = some (.cells #[.int .i64 a0_0, .int .i64 a0_1, .int .i64 a0_2, .int .u64 a0_3, .int .u64 a0_4, .int .u64 a0_5] 24 (0, 0))) := ⟨h1_⟩
            have n2_ : Aside0 (Below w.heap.size w w16) := ⟨h2_⟩
            clear BK389
            clear HB
            clear h0_ h1_ h2_
            have HO401 := n0_
            have BK389 := n1_
            have HB := n2_
            clear n0_ n1_ n2_
            have hHeld : C6 w16 gb389 (.int .i64 a0_0) (.int .i64 a0_1) (.int .i64 a0_2) (.int .u64 a0_3) (.int .u64 a0_4) (.int .u64 a0_5) := hS_
            refine nB ?_
            refine two_ (i := 6) (j := 7) (Ni := some 20) (Nj := some 21) #[tt,tt,tt,tt,tt,tt,tt,ff,tt,ff,tt,tt,ff,ff,ff,ff,ff,ff,ff] #[tt,tt,tt,tt,tt,tt,ff,tt,tt,ff,tt,tt,ff,ff,ff,ff,ff,ff,ff] rfl rfl rfl rfl (two_of HT_.out (by kernel_rfl)) (by decide) (by decide) (fun K hK => ?_) (fun K hK => ?_)
            ·skip
             refine goes_ Tryd.func46 (by kernel_rfl) rfl #[.slice A3 l3.length c3] (by rfl) rfl rfl aV ?_
             with_reducible refine (impl_texts.calls k _ _ l3 t390 _ ?side1 ?side2 A7.out).mono ?_
             (case side1 => repeat (first | exact (Kd.C_below HR3.out HB.out) | (with_reducible refine Kd.C_alloc ?_ _) | (with_reducible refine Kd.C_drewN ?_ _) | (with_reducible refine Kd.C_drew ?_)))
             (case side2 => exact HC3.out)
             rintro e w17 ⟨v391, rfl, ho0, hb⟩
             refine ⟨_, rfl, ?_⟩
             have HO392 := zM (Kd.S_lower (Kd.S_new' ho0 (Kd.R_lt (kR HO401.out))) (below_size bB))
             replace HO401 := zM (Kd.R_below (kR HO401.out) hb)
             replace BK389 := zM (bK BK389 hb)
             replace HB := zM (below_step bB hb)
             refine hK.out _ _ (h6 BK389) (fun hHeld => ?_)
             clear hK K
             refine nS ?_
             exact nC (hJ6_10 (v391, v400) _ ⟨hHeld, (by refine vS ?_; exact Kd.S_mono HO392.out (fun _ hk => hk.2)), (kR HO401.out), (kB BK389.out), bB⟩)
            ·skip
             refine Kd.R_lit_step (Kd.int .u8) _ 5 ?hg (N := 21) ?hd (xs := ([] : List Int)) (inner := []) (ok := fun _ => True) (okp := fun _ => True) ?hr ?hp (fun _ hk => hk) trivial (Below.refl _ _) (Nat.le_refl _) (by simp) ?_; (case hd => rfl); (case hg => rfl); (case hr => first | (go_simp; done) | (go_simp; rfl)); (case hp => exact (Reps.none _ _))
             intro v394 w17 ho18 hb hg_ hnew_
             clear hg_ hnew_
             (first | rw [← Ny393.out] at ho18 | (simp only [Int.reduceToNat] at ho18; rw [← Ny393.out] at ho18))
             have HO395 := zM (Kd.R_lower (Kd.R_new' ho18 (Kd.R_lt (kR HO401.out))) (below_size bB))
             replace HO401 := zM (Kd.R_elder' (kR HO401.out) (Kd.R_base ho18) hb)
             replace BK389 := zM (bK BK389 hb)
             replace HB := zM (below_step bB hb)
             clear hb ho18
             refine hK.out _ _ (h6 BK389) (fun hHeld => ?_)
             clear hK K
             refine nS ?_
             exact nC (hJ7_10 (v394, v400) _ ⟨hHeld, (by refine vR ?_; exact Kd.R_mono HO395.out (fun _ hk => hk.2)), (by refine vR ?_; exact Kd.R_mono HO401.out (fun _ hk => hk.2)), (kB BK389.out), bB⟩)
          ·skip
           rintro v394 w16 ⟨hS_, h0_, h1_, h2_⟩
           have n0_ : Aside0 (Kd.R (Kd.int .u8) 5 w16 w.heap.size (fun _ => True) v394 y393) := ⟨h0_⟩
           have n1_ : Aside0 (w16.heap[gb389]? = some (.cells #[.int .i64 a0_0, .int .i64 a0_1, .int .i64 a0_2, .int .u64 a0_3, .int .u64 a0_4, .int .u64 a0_5] 24 (0, 0))) := ⟨h1_⟩
           have n2_ : Aside0 (Below w.heap.size w w16) := ⟨h2_⟩
           clear BK389
           clear HB
           clear h0_ h1_ h2_
           have HO395 := n0_
           have BK389 := n1_
           have HB := n2_
           clear n0_ n1_ n2_
           have hHeld : C6 w16 gb389 (.int .i64 a0_0) (.int .i64 a0_1) (.int .i64 a0_2) (.int .u64 a0_3) (.int .u64 a0_4) (.int .u64 a0_5) := hS_
           refine nB ?_
           refine two_ (i := 6) (j := 10) (Ni := some 20) (Nj := some 24) #[tt,tt,tt,tt,tt,tt,tt,tt,tt,ff,ff,tt,ff,ff,ff,ff,ff,ff,ff] #[tt,tt,tt,tt,tt,tt,ff,tt,tt,ff,tt,tt,ff,ff,ff,ff,ff,ff,ff] rfl rfl rfl rfl (two_of HT_.out (by kernel_rfl)) (by decide) (by decide) (fun K hK => ?_) (fun K hK => ?_)
           ·skip
            refine goes_ Tryd.func46 (by kernel_rfl) rfl #[.slice A3 l3.length c3] (by rfl) rfl rfl aV ?_
            with_reducible refine (impl_texts.calls k _ _ l3 t390 _ ?side1 ?side2 A7.out).mono ?_
            (case side1 => repeat (first | exact (Kd.C_below HR3.out HB.out) | (with_reducible refine Kd.C_alloc ?_ _) | (with_reducible refine Kd.C_drewN ?_ _) | (with_reducible refine Kd.C_drew ?_)))
            (case side2 => exact HC3.out)
            rintro e w17 ⟨v391, rfl, ho0, hb⟩
            refine ⟨_, rfl, ?_⟩
            have HO392 := zM (Kd.S_lower (Kd.S_new' ho0 (Kd.R_lt (kR HO395.out))) (below_size bB))
            replace HO395 := zM (Kd.R_below (kR HO395.out) hb)
            replace BK389 := zM (bK BK389 hb)
            replace HB := zM (below_step bB hb)
            refine hK.out _ _ (h6 BK389) (fun hHeld => ?_)
            clear hK K
            refine nS ?_
            exact nC (hJ6_7 (v391, v394) _ ⟨hHeld, (by refine vS ?_; exact Kd.S_mono HO392.out (fun _ hk => hk.2)), (kR HO395.out), (kB BK389.out), bB⟩)
           ·skip
            refine Kd.R_lit_step (Kd.int .u8) _ 5 ?hg (N := 24) ?hd (xs := ([] : List Int)) (inner := []) (ok := fun _ => True) (okp := fun _ => True) ?hr ?hp (fun _ hk => hk) trivial (Below.refl _ _) (Nat.le_refl _) (by simp) ?_; (case hd => rfl); (case hg => rfl); (case hr => first | (go_simp; done) | (go_simp; rfl)); (case hp => exact (Reps.none _ _))
            intro v400 w17 ho18 hb hg_ hnew_
            clear hg_ hnew_
            (first | rw [← Ny399.out] at ho18 | (simp only [Int.reduceToNat] at ho18; rw [← Ny399.out] at ho18))
            have HO401 := zM (Kd.R_lower (Kd.R_new' ho18 (Kd.R_lt (kR HO395.out))) (below_size bB))
            replace HO395 := zM (Kd.R_elder' (kR HO395.out) (Kd.R_base ho18) hb)
            replace BK389 := zM (bK BK389 hb)
            replace HB := zM (below_step bB hb)
            clear hb ho18
            refine hK.out _ _ (h6 BK389) (fun hHeld => ?_)
            clear hK K
            refine nS ?_
            exact nC (hJ7_10 (v394, v400) _ ⟨hHeld, (by refine vR ?_; exact Kd.R_mono HO395.out (fun _ hk => hk.2)), (by refine vR ?_; exact Kd.R_mono HO401.out (fun _ hk => hk.2)), (kB BK389.out), bB⟩)
         ·skip
          rintro v391 w15 ⟨hS_, h0_, h1_, h2_⟩
          have n0_ : Aside0 (Kd.S (Kd.slice 5 (Kd.int .u8)) 27 w15 w.heap.size (fun _ => True) v391 t390) := ⟨h0_⟩
          have n1_ : Aside0 (w15.heap[gb389]? = some (.cells #[.int .i64 a0_0, .int .i64 a0_1, .int .i64 a0_2, .int .u64 a0_3, .int .u64 a0_4, .int .u64 a0_5] 24 (0, 0))) := ⟨h1_⟩
          have n2_ : Aside0 (Below w.heap.size w w15) := ⟨h2_⟩
          clear BK389
          clear HB
          clear h0_ h1_ h2_
          have HO392 := n0_
          have BK389 := n1_
          have HB := n2_
          clear n0_ n1_ n2_
          have hHeld : C6 w15 gb389 (.int .i64 a0_0) (.int .i64 a0_1) (.int .i64 a0_2) (.int .u64 a0_3) (.int .u64 a0_4) (.int .u64 a0_5) := hS_
          refine nB ?_
          refine two_ (i := 7) (j := 10) (Ni := some 21) (Nj := some 24) #[tt,tt,tt,tt,tt,tt,tt,tt,tt,ff,ff,tt,ff,ff,ff,ff,ff,ff,ff] #[tt,tt,tt,tt,tt,tt,tt,ff,tt,ff,tt,tt,ff,ff,ff,ff,ff,ff,ff] rfl rfl rfl rfl (two_of HT_.out (by kernel_rfl)) (by decide) (by decide) (fun K hK => ?_) (fun K hK => ?_)
          ·skip
           refine Kd.R_lit_step (Kd.int .u8) _ 5 ?hg (N := 21) ?hd (xs := ([] : List Int)) (inner := []) (ok := fun _ => True) (okp := fun _ => True) ?hr ?hp (fun _ hk => hk) trivial (Below.refl _ _) (Nat.le_refl _) (by simp) ?_; (case hd => rfl); (case hg => rfl); (case hr => first | (go_simp; done) | (go_simp; rfl)); (case hp => exact (Reps.none _ _))
           intro v394 w16 ho17 hb hg_ hnew_
           clear hg_ hnew_
           (first | rw [← Ny393.out] at ho17 | (simp only [Int.reduceToNat] at ho17; rw [← Ny393.out] at ho17))
           replace HO392 := zM (Kd.S_elder' (by refine vS ?_; exact HO392.out) (Kd.R_base ho17) hb)
           have HO395 := zM (Kd.R_lower ho17 (below_size bB))
           replace BK389 := zM (bK BK389 hb)
           replace HB := zM (below_step bB hb)
           clear hb ho17
           refine hK.out _ _ (h6 BK389) (fun hHeld => ?_)
           clear hK K
           refine nS ?_
           exact nC (hJ6_7 (v391, v394) _ ⟨hHeld, (by refine vS ?_; exact Kd.S_mono HO392.out (fun _ hk => hk.2)), (kR HO395.out), (kB BK389.out), bB⟩)
          ·skip
           refine Kd.R_lit_step (Kd.int .u8) _ 5 ?hg (N := 24) ?hd (xs := ([] : List Int)) (inner := []) (ok := fun _ => True) (okp := fun _ => True) ?hr ?hp (fun _ hk => hk) trivial (Below.refl _ _) (Nat.le_refl _) (by simp) ?_; (case hd => rfl); (case hg => rfl); (case hr => first | (go_simp; done) | (go_simp; rfl)); (case hp => exact (Reps.none _ _))
           intro v400 w16 ho17 hb hg_ hnew_
           clear hg_ hnew_
           (first | rw [← Ny399.out] at ho17 | (simp only [Int.reduceToNat] at ho17; rw [← Ny399.out] at ho17))
           replace HO392 := zM (Kd.S_elder' (by refine vS ?_; exact HO392.out) (Kd.R_base ho17) hb)
           have HO401 := zM (Kd.R_lower ho17 (below_size bB))
           replace BK389 := zM (bK BK389 hb)
           replace HB := zM (below_step bB hb)
           clear hb ho17
           refine hK.out _ _ (h6 BK389) (fun hHeld => ?_)
           clear hK K
           refine nS ?_
           exact nC (hJ6_10 (v391, v400) _ ⟨hHeld, (by refine vS ?_; exact Kd.S_mono HO392.out (fun _ hk => hk.2)), (kR HO401.out), (kB BK389.out), bB⟩)
        ·skip
         rintro ⟨v394, v400⟩ w18 ⟨hS_, h0_, h1_, h2_, h3_⟩
         have n0_ : Aside0 (Kd.R (Kd.int .u8) 5 w18 w.heap.size (fun k_ => some k_ ≠ (v400 : Value).ownBlock) v394 y393) := ⟨h0_⟩
         have n1_ : Aside0 (Kd.R (Kd.int .u8) 5 w18 w.heap.size (fun k_ => some k_ ≠ (v394 : Value).ownBlock) v400 y399) := ⟨h1_⟩
         have n2_ : Aside0 (w18.heap[gb389]? = some (.cells #[.int .i64 a0_0, .int .i64 a0_1, .int .i64 a0_2, .int .u64 a0_3, .int .u64 a0_4, .int .u64 a0_5] 24 (0, 0))) := ⟨h2_⟩
         have n3_ : Aside0 (Below w.heap.size w w18) := ⟨h3_⟩
         clear BK389
         clear HB
         clear h0_ h1_ h2_ h3_
         have HO395 := n0_
         have HO401 := n1_
         have BK389 := n2_
         have HB := n3_
         clear n0_ n1_ n2_ n3_
         have hHeld : C6 w18 gb389 (.int .i64 a0_0) (.int .i64 a0_1) (.int .i64 a0_2) (.int .u64 a0_3) (.int .u64 a0_4) (.int .u64 a0_5) := hS_
         refine nB ?_
         refine one_ (i := 6) (N := some 20) #[tt,tt,tt,tt,tt,tt,tt,tt,tt,ff,tt,tt,ff,ff,ff,ff,ff,ff,ff] rfl rfl (one_of HT_.out (by kernel_rfl)) (by decide) (fun K hK => ?_)
         refine goes_ Tryd.func46 (by kernel_rfl) rfl #[.slice A3 l3.length c3] (by rfl) rfl rfl aV ?_
         with_reducible refine (impl_texts.calls k _ _ l3 t390 _ ?side1 ?side2 A7.out).mono ?_
         (case side1 => repeat (first | exact (Kd.C_below HR3.out HB.out) | (with_reducible refine Kd.C_alloc ?_ _) | (with_reducible refine Kd.C_drewN ?_ _) | (with_reducible refine Kd.C_drew ?_)))
         (case side2 => exact HC3.out)
         rintro e w19 ⟨v391, rfl, ho0, hb⟩
         refine ⟨_, rfl, ?_⟩
         have HO392 := zM (Kd.S_lower (Kd.S_new' (Kd.S_new' ho0 (Kd.R_lt (kR HO395.out))) (Kd.R_lt (kR HO401.out))) (below_size bB))
         replace HO395 := zM (Kd.R_below (kR HO395.out) hb)
         replace HO401 := zM (Kd.R_below (kR HO401.out) hb)
         replace BK389 := zM (bK BK389 hb)
         replace HB := zM (below_step bB hb)
         refine hK.out _ _ (h6 BK389) (fun hHeld => ?_)
         clear hK K
         refine nS ?_
         exact nC (hJ6_7_10 (v391, v394, v400) _ ⟨hHeld, (by refine vS ?_; exact Kd.S_mono HO392.out (fun _ hk => ⟨hk.1.2, hk.2⟩)), (kR HO395.out), (kR HO401.out), (kB BK389.out), bB⟩)
       ·skip
        rintro ⟨v391, v400⟩ w17 ⟨hS_, h0_, h1_, h2_, h3_⟩
        have n0_ : Aside0 (Kd.S (Kd.slice 5 (Kd.int .u8)) 27 w17 w.heap.size (fun k_ => some k_ ≠ (v400 : Value).ownBlock) v391 t390) := ⟨h0_⟩
        have n1_ : Aside0 (Kd.R (Kd.int .u8) 5 w17 w.heap.size (fun _ => True) v400 y399) := ⟨h1_⟩
        have n2_ : Aside0 (w17.heap[gb389]? = some (.cells #[.int .i64 a0_0, .int .i64 a0_1, .int .i64 a0_2, .int .u64 a0_3, .int .u64 a0_4, .int .u64 a0_5] 24 (0, 0))) := ⟨h2_⟩
        have n3_ : Aside0 (Below w.heap.size w w17) := ⟨h3_⟩
        clear BK389
        clear HB
        clear h0_ h1_ h2_ h3_
        have HO392 := n0_
        have HO401 := n1_
        have BK389 := n2_
        have HB := n3_
        clear n0_ n1_ n2_ n3_
        have hHeld : C6 w17 gb389 (.int .i64 a0_0) (.int .i64 a0_1) (.int .i64 a0_2) (.int .u64 a0_3) (.int .u64 a0_4) (.int .u64 a0_5) := hS_
        refine nB ?_
        refine one_ (i := 7) (N := some 21) #[tt,tt,tt,tt,tt,tt,tt,tt,tt,ff,tt,tt,ff,ff,ff,ff,ff,ff,ff] rfl rfl (one_of HT_.out (by kernel_rfl)) (by decide) (fun K hK => ?_)
        refine Kd.R_lit_step (Kd.int .u8) _ 5 ?hg (N := 21) ?hd (xs := ([] : List Int)) (inner := []) (ok := fun _ => True) (okp := fun _ => True) ?hr ?hp (fun _ hk => hk) trivial (Below.refl _ _) (Nat.le_refl _) (by simp) ?_; (case hd => rfl); (case hg => rfl); (case hr => first | (go_simp; done) | (go_simp; rfl)); (case hp => exact (Reps.none _ _))
        intro v394 w18 ho19 hb hg_ hnew_
        clear hg_ hnew_
        (first | rw [← Ny393.out] at ho19 | (simp only [Int.reduceToNat] at ho19; rw [← Ny393.out] at ho19))
        replace HO392 := zM (Kd.S_elder' (by refine vS ?_; exact HO392.out) (Kd.R_base ho19) hb)
        have HO395 := zM (Kd.R_lower (Kd.R_new' ho19 (Kd.R_lt (kR HO401.out))) (below_size bB))
        replace HO401 := zM (Kd.R_elder' (kR HO401.out) (Kd.R_base ho19) hb)
        replace BK389 := zM (bK BK389 hb)
        replace HB := zM (below_step bB hb)
        clear hb ho19
        refine hK.out _ _ (h6 BK389) (fun hHeld => ?_)
        clear hK K
        refine nS ?_
        exact nC (hJ6_7_10 (v391, v394, v400) _ ⟨hHeld, (by refine vS ?_; exact Kd.S_mono HO392.out (fun _ hk => ⟨hk.2, hk.1⟩)), (by refine vR ?_; exact Kd.R_mono HO395.out (fun _ hk => hk.2)), (by refine vR ?_; exact Kd.R_mono HO401.out (fun _ hk => hk.2)), (kB BK389.out), bB⟩)
      ·skip
       rintro ⟨v391, v394⟩ w17 ⟨hS_, h0_, h1_, h2_, h3_⟩
       have n0_ : Aside0 (Kd.S (Kd.slice 5 (Kd.int .u8)) 27 w17 w.heap.size (fun k_ => some k_ ≠ (v394 : Value).ownBlock) v391 t390) := ⟨h0_⟩
       have n1_ : Aside0 (Kd.R (Kd.int .u8) 5 w17 w.heap.size (fun _ => True) v394 y393) := ⟨h1_⟩
       have n2_ : Aside0 (w17.heap[gb389]? = some (.cells #[.int .i64 a0_0, .int .i64 a0_1, .int .i64 a0_2, .int .u64 a0_3, .int .u64 a0_4, .int .u64 a0_5] 24 (0, 0))) := ⟨h2_⟩
       have n3_ : Aside0 (Below w.heap.size w w17) := ⟨h3_⟩
       clear BK389
       clear HB
       clear h0_ h1_ h2_ h3_
       have HO392 := n0_
       have HO395 := n1_
       have BK389 := n2_
       have HB := n3_
       clear n0_ n1_ n2_ n3_
       have hHeld : C6 w17 gb389 (.int .i64 a0_0) (.int .i64 a0_1) (.int .i64 a0_2) (.int .u64 a0_3) (.int .u64 a0_4) (.int .u64 a0_5) := hS_
       refine nB ?_
       refine two_ (i := 9) (j := 10) (Ni := some 23) (Nj := some 24) #[tt,tt,tt,tt,tt,tt,tt,tt,tt,tt,ff,tt,ff,ff,ff,ff,ff,ff,ff] #[tt,tt,tt,tt,tt,tt,tt,tt,tt,ff,tt,tt,ff,ff,ff,ff,ff,ff,ff] rfl rfl rfl rfl (two_of HT_.out (by kernel_rfl)) (by decide) (by decide) (fun K hK => ?_) (fun K hK => ?_)
       ·skip
        refine Kd.R_append_rows_step (Kd.int .u8) (w0 := w) w.heap.size (by rfl) (.tmp 21) (.tmp 22) 27 5 (.int .u8 0) 1 rfl Tryd.underlying27 info5 rfl (by decide) (by omega) v394 y393 l4 _ _ _ (fun _ => True) (fun _ => False) rfl rfl ?aO ?aR (fun _ _ h => h) (fun _ h => h.elim) ?aF ?aB ?aS ?aL ?_
        (case aR => repeat (first | exact (Kd.C_below HR4.out HB.out) | (with_reducible refine Kd.C_alloc ?_ _) | (with_reducible refine Kd.C_drewN ?_ _) | (with_reducible refine Kd.C_drew ?_)))
        (case aB => exact bB)
        (case aF => exact (fun _ _ => trivial))
        (case aO => exact (kR HO395.out))
        (case aS => exact (below_size bB))
        (case aL => have := LMc8.out; omega)
        intro v397 w18 ho hb hg hat
        rw [← Ny396.out] at ho
        replace BK389 := zM (blk_grown (g := gb389) (o := .cells #[.int .i64 a0_0, .int .i64 a0_1, .int .i64 a0_2, .int .u64 a0_3, .int .u64 a0_4, .int .u64 a0_5] 24 (0, 0)) (kB BK389.out) hg (Kd.R_ne HO395.out BK389.out (by decide)))
        replace HO392 := zM (Kd.S_after (ok := (fun _ => True)) (by refine vS ?_; exact Kd.S_mono HO392.out (fun _ hk => ⟨trivial, hk⟩)) hg hat)
        replace HB := zM (hb)
        have HO398 := zM (ho)
        clear HO395
        clear ho hb hg hat
        refine hK.out _ _ (h6 BK389) (fun hHeld => ?_)
        clear hK K
        refine nS ?_
        exact nC (hJ6_7_9 (v391, v394, v397) _ ⟨hHeld, (by refine vS ?_; exact Kd.S_mono HO392.out (fun _ hk => hk.2)), (kR HO398.out), (kB BK389.out), bB⟩)
       ·skip
        refine Kd.R_lit_step (Kd.int .u8) _ 5 ?hg (N := 24) ?hd (xs := ([] : List Int)) (inner := []) (ok := fun _ => True) (okp := fun _ => True) ?hr ?hp (fun _ hk => hk) trivial (Below.refl _ _) (Nat.le_refl _) (by simp) ?_; (case hd => rfl); (case hg => rfl); (case hr => first | (go_simp; done) | (go_simp; rfl)); (case hp => exact (Reps.none _ _))
        intro v400 w18 ho19 hb hg_ hnew_
        clear hg_ hnew_
        (first | rw [← Ny399.out] at ho19 | (simp only [Int.reduceToNat] at ho19; rw [← Ny399.out] at ho19))
        replace HO392 := zM (Kd.S_elder' (by refine vS ?_; exact HO392.out) (Kd.R_base ho19) hb)
        have HO401 := zM (Kd.R_lower (Kd.R_new' ho19 (Kd.R_lt (kR HO395.out))) (below_size bB))
        replace HO395 := zM (Kd.R_elder' (kR HO395.out) (Kd.R_base ho19) hb)
        replace BK389 := zM (bK BK389 hb)
        replace HB := zM (below_step bB hb)
        clear hb ho19
        refine hK.out _ _ (h6 BK389) (fun hHeld => ?_)
        clear hK K
        refine nS ?_
        exact nC (hJ6_7_10 (v391, v394, v400) _ ⟨hHeld, (by refine vS ?_; exact HO392.out), (by refine vR ?_; exact Kd.R_mono HO395.out (fun _ hk => hk.2)), (by refine vR ?_; exact Kd.R_mono HO401.out (fun _ hk => hk.2)), (kB BK389.out), bB⟩)
     ·skip
      rintro ⟨v391, v394, v400⟩ w19 ⟨hS_, h0_, h1_, h2_, h3_, h4_⟩
      have n0_ : Aside0 (Kd.S (Kd.slice 5 (Kd.int .u8)) 27 w19 w.heap.size (fun k_ => some k_ ≠ (v394 : Value).ownBlock ∧ some k_ ≠ (v400 : Value).ownBlock) v391 t390) := ⟨h0_⟩
      have n1_ : Aside0 (Kd.R (Kd.int .u8) 5 w19 w.heap.size (fun k_ => some k_ ≠ (v400 : Value).ownBlock) v394 y393) := ⟨h1_⟩
      have n2_ : Aside0 (Kd.R (Kd.int .u8) 5 w19 w.heap.size (fun k_ => some k_ ≠ (v394 : Value).ownBlock) v400 y399) := ⟨h2_⟩
      have n3_ : Aside0 (w19.heap[gb389]? = some (.cells #[.int .i64 a0_0, .int .i64 a0_1, .int .i64 a0_2, .int .u64 a0_3, .int .u64 a0_4, .int .u64 a0_5] 24 (0, 0))) := ⟨h3_⟩
      have n4_ : Aside0 (Below w.heap.size w w19) := ⟨h4_⟩
      clear BK389
      clear HB
      clear h0_ h1_ h2_ h3_ h4_
      have HO392 := n0_
      have HO395 := n1_
      have HO401 := n2_
      have BK389 := n3_
      have HB := n4_
      clear n0_ n1_ n2_ n3_ n4_
      have hHeld : C6 w19 gb389 (.int .i64 a0_0) (.int .i64 a0_1) (.int .i64 a0_2) (.int .u64 a0_3) (.int .u64 a0_4) (.int .u64 a0_5) := hS_
      refine nB ?_
      refine one_ (i := 9) (N := some 23) #[tt,tt,tt,tt,tt,tt,tt,tt,tt,tt,tt,tt,ff,ff,ff,ff,ff,ff,ff] rfl rfl (one_of HT_.out (by kernel_rfl)) (by decide) (fun K hK => ?_)
      refine Kd.R_append_rows_step (Kd.int .u8) (w0 := w) w.heap.size (by rfl) (.tmp 21) (.tmp 22) 27 5 (.int .u8 0) 1 rfl Tryd.underlying27 info5 rfl (by decide) (by omega) v394 y393 l4 _ _ _ (fun k_ => some k_ ≠ (v400 : Value).ownBlock) (fun _ => False) rfl rfl ?aO ?aR (fun _ _ h => h) (fun _ h => h.elim) ?aF ?aB ?aS ?aL ?_
      (case aR => repeat (first | exact (Kd.C_below HR4.out HB.out) | (with_reducible refine Kd.C_alloc ?_ _) | (with_reducible refine Kd.C_drewN ?_ _) | (with_reducible refine Kd.C_drew ?_)))
      (case aB => exact bB)
      (case aF => exact (fun k_ hk => Kd.fresh' (Kd.R_lt (kR HO401.out)) k_ hk))
      (case aO => exact (kR HO395.out))
      (case aS => exact (below_size bB))
      (case aL => have := LMc8.out; omega)
      intro v397 w20 ho hb hg hat
      rw [← Ny396.out] at ho
      replace BK389 := zM (blk_grown (g := gb389) (o := .cells #[.int .i64 a0_0, .int .i64 a0_1, .int .i64 a0_2, .int .u64 a0_3, .int .u64 a0_4, .int .u64 a0_5] 24 (0, 0)) (kB BK389.out) hg (Kd.R_ne HO395.out BK389.out (by decide)))
      replace HO392 := zM (Kd.S_after (ok := (fun k_ => some k_ ≠ (v400 : Value).ownBlock)) (by refine vS ?_; exact Kd.S_mono HO392.out (fun _ hk => ⟨hk.2, hk.1⟩)) hg hat)
      replace HO401 := zM (Kd.R_after (ok := (fun _ => True)) (by refine vR ?_; exact Kd.R_mono HO401.out (fun _ hk => ⟨trivial, hk⟩)) hg hat)
      replace HB := zM (hb)
      have HO398 := zM (ho)
      clear HO395
      clear ho hb hg hat
      refine hK.out _ _ (h6 BK389) (fun hHeld => ?_)
      clear hK K
      refine nS ?_
      exact nC (hJ6_7_9_10 (v391, v394, v397, v400) _ ⟨hHeld, (by refine vS ?_; exact Kd.S_mono HO392.out (fun _ hk => ⟨hk.2, hk.1⟩)), (kR HO398.out), (by refine vR ?_; exact Kd.R_mono HO401.out (fun _ hk => hk.2)), (kB BK389.out), bB⟩)
    ·skip
     rintro ⟨v391, v394, v397⟩ w18 ⟨hS_, h0_, h1_, h2_, h3_⟩
     have n0_ : Aside0 (Kd.S (Kd.slice 5 (Kd.int .u8)) 27 w18 w.heap.size (fun k_ => some k_ ≠ (v397 : Value).ownBlock) v391 t390) := ⟨h0_⟩
     have n1_ : Aside0 (Kd.R (Kd.int .u8) 5 w18 w.heap.size (fun _ => True) v397 y396) := ⟨h1_⟩
     have n2_ : Aside0 (w18.heap[gb389]? = some (.cells #[.int .i64 a0_0, .int .i64 a0_1, .int .i64 a0_2, .int .u64 a0_3, .int .u64 a0_4, .int .u64 a0_5] 24 (0, 0))) := ⟨h2_⟩
     have n3_ : Aside0 (Below w.heap.size w w18) := ⟨h3_⟩
     clear BK389
     clear HB
     clear h0_ h1_ h2_ h3_
     have HO392 := n0_
     have HO398 := n1_
     have BK389 := n2_
     have HB := n3_
     clear n0_ n1_ n2_ n3_
     have hHeld : C6 w18 gb389 (.int .i64 a0_0) (.int .i64 a0_1) (.int .i64 a0_2) (.int .u64 a0_3) (.int .u64 a0_4) (.int .u64 a0_5) := hS_
     refine nB ?_
     refine one_ (i := 10) (N := some 24) #[tt,tt,tt,tt,tt,tt,tt,tt,tt,tt,tt,tt,ff,ff,ff,ff,ff,ff,ff] rfl rfl (one_of HT_.out (by kernel_rfl)) (by decide) (fun K hK => ?_)
     refine Kd.R_lit_step (Kd.int .u8) _ 5 ?hg (N := 24) ?hd (xs := ([] : List Int)) (inner := []) (ok := fun _ => True) (okp := fun _ => True) ?hr ?hp (fun _ hk => hk) trivial (Below.refl _ _) (Nat.le_refl _) (by simp) ?_; (case hd => rfl); (case hg => rfl); (case hr => first | (go_simp; done) | (go_simp; rfl)); (case hp => exact (Reps.none _ _))
     intro v400 w19 ho20 hb hg_ hnew_
     clear hg_ hnew_
     (first | rw [← Ny399.out] at ho20 | (simp only [Int.reduceToNat] at ho20; rw [← Ny399.out] at ho20))
     replace HO392 := zM (Kd.S_elder' (by refine vS ?_; exact HO392.out) (Kd.R_base ho20) hb)
     have HO401 := zM (Kd.R_lower (Kd.R_new' ho20 (Kd.R_lt (kR HO398.out))) (below_size bB))
     replace HO398 := zM (Kd.R_elder' (kR HO398.out) (Kd.R_base ho20) hb)
     replace BK389 := zM (bK BK389 hb)
     replace HB := zM (below_step bB hb)
     clear hb ho20
     refine hK.out _ _ (h6 BK389) (fun hHeld => ?_)
     clear hK K
     refine nS ?_
     exact nC (hJ6_7_9_10 (v391, v394, v397, v400) _ ⟨hHeld, (by refine vS ?_; exact HO392.out), (by refine vR ?_; exact Kd.R_mono HO398.out (fun _ hk => hk.2)), (by refine vR ?_; exact Kd.R_mono HO401.out (fun _ hk => hk.2)), (kB BK389.out), bB⟩)
   rintro ⟨v391, v394, v397, v400⟩ w20 ⟨hS_, h0_, h1_, h2_, h3_, h4_⟩
   have n0_ : Aside0 (Kd.S (Kd.slice 5 (Kd.int .u8)) 27 w20 w.heap.size (fun k_ => some k_ ≠ (v397 : Value).ownBlock ∧ some k_ ≠ (v400 : Value).ownBlock) v391 t390) := ⟨h0_⟩
   have n1_ : Aside0 (Kd.R (Kd.int .u8) 5 w20 w.heap.size (fun k_ => some k_ ≠ (v400 : Value).ownBlock) v397 y396) := ⟨h1_⟩
   have n2_ : Aside0 (Kd.R (Kd.int .u8) 5 w20 w.heap.size (fun k_ => some k_ ≠ (v397 : Value).ownBlock) v400 y399) := ⟨h2_⟩
   have n3_ : Aside0 (w20.heap[gb389]? = some (.cells #[.int .i64 a0_0, .int .i64 a0_1, .int .i64 a0_2, .int .u64 a0_3, .int .u64 a0_4, .int .u64 a0_5] 24 (0, 0))) := ⟨h3_⟩
   have n4_ : Aside0 (Below w.heap.size w w20) := ⟨h4_⟩
   clear BK389
   clear HB
   clear h0_ h1_ h2_ h3_ h4_
   have HO392 := n0_
   have HO398 := n1_
   have HO401 := n2_
   have BK389 := n3_
   have HB := n4_
   clear n0_ n1_ n2_ n3_ n4_
   have hHeld : C6 w20 gb389 (.int .i64 a0_0) (.int .i64 a0_1) (.int .i64 a0_2) (.int .u64 a0_3) (.int .u64 a0_4) (.int .u64 a0_5) := hS_
   refine nB ?_
   refine one_ (i := 12) (N := some 26) #[tt,tt,tt,tt,tt,tt,tt,tt,tt,tt,tt,tt,tt,ff,ff,ff,ff,ff,ff] rfl rfl (one_of HT_.out (by kernel_rfl)) (by decide) (fun K hK => ?_)
   refine Kd.R_append_rows_step (Kd.int .u8) (w0 := w) w.heap.size (by rfl) (.tmp 24) (.tmp 25) 27 5 (.int .u8 0) 1 rfl Tryd.underlying27 info5 rfl (by decide) (by omega) v400 y399 l5 _ _ _ (fun k_ => some k_ ≠ (v397 : Value).ownBlock) (fun _ => False) rfl rfl ?aO ?aR (fun _ _ h => h) (fun _ h => h.elim) ?aF ?aB ?aS ?aL ?_
   (case aR => repeat (first | exact (Kd.C_below HR5.out HB.out) | (with_reducible refine Kd.C_alloc ?_ _) | (with_reducible refine Kd.C_drewN ?_ _) | (with_reducible refine Kd.C_drew ?_)))
   (case aB => exact bB)
   (case aF => exact (fun k_ hk => Kd.fresh' (Kd.R_lt (kR HO398.out)) k_ hk))
   (case aO => exact (kR HO401.out))
   (case aS => exact (below_size bB))
   (case aL => have := LMc9.out; omega)
   intro v403 w21 ho hb hg hat
   rw [← Ny402.out] at ho
   replace BK389 := zM (blk_grown (g := gb389) (o := .cells #[.int .i64 a0_0, .int .i64 a0_1, .int .i64 a0_2, .int .u64 a0_3, .int .u64 a0_4, .int .u64 a0_5] 24 (0, 0)) (kB BK389.out) hg (Kd.R_ne HO401.out BK389.out (by decide)))
   replace HO392 := zM (Kd.S_after (ok := (fun k_ => some k_ ≠ (v397 : Value).ownBlock)) (by refine vS ?_; exact HO392.out) hg hat)
   replace HO398 := zM (Kd.R_after (ok := (fun _ => True)) (by refine vR ?_; exact Kd.R_mono HO398.out (fun _ hk => ⟨trivial, hk⟩)) hg hat)
   replace HB := zM (hb)
   have HO404 := zM (ho)
   clear HO401
   clear ho hb hg hat
   obtain ⟨Ao22, co22, eo22⟩ := Kd.S_slice HO392.out
   (first | subst eo22 | (injection eo22 with f1_ f2_ f3_; have f4_ := f1_.symm; have f5_ := f3_.symm; clear f1_ f2_ f3_; subst f4_; subst f5_))
   obtain ⟨Ao23, co23, eo23⟩ := Kd.R_slice HO398.out
   (first | subst eo23 | (injection eo23 with f1_ f2_ f3_; have f4_ := f1_.symm; have f5_ := f3_.symm; clear f1_ f2_ f3_; subst f4_; subst f5_))
   obtain ⟨Ao24, co24, eo24⟩ := Kd.R_slice HO404.out
   (first | subst eo24 | (injection eo24 with f1_ f2_ f3_; have f4_ := f1_.symm; have f5_ := f3_.symm; clear f1_ f2_ f3_; subst f4_; subst f5_))
   refine hK.out _ _ (h6 BK389) (fun hHeld => ?_)
   clear hK K
   refine nS ?_
   refine one_ (i := 13) (N := some 27) #[tt,tt,tt,tt,tt,tt,tt,tt,tt,tt,tt,tt,tt,tt,ff,ff,ff,ff,ff] rfl rfl (one_of HT_.out (by kernel_rfl)) (by decide) (fun K hK => ?_)
   refine goes_ Tryd.func49 (by kernel_rfl) rfl #[.iface 85 (.agg #[.int .i64 a0_0, .int .i64 a0_1, .int .i64 a0_2, .int .u64 a0_3, .int .u64 a0_4, .int .u64 a0_5]), .int .u64 a1, .int .u64 a2, .slice Ao22 t390.length co22, .slice Ao23 y396.length co23, .slice Ao24 y402.length co24] (by rfl) rfl rfl aV ?_
   with_reducible refine (proof_VerifyConsistency.calls k a0_0 a0_1 a0_2 a0_3 a0_4 a0_5 a1 a2 (fun k_ => ((some k_ ≠ (.slice Ao23 y396.length co23 : Value).ownBlock ∧ some k_ ≠ (.slice Ao24 y402.length co24 : Value).ownBlock) ∧ k_ ≠ gb389)) _ _ t390 (fun k_ => some k_ = (.slice Ao23 y396.length co23 : Value).ownBlock) _ _ y396 (fun k_ => some k_ = (.slice Ao24 y402.length co24 : Value).ownBlock) _ _ y402 t405 t406 t409 t412 _ ?side1 ?side2 ?side3 ?side4 A10.out).mono ?_
   (case side1 => exact TabOK.below HT.out bB)
   (case side2 => first | exact Kd.S_V (Kd.S_types (HO392.out) BK389.out (by decide)) | exact Kd.V_mono Kd.S_V (Kd.S_types (HO392.out) BK389.out (by decide)) (fun k_ h_ => by simp only [and_assoc] at h_ ⊢; exact h_))
   (case side3 => first | exact Kd.R_V (Kd.R_tight rfl (Kd.R_types (Kd.R_apart' (HO398.out) (Kd.S_typed HO392.out) (by decide)) BK389.out (by decide))) | exact Kd.V_mono Kd.R_V (Kd.R_tight rfl (Kd.R_types (Kd.R_apart' (HO398.out) (Kd.S_typed HO392.out) (by decide)) BK389.out (by decide))) (fun k_ h_ => by simp only [and_assoc] at h_ ⊢; exact h_))
   (case side4 => first | exact Kd.R_V (Kd.R_tight rfl (Kd.R_types (Kd.R_apart' (HO404.out) (Kd.S_typed HO392.out) (by decide)) BK389.out (by decide))) | exact Kd.V_mono Kd.R_V (Kd.R_tight rfl (Kd.R_types (Kd.R_apart' (HO404.out) (Kd.S_typed HO392.out) (by decide)) BK389.out (by decide))) (fun k_ h_ => by simp only [and_assoc] at h_ ⊢; exact h_))
   rintro e w25 ⟨v407, v410, v413, rfl, ho0, ho1, ho2, hb⟩
   refine ⟨_, rfl, ?_⟩
   have HO408 := zM (Kd.V_lower (Kd.V_mono (ok' := fun k_ => k_ ≠ gb389) ho0 (fun k_ hk_ => Or.elim hk_ (fun hs_ => Or.elim hs_ (fun hs_ => hs_.2) (fun hs_ => Or.elim hs_ (fun hs_ => ((Kd.R_types (Kd.R_apart' (HO398.out) (Kd.S_typed HO392.out) (by decide)) BK389.out (by decide)).1 k_ hs_.symm).2) (fun hs_ => ((Kd.R_types (Kd.R_apart' (HO404.out) (Kd.S_typed HO392.out) (by decide)) BK389.out (by decide)).1 k_ hs_.symm).2))) (fun hn_ => (Kd.freshB (g := gb389) (o := .cells #[.int .i64 a0_0, .int .i64 a0_1, .int .i64 a0_2, .int .u64 a0_3, .int .u64 a0_4, .int .u64 a0_5] 24 (0, 0)) (kB BK389.out) k_ hn_)))) (below_size bB))
   have HO411 := zM (Kd.V_lower (Kd.V_mono (ok' := fun k_ => k_ ≠ gb389) ho1 (fun k_ hk_ => Or.elim hk_ (fun hs_ => Or.elim hs_ (fun hs_ => hs_.2) (fun hs_ => Or.elim hs_ (fun hs_ => ((Kd.R_types (Kd.R_apart' (HO398.out) (Kd.S_typed HO392.out) (by decide)) BK389.out (by decide)).1 k_ hs_.symm).2) (fun hs_ => ((Kd.R_types (Kd.R_apart' (HO404.out) (Kd.S_typed HO392.out) (by decide)) BK389.out (by decide)).1 k_ hs_.symm).2))) (fun hn_ => (Kd.freshB (g := gb389) (o := .cells #[.int .i64 a0_0, .int .i64 a0_1, .int .i64 a0_2, .int .u64 a0_3, .int .u64 a0_4, .int .u64 a0_5] 24 (0, 0)) (kB BK389.out) k_ hn_)))) (below_size bB))
   have HO414 := zM (Kd.V_lower (Kd.V_mono (ok' := fun k_ => k_ ≠ gb389) ho2 (fun k_ hk_ => Or.elim hk_ (fun hs_ => Or.elim hs_ (fun hs_ => hs_.2) (fun hs_ => Or.elim hs_ (fun hs_ => ((Kd.R_types (Kd.R_apart' (HO398.out) (Kd.S_typed HO392.out) (by decide)) BK389.out (by decide)).1 k_ hs_.symm).2) (fun hs_ => ((Kd.R_types (Kd.R_apart' (HO404.out) (Kd.S_typed HO392.out) (by decide)) BK389.out (by decide)).1 k_ hs_.symm).2))) (fun hn_ => (Kd.freshB (g := gb389) (o := .cells #[.int .i64 a0_0, .int .i64 a0_1, .int .i64 a0_2, .int .u64 a0_3, .int .u64 a0_4, .int .u64 a0_5] 24 (0, 0)) (kB BK389.out) k_ hn_)))) (below_size bB))
   replace HO392 := zM (Kd.S_below (by refine vS ?_; exact HO392.out) hb)
   replace HO398 := zM (Kd.R_below (kR HO398.out) hb)
   replace HO404 := zM (Kd.R_below (kR HO404.out) hb)
   replace BK389 := zM (bK BK389 hb)
   replace HB := zM (below_step bB hb)
   obtain ⟨Ao26, co26, eo26⟩ := Kd.V_slice HO408.out
   (first | subst eo26 | (injection eo26 with f1_ f2_ f3_; have f4_ := f1_.symm; have f5_ := f3_.symm; clear f1_ f2_ f3_; subst f4_; subst f5_))
   obtain ⟨Ao27, co27, eo27⟩ := Kd.V_slice HO411.out
   (first | subst eo27 | (injection eo27 with f1_ f2_ f3_; have f4_ := f1_.symm; have f5_ := f3_.symm; clear f1_ f2_ f3_; subst f4_; subst f5_))
   obtain ⟨Ao28, co28, eo28⟩ := Kd.V_slice HO414.out
   (first | subst eo28 | (injection eo28 with f1_ f2_ f3_; have f4_ := f1_.symm; have f5_ := f3_.symm; clear f1_ f2_ f3_; subst f4_; subst f5_))
   refine hK.out _ _ (h6 BK389) (fun hHeld => ?_)
   clear hK K
   refine nS ?_
   refine one_ (i := 14) (N := some 28) #[tt,tt,tt,tt,tt,tt,tt,tt,tt,tt,tt,tt,tt,tt,tt,ff,ff,ff,ff] rfl rfl (one_of HT_.out (by kernel_rfl)) (by decide) (fun K hK => ?_)
   refine goes_ Tryd.func48 (by kernel_rfl) rfl #[errVc #[.int .i64 t405, .slice Ao26 t406.length co26, .slice Ao27 t409.length co27, .slice Ao28 t412.length co28]] (by rfl) rfl rfl aV ?_
   with_reducible refine (impl_verdict.calls k t405 _ _ t406 _ _ t409 _ _ t412 t415 t416 _ ?side1 ?side2 ?side3 ?side4 ?side5 ?side6 A11.out).mono ?_
   (case side1 => repeat (first | exact (Kd.V_reads' HO408.out).2.2 | (with_reducible refine Kd.C_alloc ?_ _) | (with_reducible refine Kd.C_drewN ?_ _) | (with_reducible refine Kd.C_drew ?_)))
   (case side2 => exact (Kd.V_reads' HO408.out).2.1)
   (case side3 => repeat (first | exact (Kd.V_reads' HO411.out).2.2 | (with_reducible refine Kd.C_alloc ?_ _) | (with_reducible refine Kd.C_drewN ?_ _) | (with_reducible refine Kd.C_drew ?_)))
   (case side4 => exact (Kd.V_reads' HO411.out).2.1)
   (case side5 => repeat (first | exact (Kd.V_reads' HO414.out).2.2 | (with_reducible refine Kd.C_alloc ?_ _) | (with_reducible refine Kd.C_drewN ?_ _) | (with_reducible refine Kd.C_drew ?_)))
   (case side6 => exact (Kd.V_reads' HO414.out).2.1)
   rintro e w29 ⟨v417, rfl, ho0, hb⟩
   refine ⟨_, rfl, ?_⟩
   replace HO392 := zM (Kd.S_elder' (by refine vS ?_; exact HO392.out) (Kd.R_base ho0) hb)
   replace HO408 := zM (Kd.V_elder' (kV HO408.out) (Kd.R_base ho0) hb)
   replace HO411 := zM (Kd.V_elder' (kV HO411.out) (Kd.R_base ho0) hb)
   replace HO414 := zM (Kd.V_elder' (kV HO414.out) (Kd.R_base ho0) hb)
   have HO418 := zM (Kd.R_lower (Kd.R_new' (Kd.R_new' ho0 (Kd.R_lt (kR HO398.out))) (Kd.R_lt (kR HO404.out))) (below_size bB))
   replace HO398 := zM (Kd.R_elder' (kR HO398.out) (Kd.R_base ho0) hb)
   replace HO404 := zM (Kd.R_elder' (kR HO404.out) (Kd.R_base ho0) hb)
   replace BK389 := zM (bK BK389 hb)
   replace HB := zM (below_step bB hb)
   refine hK.out _ _ (h6 BK389) (fun hHeld => ?_)
   clear hK K
   refine nS ?_
   refine pA 15 (some 29) #[tt,tt,tt,tt,tt,tt,tt,tt,tt,tt,tt,tt,tt,tt,tt,tt,ff,ff,ff] HT_ ?_
   refine pA 16 (some 30) #[tt,tt,tt,tt,tt,tt,tt,tt,tt,tt,tt,tt,tt,tt,tt,tt,tt,ff,ff] HT_ ?_
   refine pA 17 (some 12) #[tt,tt,tt,tt,tt,tt,tt,tt,tt,tt,tt,tt,tt,tt,tt,tt,tt,tt,ff] HT_ ?_
   refine pA 18 (some 13) #[tt,tt,tt,tt,tt,tt,tt,tt,tt,tt,tt,tt,tt,tt,tt,tt,tt,tt,tt] HT_ ?_
   refine done_ (done_of HT_.out (by kernel_rfl)) ?_
   try go_wp2
   go_ret2
   exact ⟨_, by first | rfl | (simp [errW_none, errW_some] <;> rfl) | (simp [*, errW_none, errW_some] <;> rfl), by refine vR ?_; exact Kd.R_mono HO418.out (fun _ hk => trivial), bB⟩
  ·rw [if_neg c9] at H
   exact absurd H (by simp)
 ·rw [if_neg c8] at H
  exact absurd H (by simp)
def laws_zzFits7.f (k : Nat) (a0_0 : Int) (a0_1 : Int) (l0_2 : List (List Int)) : Option (Bool) := (laws_zzFits2.f k l0_2).bind fun t103 => (if t103 = true then (some true) else (some false))
set_option maxHeartbeats 8000000 in
set_option maxRecDepth 100000 in
theorem laws_zzFits7.calls (k : Nat) (a0_0 : Int) (a0_1 : Int) (A0_2 : Option Addr) (c0_2 : Nat) (l0_2 : List (List Int)) (r : Bool) (w : World) (hr0_2 : Kd.C (Kd.slice 5 (Kd.int .u8)) w A0_2 l0_2.length l0_2) (hc0_2 : l0_2.length ≤ c0_2) (h : laws_zzFits7.f k a0_0 a0_1 l0_2 = some r) :
  Calls Tryd.prog 20 #[.agg #[.int .u64 a0_0, .int .u64 a0_1, .slice A0_2 l0_2.length c0_2]] w fun e w' => e = .returned (.bool r) ∧ Below w.heap.size w w' := by
 have hu39 := Tryd.underlying39
 have HR0_2 := zM hr0_2
 have HC0_2 := zM hc0_2
 clear hr0_2 hc0_2
 have HB := zM (Below.refl w.heap.size w)
 have H : ((laws_zzFits2.f k l0_2).bind fun t103 => (if t103 = true then (some true) else (some false))) = some r := h
 clear h
 replace H := Option.bind_eq_some_iff.mp H
 obtain ⟨t103, A20, H⟩ := H
 (try dsimp only at H)
 have A2 := zM A20
 clear A20
 by_cases c3 : t103 = true
 ·subst c3
  have H1 : (some true) = some r := by rw [if_pos rfl] at H; exact H
  clear H
  have H := H1
  clear H1
  obtain rfl := Option.some.inj H
  go_enter Tryd.func20, Tryd.ntmps20
  go_wp2_with (first | ((with_reducible refine gate_dst (N := 1) rfl ?_); refine bx 1 #[.int .u64 a0_0, .int .u64 a0_1, .slice A0_2 l0_2.length c0_2] 39 ?_; intro gb102 hg w4 hbox hb; have BK102 := zM (hbox); have GW102 := zM ((gB hg : w.heap.size ≤ gb102)); have GE102 := zM ((gB hg : w.heap.size ≤ gb102)); replace HB := zM (below_step bB hb); clear hb hbox hg; obtain ⟨hcz5_0, hcz5_1, hcz5_2⟩ := h3 BK102; obtain ⟨hfz5_0, hfz5_1, hfz5_2⟩ := f3 BK102) | ((with_reducible refine gate_callee (f := 12) rfl ?_); refine goesL_ (some 5) rfl rfl Tryd.func12 (by kernel_rfl) rfl #[.slice A0_2 l0_2.length c0_2] rfl aV ?_; (with_reducible refine (laws_zzFits2.calls k _ _ l0_2 true _ ?side1 ?side2 A2.out).mono ?_); (case side1 => repeat (first | exact (Kd.C_below HR0_2.out HB.out) | (with_reducible refine Kd.C_alloc ?_ _) | (with_reducible refine Kd.C_drewN ?_ _) | (with_reducible refine Kd.C_drew ?_))); (case side2 => exact HC0_2.out); rintro e w' ⟨rfl, ⟨nd, rfl⟩⟩; refine ⟨_, rfl, ?_⟩))
  go_ret
  exact ⟨by first | rfl | (simp [errW_none, errW_some] <;> rfl) | (simp [*, errW_none, errW_some] <;> rfl), bB⟩
 ·replace c3 := Bool.eq_false_iff.mpr c3
  subst c3
  have H1 : (some false) = some r := by rw [if_neg (show ¬ (false = true) by decide)] at H; exact H
  clear H
  have H := H1
  clear H1
  obtain rfl := Option.some.inj H
  go_enter Tryd.func20, Tryd.ntmps20
  go_wp2_with (first | ((with_reducible refine gate_dst (N := 1) rfl ?_); refine bx 1 #[.int .u64 a0_0, .int .u64 a0_1, .slice A0_2 l0_2.length c0_2] 39 ?_; intro gb102 hg w6 hbox hb; have BK102 := zM (hbox); have GW102 := zM ((gB hg : w.heap.size ≤ gb102)); have GE102 := zM ((gB hg : w.heap.size ≤ gb102)); replace HB := zM (below_step bB hb); clear hb hbox hg; obtain ⟨hcz7_0, hcz7_1, hcz7_2⟩ := h3 BK102; obtain ⟨hfz7_0, hfz7_1, hfz7_2⟩ := f3 BK102) | ((with_reducible refine gate_callee (f := 12) rfl ?_); refine goesL_ (some 5) rfl rfl Tryd.func12 (by kernel_rfl) rfl #[.slice A0_2 l0_2.length c0_2] rfl aV ?_; (with_reducible refine (laws_zzFits2.calls k _ _ l0_2 false _ ?side1 ?side2 A2.out).mono ?_); (case side1 => repeat (first | exact (Kd.C_below HR0_2.out HB.out) | (with_reducible refine Kd.C_alloc ?_ _) | (with_reducible refine Kd.C_drewN ?_ _) | (with_reducible refine Kd.C_drew ?_))); (case side2 => exact HC0_2.out); rintro e w' ⟨rfl, ⟨nd, rfl⟩⟩; refine ⟨_, rfl, ?_⟩))
  go_ret
  exact ⟨by first | rfl | (simp [errW_none, errW_some] <;> rfl) | (simp [*, errW_none, errW_some] <;> rfl), bB⟩
mutual
def spec_Nodes.l0 : Nat → List (S54) → Int → Int → Option ((List (S54)))
 | 0, _, _, _ => none
 | k + 1, x3, x130000, x130001 => if x130000 < x130001 then (spec_Nodes.l1 k x3 0 x130000 x130001) else (some x3)
def spec_Nodes.l1 : Nat → List (S54) → Int → Int → Int → Option ((List (S54)))
 | 0, _, _, _, _ => none
 | k + 1, x3, x4, x130000, x130001 => if x4 < 63 then (if 0 ≤ x4 then (if (Go.bits .and .u64 (shr .u64 x130000 x4) 1) = 0 then (if 0 ≤ (IntKind.u64.wrap (x4 + 1)) then (if (shl .u64 1 (IntKind.u64.wrap (x4 + 1))) ≤ (IntKind.u64.wrap (x130001 - x130000)) then (spec_Nodes.l1 k x3 (IntKind.u64.wrap (x4 + 1)) x130000 x130001) else (if x3.length < 8796093022208 then (spec_Nodes.l0 k (x3 ++ [(⟨x4, shr .u64 x130000 x4⟩ : S54)]) (IntKind.u64.wrap (x130000 + (shl .u64 1 x4))) x130001) else (none))) else (none)) else (if x3.length < 8796093022208 then (spec_Nodes.l0 k (x3 ++ [(⟨x4, shr .u64 x130000 x4⟩ : S54)]) (IntKind.u64.wrap (x130000 + (shl .u64 1 x4))) x130001) else (none))) else (none)) else (if 0 ≤ x4 then (if x3.length < 8796093022208 then (spec_Nodes.l0 k (x3 ++ [(⟨x4, shr .u64 x130000 x4⟩ : S54)]) (IntKind.u64.wrap (x130000 + (shl .u64 1 x4))) x130001) else (none)) else (none))
end
def spec_Nodes.f (k : Nat) (a0_0 : Int) (a0_1 : Int) : Option ((List (S54))) := spec_Nodes.l0 k ([] : List (S54)) a0_0 a0_1
set_option maxHeartbeats 8000000 in
set_option maxRecDepth 100000 in
theorem spec_Nodes.calls (k : Nat) (a0_0 : Int) (a0_1 : Int) (r : List (S54)) (w : World) (h : spec_Nodes.f k a0_0 a0_1 = some r) :
  Calls Tryd.prog 63 #[.agg #[.int .u64 a0_0, .int .u64 a0_1]] w fun e w' => ∃ v0_ : Value, e = .returned (v0_) ∧ Kd.R k54 54 w' w.heap.size (fun _ => True) v0_ r ∧ Below w.heap.size w w' := by
 have hu57 := Tryd.underlying57
 have hu54 := Tryd.underlying54
 have HB := zM (Below.refl w.heap.size w)
 have H : (spec_Nodes.l0 k ([] : List (S54)) a0_0 a0_1) = some r := h
 clear h
 have H' := zM H
 clear H
 go_enter Tryd.func63, Tryd.ntmps63
 go_wp2_with (first | ((with_reducible refine gate_dst (N := 1) rfl ?_); refine bx 1 #[.int .u64 a0_0, .int .u64 a0_1] 57 ?_; intro gb129 hg w2 hbox hb; have BK129 := zM (hbox); have GW129 := zM ((gB hg : w.heap.size ≤ gb129)); have GE129 := zM ((gB hg : w.heap.size ≤ gb129)); replace HB := zM (below_step bB hb); clear hb hbox hg))
 go_loopg [3] k (fun kq v3 w' => ∃ (x3_1 : List (S54)) (x130000_1 : Int), Aside0 (spec_Nodes.l0 kq x3_1 x130000_1 a0_1 = some r) ∧ Aside0 (kq ≤ k) ∧ Aside0 (Kd.R k54 54 w' w.heap.size (fun _ => True) v3 x3_1) ∧ Aside0 (w'.heap[gb129]? = some (.cells #[.int .u64 x130000_1, .int .u64 a0_1] 57 (0, 0))) ∧ Aside0 (Below w.heap.size w w'))
 case atStart => exact ⟨(([] : List (S54))), (a0_0), H', ⟨Nat.le_refl _⟩, ⟨by first | exact Kd.R_nil _ _ _ _ _ | exact Kd.N_nil _ _ _ _ _ | exact Kd.V_nil _ _ _ _ _ | exact Kd.Q_nil _ _ _ _ _ | exact Kd.S_nil _ _ _ _ _⟩, ⟨by refine kU ?_; exact BK129.out⟩, ⟨bB⟩⟩
 case round =>
  clear H'
  try clear p2
  obtain ⟨x3_1, x130000_1, HA, HK1, HO_3, BK129, HB⟩ := hrel
  cases gk with
  | zero => exact absurd HA.out (by simp [spec_Nodes.l0])
  | succ k1 =>
   have H := HA.out
   clear HA
   simp only [spec_Nodes.l0] at H
   by_cases c3 : x130000_1 < a0_1
   ·rw [if_pos c3] at H
    have c3b0 : decide (x130000_1 < a0_1) = true := decide_eq_true c3
    clear c3
    have H' := zM H
    clear H
    have hcz4_0 : wr.cell? ⟨gb129, 0, none⟩ = some (.int .u64 x130000_1) := (blk_cell BK129.out 0).trans rfl
    have hcz4_1 : wr.cell? ⟨gb129, 1, none⟩ = some (.int .u64 a0_1) := (blk_cell BK129.out 1).trans rfl
    have hfz4_0 := blk_frozen BK129.out 0
    have hfz4_1 := blk_frozen BK129.out 1
    go_wp2
    go_loopg [4] k1 (fun kq v4 w' => ∃ (x4_2 : Int), v4 = .int .u64 x4_2 ∧ Aside0 (spec_Nodes.l1 kq x3_1 x4_2 x130000_1 a0_1 = some r) ∧ Aside0 (kq ≤ k1) ∧ Aside0 (Kd.R k54 54 w' w.heap.size (fun _ => True) u3 x3_1) ∧ Aside0 (w'.heap[gb129]? = some (.cells #[.int .u64 x130000_1, .int .u64 a0_1] 57 (0, 0))) ∧ Aside0 (Below w.heap.size w w'))
    case atStart => exact ⟨(0), sR, H', ⟨Nat.le_refl _⟩, ⟨kR HO_3.out⟩, ⟨by refine kU ?_; exact BK129.out⟩, ⟨bB⟩⟩
    case round =>
     clear H'
     try clear p2
     try clear c3
     try clear c3b0
     try clear hcz4_0
     try clear hcz4_1
     try clear hfz4_0
     try clear hfz4_1
     try clear p2
     obtain ⟨x4_2, rfl, HA, HK2, HO_3, BK129, HB⟩ := hrel
     cases gk with
     | zero => exact absurd HA.out (by simp [spec_Nodes.l1])
     | succ k2 =>
      have H := HA.out
      clear HA
      simp only [spec_Nodes.l1] at H
      by_cases c5 : x4_2 < 63
      ·rw [if_pos c5] at H
       have c5b0 : decide (x4_2 < 63) = true := decide_eq_true c5
       clear c5
       by_cases c6 : 0 ≤ x4_2
       ·rw [if_pos c6] at H
        have c6b0 := eq_true c6
        have c6b1 : decide (0 ≤ x4_2) = true := decide_eq_true c6
        clear c6
        obtain ⟨ji7, hji7⟩ : ∃ j_ : Int, (shr .u64 x130000_1 x4_2) = j_ := ⟨_, rfl⟩
        replace H : (if (Go.bits .and .u64 (ji7) 1) = 0 then (if 0 ≤ (IntKind.u64.wrap (x4_2 + 1)) then (if (shl .u64 1 (IntKind.u64.wrap (x4_2 + 1))) ≤ (IntKind.u64.wrap (a0_1 - x130000_1)) then (spec_Nodes.l1 k2 x3_1 (IntKind.u64.wrap (x4_2 + 1)) x130000_1 a0_1) else (if x3_1.length < 8796093022208 then (spec_Nodes.l0 k2 (x3_1 ++ [(⟨x4_2, ji7⟩ : S54)]) (IntKind.u64.wrap (x130000_1 + (shl .u64 1 x4_2))) a0_1) else (none))) else (none)) else (if x3_1.length < 8796093022208 then (spec_Nodes.l0 k2 (x3_1 ++ [(⟨x4_2, ji7⟩ : S54)]) (IntKind.u64.wrap (x130000_1 + (shl .u64 1 x4_2))) a0_1) else (none))) = some r := by first | (rw [hji7] at H; exact H) | (simp only [hji7] at H ⊢; exact H)
        have hji7_ : (x130000_1 / 2 ^ min x4_2.toNat 64) = ji7 := hji7
        have hji7z : x4_2 ≤ 64 → (x130000_1 / 2 ^ x4_2.toNat) = ji7 := shr_small hji7
        by_cases c8 : (Go.bits .and .u64 (ji7) 1) = 0
        ·rw [if_pos c8] at H
         have c8b0 : ((Go.bits .and .u64 (ji7) 1) == 0) = true := beq_iff_eq.mpr c8
         have c8b1 : ((Go.bits .and .u64 (ji7) 1) != 0) = false := bne_eq_false_iff_eq.mpr c8
         clear c8
         obtain ⟨ji9, hji9⟩ : ∃ j_ : Int, (IntKind.u64.wrap (x4_2 + 1)) = j_ := ⟨_, rfl⟩
         replace H : (if 0 ≤ (ji9) then (if (shl .u64 1 (ji9)) ≤ (IntKind.u64.wrap (a0_1 - x130000_1)) then (spec_Nodes.l1 k2 x3_1 ji9 x130000_1 a0_1) else (if x3_1.length < 8796093022208 then (spec_Nodes.l0 k2 (x3_1 ++ [(⟨x4_2, ji7⟩ : S54)]) (IntKind.u64.wrap (x130000_1 + (shl .u64 1 x4_2))) a0_1) else (none))) else (none)) = some r := by first | (rw [hji9] at H; exact H) | (simp only [hji9] at H ⊢; exact H)
         by_cases c10 : 0 ≤ (ji9)
         ·rw [if_pos c10] at H
          have c10b0 := eq_true c10
          have c10b1 : decide (0 ≤ (ji9)) = true := decide_eq_true c10
          clear c10
          obtain ⟨ji11, hji11⟩ : ∃ j_ : Int, (shl .u64 1 (ji9)) = j_ := ⟨_, rfl⟩
          replace H : (if (ji11) ≤ (IntKind.u64.wrap (a0_1 - x130000_1)) then (spec_Nodes.l1 k2 x3_1 ji9 x130000_1 a0_1) else (if x3_1.length < 8796093022208 then (spec_Nodes.l0 k2 (x3_1 ++ [(⟨x4_2, ji7⟩ : S54)]) (IntKind.u64.wrap (x130000_1 + (shl .u64 1 x4_2))) a0_1) else (none))) = some r := by first | (rw [hji11] at H; exact H) | (simp only [hji11] at H ⊢; exact H)
          have hji11_ : (IntKind.u64.wrap (1 * 2 ^ min (ji9).toNat 64)) = ji11 := hji11
          have hji11z : (ji9) ≤ 64 → (IntKind.u64.wrap (1 * 2 ^ (ji9).toNat)) = ji11 := shl_small hji11
          have hji11u : (IntKind.u64.wrap (2 ^ min (ji9).toNat 64)) = ji11 := by have h_ := hji11_; rw [Int.one_mul] at h_; exact h_
          have hji11v : (ji9) ≤ 64 → (IntKind.u64.wrap (2 ^ (ji9).toNat)) = ji11 := fun hle_ => by have h_ := hji11z hle_; rw [Int.one_mul] at h_; exact h_
          by_cases c12 : (ji11) ≤ (IntKind.u64.wrap (a0_1 - x130000_1))
          ·rw [if_pos c12] at H
           have c12b0 : decide ((ji11) ≤ (IntKind.u64.wrap (a0_1 - x130000_1))) = true := decide_eq_true c12
           clear c12
           have H' := zM H
           clear H
           have hcz13_0 : wr.cell? ⟨gb129, 0, none⟩ = some (.int .u64 x130000_1) := (blk_cell BK129.out 0).trans rfl
           have hcz13_1 : wr.cell? ⟨gb129, 1, none⟩ = some (.int .u64 a0_1) := (blk_cell BK129.out 1).trans rfl
           have hfz13_0 := blk_frozen BK129.out 0
           have hfz13_1 := blk_frozen BK129.out 1
           go_wp2
           go_roundg k2
           case measure => have := HK1.out; have := HK2.out; omega
           case rel => exact ⟨(ji9), (by first | rfl | (simp; done) | (simp only [← hji9] <;> (first | rfl | simp)) | (simp [*]; done)), H', ⟨by have := HK1.out; have := HK2.out; omega⟩, ⟨kR HO_3.out⟩, ⟨by refine kU ?_; exact BK129.out⟩, ⟨bB⟩⟩
          ·rw [if_neg c12] at H
           have c12b0 : decide ((ji11) ≤ (IntKind.u64.wrap (a0_1 - x130000_1))) = false := decide_eq_false c12
           clear c12
           have c14b0 := eq_true (dA : 0 ≤ x4_2)
           by_cases c15 : x3_1.length < 8796093022208
           ·rw [if_pos c15] at H
            have LMc15 := zM c15
            clear c15
            obtain ⟨y130, hy130⟩ : ∃ y_ : List (S54), y_ = (x3_1 ++ [(⟨x4_2, ji7⟩ : S54)]) := ⟨_, rfl⟩
            replace H : (spec_Nodes.l0 k2 y130 (IntKind.u64.wrap (x130000_1 + (shl .u64 1 x4_2))) a0_1) = some r := by first | (rw [hy130]; with_reducible exact H) | (have H := (Option.bind_some _ _).symm.trans H; first | (rw [hy130]; with_reducible exact H) | with_reducible exact H) | (rw [hy130]; exact H) | exact H
            have Ny130 := zM hy130
            clear hy130
            have c16b0 := eq_true (dA : 0 ≤ x4_2)
            obtain ⟨ji17, hji17⟩ : ∃ j_ : Int, (shl .u64 1 x4_2) = j_ := ⟨_, rfl⟩
            replace H : (spec_Nodes.l0 k2 y130 (IntKind.u64.wrap (x130000_1 + (ji17))) a0_1) = some r := by first | (rw [hji17] at H; exact H) | (simp only [hji17] at H ⊢; exact H)
            have hji17_ : (IntKind.u64.wrap (1 * 2 ^ min x4_2.toNat 64)) = ji17 := hji17
            have hji17z : x4_2 ≤ 64 → (IntKind.u64.wrap (1 * 2 ^ x4_2.toNat)) = ji17 := shl_small hji17
            have hji17u : (IntKind.u64.wrap (2 ^ min x4_2.toNat 64)) = ji17 := by have h_ := hji17_; rw [Int.one_mul] at h_; exact h_
            have hji17v : x4_2 ≤ 64 → (IntKind.u64.wrap (2 ^ x4_2.toNat)) = ji17 := fun hle_ => by have h_ := hji17z hle_; rw [Int.one_mul] at h_; exact h_
            have H' := zM H
            clear H
            have hcz18_0 : wr.cell? ⟨gb129, 0, none⟩ = some (.int .u64 x130000_1) := (blk_cell BK129.out 0).trans rfl
            have hcz18_1 : wr.cell? ⟨gb129, 1, none⟩ = some (.int .u64 a0_1) := (blk_cell BK129.out 1).trans rfl
            have hfz18_0 := blk_frozen BK129.out 0
            have hfz18_1 := blk_frozen BK129.out 1
            go_wp2_with (first | ((with_reducible refine gate_builtin (b := .append) (xs := #[.tmp 33, .tmp 40]) rfl ?_); at_builtin; refine Kd.R_append k54 (w0 := w) w.heap.size rfl (.tmp 33) (.tmp 40) 66 54 (.agg #[(.int .u64 0), (.int .u64 0)]) 16 rfl Tryd.underlying66 info54 rfl (by decide) (by omega) u3 x3_1 (⟨x4_2, ji7⟩ : S54) [.int .u64 x4_2, .int .u64 ji7] (fun _ => True) (fun _ => False) rfl rfl ?aP (fun _ hk => hk.elim) ?aF ?aO ?aB ?aS ?aL ?_; (case aP => exact k54_mkM _ _ _ (⟨x4_2, ji7⟩ : S54)); (case aB => exact bB); (case aF => exact (fun _ _ => trivial)); (case aO => exact (kR HO_3.out)); (case aS => exact (below_size bB)); (case aL => have := LMc15.out; omega); intro v131 w19 ho hb hg hat; rw [← Ny130.out] at ho; replace BK129 := zM (blk_grown (g := gb129) (o := .cells #[.int .u64 x130000_1, .int .u64 a0_1] 57 (0, 0)) (kB BK129.out) hg (Kd.R_ne HO_3.out BK129.out (by decide))); replace HB := zM (hb); have HO132 := zM (ho); clear HO_3; clear ho hb hg hat; obtain ⟨hcz20_0, hcz20_1⟩ := h2 BK129; obtain ⟨hfz20_0, hfz20_1⟩ := f2 BK129))
            go_roundg k2
            case measure => have := HK1.out; have := HK2.out; omega
            case rel => exact ⟨(y130), (IntKind.u64.wrap (x130000_1 + (ji17))), H', ⟨by have := HK1.out; have := HK2.out; omega⟩, ⟨by refine vR ?_; exact Kd.R_mono (Kd.R_far (p := ⟨gb129, 0, none⟩) (Kd.R_types HO132.out BK129.out (by decide)) (fun _ hk => hk.2) (.int .u64 (IntKind.u64.wrap (x130000_1 + (ji17))))) (fun _ hk => trivial)⟩, ⟨by refine kU ?_; refine blk_put (cs := #[.int .u64 x130000_1, .int .u64 a0_1]) ?_ 0 _ rfl; refine kU ?_; exact BK129.out⟩, ⟨bB⟩⟩
           ·rw [if_neg c15] at H
            exact absurd H (by simp)
         ·rw [if_neg c10] at H
          exact absurd H (by simp)
        ·rw [if_neg c8] at H
         have c8b0 : ((Go.bits .and .u64 (ji7) 1) == 0) = false := beq_eq_false_iff_ne.mpr c8
         have c8b1 : ((Go.bits .and .u64 (ji7) 1) != 0) = true := bne_iff_ne.mpr c8
         have c21b0 := eq_true (dA : 0 ≤ x4_2)
         by_cases c22 : x3_1.length < 8796093022208
         ·rw [if_pos c22] at H
          have LMc22 := zM c22
          clear c22
          obtain ⟨y133, hy133⟩ : ∃ y_ : List (S54), y_ = (x3_1 ++ [(⟨x4_2, ji7⟩ : S54)]) := ⟨_, rfl⟩
          replace H : (spec_Nodes.l0 k2 y133 (IntKind.u64.wrap (x130000_1 + (shl .u64 1 x4_2))) a0_1) = some r := by first | (rw [hy133]; with_reducible exact H) | (have H := (Option.bind_some _ _).symm.trans H; first | (rw [hy133]; with_reducible exact H) | with_reducible exact H) | (rw [hy133]; exact H) | exact H
          have Ny133 := zM hy133
          clear hy133
          have c23b0 := eq_true (dA : 0 ≤ x4_2)
          obtain ⟨ji24, hji24⟩ : ∃ j_ : Int, (shl .u64 1 x4_2) = j_ := ⟨_, rfl⟩
          replace H : (spec_Nodes.l0 k2 y133 (IntKind.u64.wrap (x130000_1 + (ji24))) a0_1) = some r := by first | (rw [hji24] at H; exact H) | (simp only [hji24] at H ⊢; exact H)
          have hji24_ : (IntKind.u64.wrap (1 * 2 ^ min x4_2.toNat 64)) = ji24 := hji24
          have hji24z : x4_2 ≤ 64 → (IntKind.u64.wrap (1 * 2 ^ x4_2.toNat)) = ji24 := shl_small hji24
          have hji24u : (IntKind.u64.wrap (2 ^ min x4_2.toNat 64)) = ji24 := by have h_ := hji24_; rw [Int.one_mul] at h_; exact h_
          have hji24v : x4_2 ≤ 64 → (IntKind.u64.wrap (2 ^ x4_2.toNat)) = ji24 := fun hle_ => by have h_ := hji24z hle_; rw [Int.one_mul] at h_; exact h_
          have H' := zM H
          clear H
          have hcz25_0 : wr.cell? ⟨gb129, 0, none⟩ = some (.int .u64 x130000_1) := (blk_cell BK129.out 0).trans rfl
          have hcz25_1 : wr.cell? ⟨gb129, 1, none⟩ = some (.int .u64 a0_1) := (blk_cell BK129.out 1).trans rfl
          have hfz25_0 := blk_frozen BK129.out 0
          have hfz25_1 := blk_frozen BK129.out 1
          go_wp2_with (first | ((with_reducible refine gate_builtin (b := .append) (xs := #[.tmp 33, .tmp 40]) rfl ?_); at_builtin; refine Kd.R_append k54 (w0 := w) w.heap.size rfl (.tmp 33) (.tmp 40) 66 54 (.agg #[(.int .u64 0), (.int .u64 0)]) 16 rfl Tryd.underlying66 info54 rfl (by decide) (by omega) u3 x3_1 (⟨x4_2, ji7⟩ : S54) [.int .u64 x4_2, .int .u64 ji7] (fun _ => True) (fun _ => False) rfl rfl ?aP (fun _ hk => hk.elim) ?aF ?aO ?aB ?aS ?aL ?_; (case aP => exact k54_mkM _ _ _ (⟨x4_2, ji7⟩ : S54)); (case aB => exact bB); (case aF => exact (fun _ _ => trivial)); (case aO => exact (kR HO_3.out)); (case aS => exact (below_size bB)); (case aL => have := LMc22.out; omega); intro v134 w26 ho hb hg hat; rw [← Ny133.out] at ho; replace BK129 := zM (blk_grown (g := gb129) (o := .cells #[.int .u64 x130000_1, .int .u64 a0_1] 57 (0, 0)) (kB BK129.out) hg (Kd.R_ne HO_3.out BK129.out (by decide))); replace HB := zM (hb); have HO135 := zM (ho); clear HO_3; clear ho hb hg hat; obtain ⟨hcz27_0, hcz27_1⟩ := h2 BK129; obtain ⟨hfz27_0, hfz27_1⟩ := f2 BK129))
          go_roundg k2
          case measure => have := HK1.out; have := HK2.out; omega
          case rel => exact ⟨(y133), (IntKind.u64.wrap (x130000_1 + (ji24))), H', ⟨by have := HK1.out; have := HK2.out; omega⟩, ⟨by refine vR ?_; exact Kd.R_mono (Kd.R_far (p := ⟨gb129, 0, none⟩) (Kd.R_types HO135.out BK129.out (by decide)) (fun _ hk => hk.2) (.int .u64 (IntKind.u64.wrap (x130000_1 + (ji24))))) (fun _ hk => trivial)⟩, ⟨by refine kU ?_; refine blk_put (cs := #[.int .u64 x130000_1, .int .u64 a0_1]) ?_ 0 _ rfl; refine kU ?_; exact BK129.out⟩, ⟨bB⟩⟩
         ·rw [if_neg c22] at H
          exact absurd H (by simp)
       ·rw [if_neg c6] at H
        exact absurd H (by simp)
      ·rw [if_neg c5] at H
       have c5b0 : decide (x4_2 < 63) = false := decide_eq_false c5
       clear c5
       by_cases c28 : 0 ≤ x4_2
       ·rw [if_pos c28] at H
        have c28b0 := eq_true c28
        have c28b1 : decide (0 ≤ x4_2) = true := decide_eq_true c28
        clear c28
        obtain ⟨ji29, hji29⟩ : ∃ j_ : Int, (shr .u64 x130000_1 x4_2) = j_ := ⟨_, rfl⟩
        replace H : (if x3_1.length < 8796093022208 then (spec_Nodes.l0 k2 (x3_1 ++ [(⟨x4_2, ji29⟩ : S54)]) (IntKind.u64.wrap (x130000_1 + (shl .u64 1 x4_2))) a0_1) else (none)) = some r := by first | (rw [hji29] at H; exact H) | (simp only [hji29] at H ⊢; exact H)
        have hji29_ : (x130000_1 / 2 ^ min x4_2.toNat 64) = ji29 := hji29
        have hji29z : x4_2 ≤ 64 → (x130000_1 / 2 ^ x4_2.toNat) = ji29 := shr_small hji29
        by_cases c30 : x3_1.length < 8796093022208
        ·rw [if_pos c30] at H
         have LMc30 := zM c30
         clear c30
         obtain ⟨y136, hy136⟩ : ∃ y_ : List (S54), y_ = (x3_1 ++ [(⟨x4_2, ji29⟩ : S54)]) := ⟨_, rfl⟩
         replace H : (spec_Nodes.l0 k2 y136 (IntKind.u64.wrap (x130000_1 + (shl .u64 1 x4_2))) a0_1) = some r := by first | (rw [hy136]; with_reducible exact H) | (have H := (Option.bind_some _ _).symm.trans H; first | (rw [hy136]; with_reducible exact H) | with_reducible exact H) | (rw [hy136]; exact H) | exact H
         have Ny136 := zM hy136
         clear hy136
         have c31b0 := eq_true (dA : 0 ≤ x4_2)
         obtain ⟨ji32, hji32⟩ : ∃ j_ : Int, (shl .u64 1 x4_2) = j_ := ⟨_, rfl⟩
         replace H : (spec_Nodes.l0 k2 y136 (IntKind.u64.wrap (x130000_1 + (ji32))) a0_1) = some r := by first | (rw [hji32] at H; exact H) | (simp only [hji32] at H ⊢; exact H)
         have hji32_ : (IntKind.u64.wrap (1 * 2 ^ min x4_2.toNat 64)) = ji32 := hji32
         have hji32z : x4_2 ≤ 64 → (IntKind.u64.wrap (1 * 2 ^ x4_2.toNat)) = ji32 := shl_small hji32
         have hji32u : (IntKind.u64.wrap (2 ^ min x4_2.toNat 64)) = ji32 := by have h_ := hji32_; rw [Int.one_mul] at h_; exact h_
         have hji32v : x4_2 ≤ 64 → (IntKind.u64.wrap (2 ^ x4_2.toNat)) = ji32 := fun hle_ => by have h_ := hji32z hle_; rw [Int.one_mul] at h_; exact h_
         have H' := zM H
         clear H
         have hcz33_0 : wr.cell? ⟨gb129, 0, none⟩ = some (.int .u64 x130000_1) := (blk_cell BK129.out 0).trans rfl
         have hcz33_1 : wr.cell? ⟨gb129, 1, none⟩ = some (.int .u64 a0_1) := (blk_cell BK129.out 1).trans rfl
         have hfz33_0 := blk_frozen BK129.out 0
         have hfz33_1 := blk_frozen BK129.out 1
         go_wp2_with (first | ((with_reducible refine gate_builtin (b := .append) (xs := #[.tmp 33, .tmp 40]) rfl ?_); at_builtin; refine Kd.R_append k54 (w0 := w) w.heap.size rfl (.tmp 33) (.tmp 40) 66 54 (.agg #[(.int .u64 0), (.int .u64 0)]) 16 rfl Tryd.underlying66 info54 rfl (by decide) (by omega) u3 x3_1 (⟨x4_2, ji29⟩ : S54) [.int .u64 x4_2, .int .u64 ji29] (fun _ => True) (fun _ => False) rfl rfl ?aP (fun _ hk => hk.elim) ?aF ?aO ?aB ?aS ?aL ?_; (case aP => exact k54_mkM _ _ _ (⟨x4_2, ji29⟩ : S54)); (case aB => exact bB); (case aF => exact (fun _ _ => trivial)); (case aO => exact (kR HO_3.out)); (case aS => exact (below_size bB)); (case aL => have := LMc30.out; omega); intro v137 w34 ho hb hg hat; rw [← Ny136.out] at ho; replace BK129 := zM (blk_grown (g := gb129) (o := .cells #[.int .u64 x130000_1, .int .u64 a0_1] 57 (0, 0)) (kB BK129.out) hg (Kd.R_ne HO_3.out BK129.out (by decide))); replace HB := zM (hb); have HO138 := zM (ho); clear HO_3; clear ho hb hg hat; obtain ⟨hcz35_0, hcz35_1⟩ := h2 BK129; obtain ⟨hfz35_0, hfz35_1⟩ := f2 BK129))
         go_roundg k2
         case measure => have := HK1.out; have := HK2.out; omega
         case rel => exact ⟨(y136), (IntKind.u64.wrap (x130000_1 + (ji32))), H', ⟨by have := HK1.out; have := HK2.out; omega⟩, ⟨by refine vR ?_; exact Kd.R_mono (Kd.R_far (p := ⟨gb129, 0, none⟩) (Kd.R_types HO138.out BK129.out (by decide)) (fun _ hk => hk.2) (.int .u64 (IntKind.u64.wrap (x130000_1 + (ji32))))) (fun _ hk => trivial)⟩, ⟨by refine kU ?_; refine blk_put (cs := #[.int .u64 x130000_1, .int .u64 a0_1]) ?_ 0 _ rfl; refine kU ?_; exact BK129.out⟩, ⟨bB⟩⟩
        ·rw [if_neg c30] at H
         exact absurd H (by simp)
       ·rw [if_neg c28] at H
        exact absurd H (by simp)
   ·rw [if_neg c3] at H
    have c3b0 : decide (x130000_1 < a0_1) = false := decide_eq_false c3
    clear c3
    obtain rfl := Option.some.inj H
    have hcz36_0 : wr.cell? ⟨gb129, 0, none⟩ = some (.int .u64 x130000_1) := (blk_cell BK129.out 0).trans rfl
    have hcz36_1 : wr.cell? ⟨gb129, 1, none⟩ = some (.int .u64 a0_1) := (blk_cell BK129.out 1).trans rfl
    have hfz36_0 := blk_frozen BK129.out 0
    have hfz36_1 := blk_frozen BK129.out 1
    go_wp2
    go_ret
    exact ⟨_, by first | rfl | (simp [errW_none, errW_some] <;> rfl) | (simp [*, errW_none, errW_some] <;> rfl), by refine vR ?_; exact HO_3.out, bB⟩
end Go.Proofs.YtkmdkmlgahfcpaaDoor.M
