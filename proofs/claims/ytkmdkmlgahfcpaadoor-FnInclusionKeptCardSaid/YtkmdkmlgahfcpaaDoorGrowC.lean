/- FnInclusionOfRanges: the walk. -/
import Derived.Test.YtkmdkmlgahfcpaaDoorSr
import Derived.Test.YtkmdkmlgahfcpaaDoorGrowA
namespace Go.Proofs.YtkmdkmlgahfcpaaDoor.M
open Go Go.RowKit Go.Proofs.YtkmdkmlgahfcpaaDoorW.PrintWords Go.Proofs.YtkmdkmlgahfcpaaDoorW.PrintLast Go.Proofs.YtkmdkmlgahfcpaaDoorW.PrintMore
attribute [local go_sem] max2_int min2_int max_two min_two max_three min_three max_four min_four
set_option linter.unusedVariables false
set_option linter.unusedSimpArgs false
def laws_FnInclusionOfRanges.g (k : Nat) (a0 a1 a2 a3 a4 a5 : Int) (b1 e1 : Int) (h1 : List (List Int)) (l : List Int) (b2 e2 : Int) (h2 : List (List Int)) : Option Bool :=
 (laws_growthRoot.f k a0 a1 a2 a3 a4 a5 [⟨b1, e1, h1⟩, ⟨e1, IntKind.u64.wrap (e1 + 1), [l]⟩, ⟨b2, e2, h2⟩]).bind fun r1 =>
 (impl_Inclusion.f k e1 e2).bind fun p => (laws_growthHashes.f k p.1 [⟨b1, e1, h1⟩, ⟨b2, e2, h2⟩]).bind fun gh =>
 (impl_InclusionHashes.f k a0 a1 a2 a3 a4 a5 e1 e2 gh.1).bind fun ch => (impl_VerifyInclusion.f k a0 a1 a2 a3 a4 a5 e1 e2 l ch.1 r1.1).bind fun v => (spec_PathParts.f k e1 e2).bind fun pp =>
 if (r1.2 = true ∧ p.2.2.2.2.2 = true) ∧ (gh.2 = true ∧ ch.2 = true ∧ v.1 = 0) ∧ ch.1.length = pp.length then some true else none
def laws_FnInclusionOfRanges.f (k : Nat) (a0 a1 a2 a3 a4 a5 : Int) (b1 e1 : Int) (h1 : List (List Int)) (l : List Int) (b2 e2 : Int) (h2 : List (List Int)) : Option Bool :=
 (laws_zzFits7.f k b1 e1 h1).bind fun f1 => if f1 = true then if (l.length : Int) > 2147483647 then some true else (laws_zzFits7.f k b2 e2 h2).bind fun f2 => if f2 = true then
  if (l.length : Int) = a1 then if IntKind.u64.wrap (e1 + 1) = 0 then some true else (laws_growthNext.f k [⟨b1, e1, h1⟩, ⟨e1, IntKind.u64.wrap (e1 + 1), [l]⟩, ⟨b2, e2, h2⟩]).bind fun nx => if nx = true then laws_FnInclusionOfRanges.g k a0 a1 a2 a3 a4 a5 b1 e1 h1 l b2 e2 h2 else some true
 else some true else some true else some true
set_option maxHeartbeats 16000000 in
set_option maxRecDepth 100000 in
theorem laws_FnInclusionOfRanges.calls (k : Nat) (a0 a1 a2 a3 a4 a5 : Int) (b1 e1 : Int) (A1 : Option Addr) (c1 : Nat) (h1 : List (List Int)) (Al : Option Addr) (cl : Nat) (l : List Int) (b2 e2 : Int) (A2 : Option Addr) (c2 : Nat) (h2 : List (List Int)) (r : Bool) (w : World) (hT : TabOK w) (hr1 : RowC w A1 c1 h1) (hrl : TxtC w Al cl l) (hr2 : RowC w A2 c2 h2)
  (h : laws_FnInclusionOfRanges.f k a0 a1 a2 a3 a4 a5 b1 e1 h1 l b2 e2 h2 = some r) :
  Calls Tryd.prog 42 #[.agg #[.int .i64 a0, .int .i64 a1, .int .i64 a2, .int .u64 a3, .int .u64 a4, .int .u64 a5], .agg #[.int .u64 b1, .int .u64 e1, .slice A1 h1.length c1], .slice Al l.length cl, .agg #[.int .u64 b2, .int .u64 e2, .slice A2 h2.length c2]] w fun e w' => e = .returned (.bool r) ∧ Below w.heap.size w w' := by
 unfold laws_FnInclusionOfRanges.f at h
 obtain ⟨f1, hf1, h⟩ := Option.bind_eq_some_iff.mp h
 have HT := zM hT
 have HR1 := zM hr1
 have HR2 := zM hr2
 have HRL := zM hrl
 have HF1 := zM hf1
 clear hT hr1 hr2 hrl hf1
 obtain ⟨w1, hw1⟩ : ∃ w1, w1 = ((w.alloc (.cells #[.int .i64 a0, .int .i64 a1, .int .i64 a2, .int .u64 a3, .int .u64 a4, .int .u64 a5] 24)).alloc (.cells #[.int .u64 b1, .int .u64 e1, .slice A1 h1.length c1] 39)).alloc (.cells #[.int .u64 b2, .int .u64 e2, .slice A2 h2.length c2] 39) := ⟨_, rfl⟩
 obtain ⟨hb1, hkh, hka, hkg⟩ := three_blocks w _ _ _ w1 hw1
 have HB1 := zM hb1
 have HH1 := zM (show HsB w1 w.heap.size a0 a1 a2 a3 a4 a5 from hkh)
 have HA1 := zM (show RgC w1 (w.heap.size + 1) b1 e1 (.slice A1 h1.length c1) from hka)
 have HG1 := zM (show RgC w1 (w.heap.size + 1 + 1) b2 e2 (.slice A2 h2.length c2) from hkg)
 clear hb1 hkh hka hkg
 go_enter Tryd.func42, Tryd.ntmps42
 go_upto_region 1 with (fail)
 rw [← hw1]
 clear hw1
 obtain ⟨q1_0, q1_1, q1_2⟩ := HA1.out.cells
 obtain ⟨q1_3, q1_4, q1_5⟩ := HG1.out.cells
 obtain ⟨q1_6, q1_7, q1_8, q1_9, q1_10, q1_11⟩ := HH1.out.cells
 cases f1 with
 | false =>
  obtain rfl : true = r := by simpa using h
  go_wp2_with (go_at_call 20; (with_reducible refine (laws_zzFits7.calls k b1 e1 A1 c1 h1 false w1 ?s1 HR1.out.1 HF1.out).mono ?_); (case s1 => exact Kd.C_below HR1.out.2 HB1.out); rintro e' w2 ⟨rfl, hb⟩;  have HB2 := zM (below_step HB1.out hb); have HH2 := zM (blk_below HH1.out hb); have HA2 := zM (blk_below HA1.out hb); have HG2 := zM (blk_below HG1.out hb); obtain ⟨_,_,_,_,_,_⟩ := HsB.cells HH2.out; obtain ⟨_,_,_⟩ := RgC.cells HA2.out; obtain ⟨_,_,_⟩ := RgC.cells HG2.out; clear hb)
  go_ret
  exact ⟨rfl, HB2.out⟩
 | true =>
 rw [if_pos rfl] at h
 by_cases hl0 : (l.length : Int) > 2147483647
 ·rw [if_pos hl0] at h
  obtain rfl : true = r := by simpa using h
  go_wp2_with (go_at_call 20; (with_reducible refine (laws_zzFits7.calls k b1 e1 A1 c1 h1 true w1 ?s1 HR1.out.1 HF1.out).mono ?_); (case s1 => exact Kd.C_below HR1.out.2 HB1.out); rintro e' w2 ⟨rfl, hb⟩;  have HB2 := zM (below_step HB1.out hb); have HH2 := zM (blk_below HH1.out hb); have HA2 := zM (blk_below HA1.out hb); have HG2 := zM (blk_below HG1.out hb); obtain ⟨_,_,_,_,_,_⟩ := HsB.cells HH2.out; obtain ⟨_,_,_⟩ := RgC.cells HA2.out; obtain ⟨_,_,_⟩ := RgC.cells HG2.out; clear hb)
  go_ret
  exact ⟨rfl, HB2.out⟩
 rw [if_neg hl0] at h
 obtain ⟨f2, hf2, h⟩ := Option.bind_eq_some_iff.mp h
 have HF2 := zM hf2
 clear hf2
 cases f2 with
 | false =>
  obtain rfl : true = r := by simpa using h
  go_wp2_with (first | (go_at_call 20; (with_reducible refine (laws_zzFits7.calls k b1 e1 A1 c1 h1 true w1 ?s1 HR1.out.1 HF1.out).mono ?_); (case s1 => exact Kd.C_below HR1.out.2 HB1.out); rintro e' w2 ⟨rfl, hb⟩;  have HB2 := zM (below_step HB1.out hb); have HH2 := zM (blk_below HH1.out hb); have HA2 := zM (blk_below HA1.out hb); have HG2 := zM (blk_below HG1.out hb); obtain ⟨_,_,_,_,_,_⟩ := HsB.cells HH2.out; obtain ⟨_,_,_⟩ := RgC.cells HA2.out; obtain ⟨_,_,_⟩ := RgC.cells HG2.out; clear hb) | (go_at_call 20; (with_reducible refine (laws_zzFits7.calls k b2 e2 A2 c2 h2 false w2 ?s1 HR2.out.1 HF2.out).mono ?_); (case s1 => exact Kd.C_below HR2.out.2 HB2.out); rintro e' w3 ⟨rfl, hb⟩;  have HB3 := zM (below_step HB2.out hb); have HH3 := zM (blk_below HH2.out hb); have HA3 := zM (blk_below HA2.out hb); have HG3 := zM (blk_below HG2.out hb); obtain ⟨qHH3_0, qHH3_1, qHH3_2, qHH3_3, qHH3_4, qHH3_5⟩ := HsB.cells HH3.out; obtain ⟨qHA3_0, qHA3_1, qHA3_2⟩ := RgC.cells HA3.out; obtain ⟨qHG3_0, qHG3_1, qHG3_2⟩ := RgC.cells HG3.out; clear hb))
  go_ret
  exact ⟨rfl, HB3.out⟩
 | true =>
 rw [if_pos rfl] at h
 by_cases hs : (l.length : Int) = a1
 case neg =>
  rw [if_neg hs] at h
  obtain rfl : true = r := by simpa using h
  have hsb : ((l.length : Int) != a1) = true := bne_iff_ne.mpr hs
  go_wp2_with (first | (go_at_call 20; (with_reducible refine (laws_zzFits7.calls k b1 e1 A1 c1 h1 true w1 ?s1 HR1.out.1 HF1.out).mono ?_); (case s1 => exact Kd.C_below HR1.out.2 HB1.out); rintro e' w2 ⟨rfl, hb⟩;  have HB2 := zM (below_step HB1.out hb); have HH2 := zM (blk_below HH1.out hb); have HA2 := zM (blk_below HA1.out hb); have HG2 := zM (blk_below HG1.out hb); obtain ⟨_,_,_,_,_,_⟩ := HsB.cells HH2.out; obtain ⟨_,_,_⟩ := RgC.cells HA2.out; obtain ⟨_,_,_⟩ := RgC.cells HG2.out; clear hb) | (go_at_call 20; (with_reducible refine (laws_zzFits7.calls k b2 e2 A2 c2 h2 true w2 ?s1 HR2.out.1 HF2.out).mono ?_); (case s1 => exact Kd.C_below HR2.out.2 HB2.out); rintro e' w3 ⟨rfl, hb⟩;  have HB3 := zM (below_step HB2.out hb); have HH3 := zM (blk_below HH2.out hb); have HA3 := zM (blk_below HA2.out hb); have HG3 := zM (blk_below HG2.out hb); obtain ⟨qHH3_0, qHH3_1, qHH3_2, qHH3_3, qHH3_4, qHH3_5⟩ := HsB.cells HH3.out; obtain ⟨qHA3_0, qHA3_1, qHA3_2⟩ := RgC.cells HA3.out; obtain ⟨qHG3_0, qHG3_1, qHG3_2⟩ := RgC.cells HG3.out; clear hb))
  go_quiet (fail)
  go_wp2
  go_ret
  exact ⟨rfl, pw_below_drewN HB3.out _⟩
 rw [if_pos hs] at h
 have hsb : ((l.length : Int) != a1) = false := by rw [bne_eq_false_iff_eq]; exact hs
 by_cases h0 : IntKind.u64.wrap (e1 + 1) = 0
 case pos =>
  rw [if_pos h0] at h
  obtain rfl : true = r := by simpa using h
  have h0b : (IntKind.u64.wrap (e1 + 1) == 0) = true := beq_iff_eq.mpr h0
  clear h0 hs
  go_wp2_with (first | (go_at_call 20; (with_reducible refine (laws_zzFits7.calls k b1 e1 A1 c1 h1 true w1 ?s1 HR1.out.1 HF1.out).mono ?_); (case s1 => exact Kd.C_below HR1.out.2 HB1.out); rintro e' w2 ⟨rfl, hb⟩;  have HB2 := zM (below_step HB1.out hb); have HH2 := zM (blk_below HH1.out hb); have HA2 := zM (blk_below HA1.out hb); have HG2 := zM (blk_below HG1.out hb); obtain ⟨_,_,_,_,_,_⟩ := HsB.cells HH2.out; obtain ⟨_,_,_⟩ := RgC.cells HA2.out; obtain ⟨_,_,_⟩ := RgC.cells HG2.out; clear hb) | (go_at_call 20; (with_reducible refine (laws_zzFits7.calls k b2 e2 A2 c2 h2 true w2 ?s1 HR2.out.1 HF2.out).mono ?_); (case s1 => exact Kd.C_below HR2.out.2 HB2.out); rintro e' w3 ⟨rfl, hb⟩;  have HB3 := zM (below_step HB2.out hb); have HH3 := zM (blk_below HH2.out hb); have HA3 := zM (blk_below HA2.out hb); have HG3 := zM (blk_below HG2.out hb); obtain ⟨qHH3_0, qHH3_1, qHH3_2, qHH3_3, qHH3_4, qHH3_5⟩ := HsB.cells HH3.out; obtain ⟨qHA3_0, qHA3_1, qHA3_2⟩ := RgC.cells HA3.out; obtain ⟨qHG3_0, qHG3_1, qHG3_2⟩ := RgC.cells HG3.out; clear hb))
  go_quiet (fail)
  go_wp2
  go_ret
  exact ⟨rfl, pw_below_drewN HB3.out _⟩
 rw [if_neg h0] at h
 have h0b : (IntKind.u64.wrap (e1 + 1) == 0) = false := beq_eq_false_iff_ne.mpr h0
 clear h0 hs
 obtain ⟨nx, hnx, h⟩ := Option.bind_eq_some_iff.mp h
 have HNX := zM hnx
 clear hnx
 go_upto_region 3 with (first | (go_at_call 20; (with_reducible refine (laws_zzFits7.calls k b1 e1 A1 c1 h1 true w1 ?s1 HR1.out.1 HF1.out).mono ?_); (case s1 => exact Kd.C_below HR1.out.2 HB1.out); rintro e' w2 ⟨rfl, hb⟩;  have HB2 := zM (below_step HB1.out hb); have HH2 := zM (blk_below HH1.out hb); have HA2 := zM (blk_below HA1.out hb); have HG2 := zM (blk_below HG1.out hb); obtain ⟨_,_,_,_,_,_⟩ := HsB.cells HH2.out; obtain ⟨_,_,_⟩ := RgC.cells HA2.out; obtain ⟨_,_,_⟩ := RgC.cells HG2.out; clear hb) | (go_at_call 20; (with_reducible refine (laws_zzFits7.calls k b2 e2 A2 c2 h2 true w2 ?s1 HR2.out.1 HF2.out).mono ?_); (case s1 => exact Kd.C_below HR2.out.2 HB2.out); rintro e' w3 ⟨rfl, hb⟩;  have HB3 := zM (below_step HB2.out hb); have HH3 := zM (blk_below HH2.out hb); have HA3 := zM (blk_below HA2.out hb); have HG3 := zM (blk_below HG2.out hb); obtain ⟨qHH3_0, qHH3_1, qHH3_2, qHH3_3, qHH3_4, qHH3_5⟩ := HsB.cells HH3.out; obtain ⟨qHA3_0, qHA3_1, qHA3_2⟩ := RgC.cells HA3.out; obtain ⟨qHG3_0, qHG3_1, qHG3_2⟩ := RgC.cells HG3.out; clear hb))
 have HQ := zM (show w3.cell? ⟨w.heap.size, 1, none⟩ = some (.int .i64 a1) ∧ w3.cell? ⟨w.heap.size + 1, 0, none⟩ = some (.int .u64 b1) ∧ w3.cell? ⟨w.heap.size + 1, 1, none⟩ = some (.int .u64 e1) ∧ w3.cell? ⟨w.heap.size + 1, 2, none⟩ = some (.slice A1 h1.length c1) ∧ w3.cell? ⟨w.heap.size + 1 + 1, 0, none⟩ = some (.int .u64 b2) ∧ w3.cell? ⟨w.heap.size + 1 + 1, 1, none⟩ = some (.int .u64 e2) ∧ w3.cell? ⟨w.heap.size + 1 + 1, 2, none⟩ = some (.slice A2 h2.length c2) from ⟨qHH3_1, qHA3_0, qHA3_1, qHA3_2, qHG3_0, qHG3_1, qHG3_2⟩)
 go_region_held3 (fun w' => w'.cell? ⟨w.heap.size, 1, none⟩ = some (.int .i64 a1) ∧ w'.cell? ⟨w.heap.size + 1, 0, none⟩ = some (.int .u64 b1) ∧ w'.cell? ⟨w.heap.size + 1, 1, none⟩ = some (.int .u64 e1) ∧ w'.cell? ⟨w.heap.size + 1, 2, none⟩ = some (.slice A1 h1.length c1) ∧ w'.cell? ⟨w.heap.size + 1 + 1, 0, none⟩ = some (.int .u64 b2) ∧ w'.cell? ⟨w.heap.size + 1 + 1, 1, none⟩ = some (.int .u64 e2) ∧ w'.cell? ⟨w.heap.size + 1 + 1, 2, none⟩ = some (.slice A2 h2.length c2)) (first | exact HS7.out | exact HS6.out | go_keep)
  (first
   | (go_at_call 39; (with_reducible refine (leafC e1 Al cl l _ ?s1).mono ?_); (case s1 => exact (HRL.out.below (by first | exact HB3.out | exact below_drew HB3.out | exact pw_below_drewN HB3.out _))); rintro e' w4 ⟨⟨A4, c4, rfl, h4⟩, hb⟩; have hb4 := (by first | exact hb | exact below_step (below_drew (Below.refl _ _)) hb | exact below_step (pw_below_drewN (Below.refl _ _) _) hb : Below w3.heap.size w3 w4); have HO4 := zM h4; clear hb h4; have HB4 := zM (below_step HB3.out hb4); have HH4 := zM (blk_below HH3.out hb4); have HA4 := zM (blk_below HA3.out hb4); have HG4 := zM (blk_below HG3.out hb4); clear hb4; have HS6 := zM (show w4.cell? ⟨w.heap.size, 1, none⟩ = some (.int .i64 a1) ∧ w4.cell? ⟨w.heap.size + 1, 0, none⟩ = some (.int .u64 b1) ∧ w4.cell? ⟨w.heap.size + 1, 1, none⟩ = some (.int .u64 e1) ∧ w4.cell? ⟨w.heap.size + 1, 2, none⟩ = some (.slice A1 h1.length c1) ∧ w4.cell? ⟨w.heap.size + 1 + 1, 0, none⟩ = some (.int .u64 b2) ∧ w4.cell? ⟨w.heap.size + 1 + 1, 1, none⟩ = some (.int .u64 e2) ∧ w4.cell? ⟨w.heap.size + 1 + 1, 2, none⟩ = some (.slice A2 h2.length c2) from ⟨(HsB.cells HH4.out).2.1, (RgC.cells HA4.out).1, (RgC.cells HA4.out).2.1, (RgC.cells HA4.out).2.2, (RgC.cells HG4.out).1, (RgC.cells HG4.out).2.1, (RgC.cells HG4.out).2.2⟩))
   | (go_at_call 40; (with_reducible refine (nextC k _ 3 3 [⟨b1, e1, h1⟩, ⟨e1, IntKind.u64.wrap (e1 + 1), [l]⟩, ⟨b2, e2, h2⟩] ?hn nx _ ?s1 ?hc HNX.out).mono ?_); (case hn => exact rfl); (case hc => exact Nat.le_refl 3); (case s1 => exact buildC3 (blk_new _ _) (HR1.out.below (below_alloc HB4.out _)) (HO4.out.below (below_alloc (Below.refl _ _) _)) (HR2.out.below (below_alloc HB4.out _))); rintro e' w5 ⟨rfl, hb⟩; have hb5 := below_step (below_alloc (Below.refl w4.heap.size w4) _) hb; clear hb; have HB5 := zM (below_step HB4.out hb5); have HH5 := zM (blk_below HH4.out hb5); have HA5 := zM (blk_below HA4.out hb5); have HG5 := zM (blk_below HG4.out hb5); clear hb5; have HS7 := zM (show w5.cell? ⟨w.heap.size, 1, none⟩ = some (.int .i64 a1) ∧ w5.cell? ⟨w.heap.size + 1, 0, none⟩ = some (.int .u64 b1) ∧ w5.cell? ⟨w.heap.size + 1, 1, none⟩ = some (.int .u64 e1) ∧ w5.cell? ⟨w.heap.size + 1, 2, none⟩ = some (.slice A1 h1.length c1) ∧ w5.cell? ⟨w.heap.size + 1 + 1, 0, none⟩ = some (.int .u64 b2) ∧ w5.cell? ⟨w.heap.size + 1 + 1, 1, none⟩ = some (.int .u64 e2) ∧ w5.cell? ⟨w.heap.size + 1 + 1, 2, none⟩ = some (.slice A2 h2.length c2) from ⟨(HsB.cells HH5.out).2.1, (RgC.cells HA5.out).1, (RgC.cells HA5.out).2.1, (RgC.cells HA5.out).2.2, (RgC.cells HG5.out).1, (RgC.cells HG5.out).2.1, (RgC.cells HG5.out).2.2⟩)))
 cases nx with
 | false =>
  obtain rfl : true = r := by simpa using h
  go_wp2
  go_ret
  exact ⟨rfl, HB5.out⟩
 | true =>
 rw [if_pos rfl] at h
 clear HF1 HF2 HNX h0b hsb HQ HS6 HS7 HO4
 unfold laws_FnInclusionOfRanges.g at h
 obtain ⟨⟨r1, o1⟩, hr1, h⟩ := Option.bind_eq_some_iff.mp h
 obtain ⟨⟨ids, pl, px, pb, pe, ok⟩, hp, h⟩ := Option.bind_eq_some_iff.mp h
 obtain ⟨⟨gl, g2⟩, hg, h⟩ := Option.bind_eq_some_iff.mp h
 obtain ⟨⟨cp, m2⟩, hch, h⟩ := Option.bind_eq_some_iff.mp h
 obtain ⟨⟨v1, v2⟩, hv, h⟩ := Option.bind_eq_some_iff.mp h
 dsimp only at hg hch hv h
 obtain ⟨pp, hpp, h⟩ := Option.bind_eq_some_iff.mp h
 by_cases hall : (o1 = true ∧ ok = true) ∧ (g2 = true ∧ m2 = true ∧ v1 = 0) ∧ cp.length = pp.length
 case neg => rw [if_neg hall] at h; exact absurd h (by simp)
 rw [if_pos hall] at h
 have hr := Option.some.inj h
 subst hr
 clear h
 obtain ⟨⟨rfl, rfl⟩, ⟨rfl, rfl, rfl⟩, hlen⟩ := hall
 have E1 := zM hr1
 have E3 := zM hp
 have E4 := zM hg
 have E5 := zM hch
 have E6 := zM hv
 have E7 := zM hpp
 have HLB := zM (show ((cp.length : Int) == (pp.length : Int)) = true by rw [hlen]; exact beq_self_eq_true _)
 clear hr1 hp hg hch hv hpp hlen
 go_upto_region 5 with (fail)
 obtain ⟨_,_,_,_,_,_⟩ := HsB.cells HH5.out
 obtain ⟨_,_,_⟩ := RgC.cells HA5.out
 obtain ⟨_,_,_⟩ := RgC.cells HG5.out
 go_region_held3 (fun w' => w'.cell? ⟨w.heap.size, 0, none⟩ = some (.int .i64 a0) ∧ w'.cell? ⟨w.heap.size, 1, none⟩ = some (.int .i64 a1) ∧ w'.cell? ⟨w.heap.size, 2, none⟩ = some (.int .i64 a2) ∧ w'.cell? ⟨w.heap.size, 3, none⟩ = some (.int .u64 a3) ∧ w'.cell? ⟨w.heap.size, 4, none⟩ = some (.int .u64 a4) ∧ w'.cell? ⟨w.heap.size, 5, none⟩ = some (.int .u64 a5) ∧ w'.cell? ⟨w.heap.size + 1, 0, none⟩ = some (.int .u64 b1) ∧ w'.cell? ⟨w.heap.size + 1, 1, none⟩ = some (.int .u64 e1) ∧ w'.cell? ⟨w.heap.size + 1, 2, none⟩ = some (.slice A1 h1.length c1) ∧ w'.cell? ⟨w.heap.size + 1 + 1, 0, none⟩ = some (.int .u64 b2) ∧ w'.cell? ⟨w.heap.size + 1 + 1, 1, none⟩ = some (.int .u64 e2) ∧ w'.cell? ⟨w.heap.size + 1 + 1, 2, none⟩ = some (.slice A2 h2.length c2)) (first | exact HS7.out | exact HS6.out | go_keep)
  (first
   | (go_at_call 39; (with_reducible refine (leafC e1 Al cl l _ ?s1).mono ?_); (case s1 => exact (HRL.out.below (by first | exact HB5.out | exact below_drew HB5.out | exact pw_below_drewN HB5.out _))); rintro e' w6 ⟨⟨A6, c6, rfl, h6⟩, hb⟩; have hb6 := (by first | exact hb | exact below_step (below_drew (Below.refl _ _)) hb | exact below_step (pw_below_drewN (Below.refl _ _) _) hb : Below w5.heap.size w5 w6); have HO6 := zM h6; clear hb h6; have HB6 := zM (below_step HB5.out hb6); have HH6 := zM (blk_below HH5.out hb6); have HA6 := zM (blk_below HA5.out hb6); have HG6 := zM (blk_below HG5.out hb6); clear hb6; have HS6 := zM (show w6.cell? ⟨w.heap.size, 0, none⟩ = some (.int .i64 a0) ∧ w6.cell? ⟨w.heap.size, 1, none⟩ = some (.int .i64 a1) ∧ w6.cell? ⟨w.heap.size, 2, none⟩ = some (.int .i64 a2) ∧ w6.cell? ⟨w.heap.size, 3, none⟩ = some (.int .u64 a3) ∧ w6.cell? ⟨w.heap.size, 4, none⟩ = some (.int .u64 a4) ∧ w6.cell? ⟨w.heap.size, 5, none⟩ = some (.int .u64 a5) ∧ w6.cell? ⟨w.heap.size + 1, 0, none⟩ = some (.int .u64 b1) ∧ w6.cell? ⟨w.heap.size + 1, 1, none⟩ = some (.int .u64 e1) ∧ w6.cell? ⟨w.heap.size + 1, 2, none⟩ = some (.slice A1 h1.length c1) ∧ w6.cell? ⟨w.heap.size + 1 + 1, 0, none⟩ = some (.int .u64 b2) ∧ w6.cell? ⟨w.heap.size + 1 + 1, 1, none⟩ = some (.int .u64 e2) ∧ w6.cell? ⟨w.heap.size + 1 + 1, 2, none⟩ = some (.slice A2 h2.length c2) from ⟨(HsB.cells HH6.out).1, (HsB.cells HH6.out).2.1, (HsB.cells HH6.out).2.2.1, (HsB.cells HH6.out).2.2.2.1, (HsB.cells HH6.out).2.2.2.2.1, (HsB.cells HH6.out).2.2.2.2.2, (RgC.cells HA6.out).1, (RgC.cells HA6.out).2.1, (RgC.cells HA6.out).2.2, (RgC.cells HG6.out).1, (RgC.cells HG6.out).2.1, (RgC.cells HG6.out).2.2⟩))
   | (go_at_call 73; (with_reducible refine (rootC k a0 a1 a2 a3 a4 a5 _ 3 3 [⟨b1, e1, h1⟩, ⟨e1, IntKind.u64.wrap (e1 + 1), [l]⟩, ⟨b2, e2, h2⟩] ?hn r1 true _ ?s0 ?s1 ?hc E1.out).mono ?_); (case hn => exact rfl); (case hc => exact Nat.le_refl 3); (case s0 => exact TabOK.below HT.out (below_alloc HB6.out _)); (case s1 => exact buildC3 (blk_new _ _) (HR1.out.below (below_alloc HB6.out _)) (HO6.out.below (below_alloc (Below.refl _ _) _)) (HR2.out.below (below_alloc HB6.out _))); rintro e' w9 ⟨⟨AX, cX, rfl, hX⟩, hb⟩; have hb9 := below_step (below_alloc (Below.refl w6.heap.size w6) _) hb; have HX9 := zM hX; clear hX hb; have HB9 := zM (below_step HB6.out hb9); have HH9 := zM (blk_below HH6.out hb9); have HA9 := zM (blk_below HA6.out hb9); have HG9 := zM (blk_below HG6.out hb9); clear hb9; have HS7 := zM (show w9.cell? ⟨w.heap.size, 0, none⟩ = some (.int .i64 a0) ∧ w9.cell? ⟨w.heap.size, 1, none⟩ = some (.int .i64 a1) ∧ w9.cell? ⟨w.heap.size, 2, none⟩ = some (.int .i64 a2) ∧ w9.cell? ⟨w.heap.size, 3, none⟩ = some (.int .u64 a3) ∧ w9.cell? ⟨w.heap.size, 4, none⟩ = some (.int .u64 a4) ∧ w9.cell? ⟨w.heap.size, 5, none⟩ = some (.int .u64 a5) ∧ w9.cell? ⟨w.heap.size + 1, 0, none⟩ = some (.int .u64 b1) ∧ w9.cell? ⟨w.heap.size + 1, 1, none⟩ = some (.int .u64 e1) ∧ w9.cell? ⟨w.heap.size + 1, 2, none⟩ = some (.slice A1 h1.length c1) ∧ w9.cell? ⟨w.heap.size + 1 + 1, 0, none⟩ = some (.int .u64 b2) ∧ w9.cell? ⟨w.heap.size + 1 + 1, 1, none⟩ = some (.int .u64 e2) ∧ w9.cell? ⟨w.heap.size + 1 + 1, 2, none⟩ = some (.slice A2 h2.length c2) from ⟨(HsB.cells HH9.out).1, (HsB.cells HH9.out).2.1, (HsB.cells HH9.out).2.2.1, (HsB.cells HH9.out).2.2.2.1, (HsB.cells HH9.out).2.2.2.2.1, (HsB.cells HH9.out).2.2.2.2.2, (RgC.cells HA9.out).1, (RgC.cells HA9.out).2.1, (RgC.cells HA9.out).2.2, (RgC.cells HG9.out).1, (RgC.cells HG9.out).2.1, (RgC.cells HG9.out).2.2⟩)))
 clear HS6 HS7 HO6
 obtain ⟨_,_,_⟩ := RgC.cells HA9.out
 obtain ⟨_,_,_⟩ := RgC.cells HG9.out
 go_upto_region 7 with (first | (go_at_call 74; (with_reducible refine (inclC k e1 e2 ids pl px pb pe true w9 ?s0 E3.out).mono ?_); (case s0 => exact TabOK.below HT.out HB9.out); rintro e' w10 ⟨⟨AI, cI, rfl, hcI, hI⟩, hb⟩; have HI10 := zM hI; have HCI := zM hcI; clear hI hcI; have HB10 := zM (below_step HB9.out hb); have HH10 := zM (blk_below HH9.out hb); have HA10 := zM (blk_below HA9.out hb); have HG10 := zM (blk_below HG9.out hb); have HX10 := zM (HX9.out.below hb); clear hb) | ((with_reducible refine gate_dst (N := 11) rfl ?_); refine bx 11 #[.slice none 0 0, .int .u64 0, .int .u64 0, .int .i64 0, .int .i64 0] 68 ?_; intro gP hg_gP w11 hbox_gP hb_gP; have fzgP0 := blk_frozen hbox_gP 0; have clgP0 : w11.cell? ⟨gP, 0, none⟩ = some (.slice none 0 0) := (blk_cell hbox_gP 0).trans rfl; have fzgP1 := blk_frozen hbox_gP 1; have clgP1 : w11.cell? ⟨gP, 1, none⟩ = some (.int .u64 0) := (blk_cell hbox_gP 1).trans rfl; have fzgP2 := blk_frozen hbox_gP 2; have clgP2 : w11.cell? ⟨gP, 2, none⟩ = some (.int .u64 0) := (blk_cell hbox_gP 2).trans rfl; have fzgP3 := blk_frozen hbox_gP 3; have clgP3 : w11.cell? ⟨gP, 3, none⟩ = some (.int .i64 0) := (blk_cell hbox_gP 3).trans rfl; have fzgP4 := blk_frozen hbox_gP 4; have clgP4 : w11.cell? ⟨gP, 4, none⟩ = some (.int .i64 0) := (blk_cell hbox_gP 4).trans rfl; have HBP := zM hb_gP; have BKP := zM hbox_gP; have GEP := zM (Nat.le_of_eq hg_gP.symm); clear hb_gP hbox_gP hg_gP))
 obtain ⟨w12, hw12⟩ : ∃ w12, w12 = ((((w11.setCell ⟨gP, 0, none⟩ (.slice AI ids.length cI)).setCell ⟨gP, 1, none⟩ (.int .u64 pl)).setCell ⟨gP, 2, none⟩ (.int .u64 px)).setCell ⟨gP, 3, none⟩ (.int .i64 pb)).setCell ⟨gP, 4, none⟩ (.int .i64 pe) := ⟨_, rfl⟩
 have HP12 := zM (show w12.heap[gP]? = some (.cells #[.slice AI ids.length cI, .int .u64 pl, .int .u64 px, .int .i64 pb, .int .i64 pe] 68 (0, 0)) by rw [hw12]; exact put5 BKP.out _ _ _ _ _)
 have hb12 : Below w10.heap.size w10 w12 := by rw [hw12]; exact below_set5 HBP.out GEP.out _ _ _ _ _
 rw [← hw12]
 clear hw12 fzgP0 fzgP1 fzgP2 fzgP3 fzgP4 clgP0 clgP1 clgP2 clgP3 clgP4
 have HB12 := zM (below_step HB10.out hb12)
 have HH12 := zM (blk_below HH10.out hb12)
 have HA12 := zM (blk_below HA10.out hb12)
 have HG12 := zM (blk_below HG10.out hb12)
 have HX12 := zM (HX10.out.below hb12)
 have HI12 := zM (Kd.C_below HI10.out hb12)
 obtain ⟨_,_,_,_,_,_⟩ := HsB.cells HH12.out
 obtain ⟨_,_,_⟩ := RgC.cells HA12.out
 obtain ⟨_,_,_⟩ := RgC.cells HG12.out
 clear hb12
 have qP12_0 : w12.cell? ⟨gP, 0, none⟩ = some (.slice AI ids.length cI) := (blk_cell HP12.out 0).trans rfl
 go_upto_region 8 with (go_at_call 75; (with_reducible refine (hashesC k AI cI ids _ 2 2 [⟨b1, e1, h1⟩, ⟨b2, e2, h2⟩] ?hn gl true _ ?s0 HCI.out ?s1 ?hc E4.out).mono ?_); (case hn => exact rfl); (case hc => exact Nat.le_refl 2); (case s0 => exact Kd.C_below HI12.out (below_alloc (Below.refl w12.heap.size w12) _)); (case s1 => exact buildC2 (blk_new w12 _) (HR1.out.below (below_alloc HB12.out _)) (HR2.out.below (below_alloc HB12.out _))); rintro e' w14 ⟨⟨AL, cL, rfl, hL⟩, hb⟩; have hb2 := below_step (below_alloc (Below.refl w12.heap.size w12) _) hb; have HL14 := zM hL; clear hL; have HB14 := zM (below_step HB12.out hb2); have HH14 := zM (blk_below HH12.out hb2); have HA14 := zM (blk_below HA12.out hb2); have HG14 := zM (blk_below HG12.out hb2); have HX14 := zM (HX12.out.below hb2); obtain ⟨_,_,_,_,_,_⟩ := HsB.cells HH14.out; obtain ⟨_,_,_⟩ := RgC.cells HA14.out; obtain ⟨_,_,_⟩ := RgC.cells HG14.out; clear hb2; clear hb)
 go_upto_region 9 with (go_at_call 76; (with_reducible refine (inclCH k a0 a1 a2 a3 a4 a5 e1 e2 AL cL gl cp true w14 ?s0 HL14.out E5.out).mono ?_); (case s0 => exact TabOK.below HT.out HB14.out); rintro e' w15 ⟨⟨AM, cM, rfl, hM⟩, hb⟩; have HM15 := zM hM; clear hM; have HB15 := zM (below_step HB14.out hb); have HH15 := zM (blk_below HH14.out hb); have HA15 := zM (blk_below HA14.out hb); have HG15 := zM (blk_below HG14.out hb); have HX15 := zM (HX14.out.below hb); obtain ⟨_,_,_,_,_,_⟩ := HsB.cells HH15.out; obtain ⟨_,_,_⟩ := RgC.cells HA15.out; obtain ⟨_,_,_⟩ := RgC.cells HG15.out; clear hb)
 go_upto_region 10 with (go_at_call 32; (with_reducible refine (vInclC k a0 a1 a2 a3 a4 a5 e1 e2 Al cl l AM cM cp AX cX r1 0 v2 w15 ?s0 HM15.out HX15.out E6.out).mono ?_); (case s0 => exact HRL.out.below HB15.out); rintro e' w16 ⟨⟨vv, rfl⟩, hb⟩;  have HB16 := zM (below_step HB15.out hb); have HH16 := zM (blk_below HH15.out hb); have HA16 := zM (blk_below HA15.out hb); have HG16 := zM (blk_below HG15.out hb); obtain ⟨_,_,_,_,_,_⟩ := HsB.cells HH16.out; obtain ⟨_,_,_⟩ := RgC.cells HA16.out; obtain ⟨_,_,_⟩ := RgC.cells HG16.out; clear hb)
 go_wp2_with (go_at_call 68; (with_reducible refine (pathC k e1 e2 pp w16 E7.out).mono ?_);  rintro e' w17 ⟨⟨AQ, cQ, rfl⟩, hb⟩; have HB17 := zM (below_step HB16.out hb); clear hb; have hlb := HLB.out)
 have hlb := HLB.out
 go_ret
 exact ⟨rfl, HB17.out⟩
end Go.Proofs.YtkmdkmlgahfcpaaDoor.M
