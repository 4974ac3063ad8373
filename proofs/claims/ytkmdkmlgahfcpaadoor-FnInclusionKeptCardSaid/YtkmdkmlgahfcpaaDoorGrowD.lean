/- FnInclusionKept: the walk. -/
import Derived.Test.YtkmdkmlgahfcpaaDoorSr
import Derived.Test.YtkmdkmlgahfcpaaDoorGrowB
import Derived.Test.YtkmdkmlgahfcpaaDoorGrowC
namespace Go.Proofs.YtkmdkmlgahfcpaaDoor.M
open Go Go.RowKit Go.Proofs.YtkmdkmlgahfcpaaDoorW.PrintWords Go.Proofs.YtkmdkmlgahfcpaaDoorW.PrintLast Go.Proofs.YtkmdkmlgahfcpaaDoorW.PrintMore
attribute [local go_sem] max2_int min2_int max_two min_two max_three min_three max_four min_four
set_option linter.unusedVariables false
set_option linter.unusedSimpArgs false
def laws_FnInclusionKept.g (k : Nat) (a0 a1 a2 a3 a4 a5 : Int) (b1 e1 : Int) (h1 : List (List Int)) (l : List Int) (b2 e2 : Int) (h2 : List (List Int)) (b3 e3 : Int) (h3 : List (List Int)) : Option Bool :=
 (impl_AppendRange.f k a0 a1 a2 a3 a4 a5 b2 e2 h2 b3 e3 h3).bind fun x => (impl_AppendRange.f k a0 a1 a2 a3 a4 a5 b1 e1 h1 e1 (IntKind.u64.wrap (e1 + 1)) [l]).bind fun y => (impl_AppendRange.f k a0 a1 a2 a3 a4 a5 y.1 y.2.1 y.2.2.1 b2 e2 h2).bind fun z =>
 (spec_ProperRange.f k x.1 x.2.1 x.2.2.1).bind fun p => (spec_ProperRange.f k z.1 z.2.1 z.2.2.1).bind fun q =>
 (laws_FnInclusionOfRanges.f k a0 a1 a2 a3 a4 a5 b1 e1 h1 l b2 e2 h2).bind fun u => (laws_FnInclusionOfRanges.f k a0 a1 a2 a3 a4 a5 b1 e1 h1 l x.1 x.2.1 x.2.2.1).bind fun v => (laws_FnConsistencyOfRanges.f k a0 a1 a2 a3 a4 a5 z.1 z.2.1 z.2.2.1 b3 e3 h3).bind fun c =>
 if ((x.2.2.2.2 = true ∧ y.2.2.2.2 = true ∧ z.2.2.2.2 = true) ∧ (p = true ∧ q = true) ∧ (u = true ∧ v = true ∧ c = true)) ∧ x.1 = (IntKind.u64.wrap (e1 + 1)) ∧ z.2.1 = e2 then some true else none
def laws_FnInclusionKept.f (k : Nat) (a0 a1 a2 a3 a4 a5 : Int) (b1 e1 : Int) (h1 : List (List Int)) (l : List Int) (b2 e2 : Int) (h2 : List (List Int)) (b3 e3 : Int) (h3 : List (List Int)) : Option Bool :=
 (laws_zzFits7.f k b1 e1 h1).bind fun f1 => if f1 = true then if (l.length : Int) > 2147483647 then some true else (laws_zzFits7.f k b2 e2 h2).bind fun f2 => if f2 = true then (laws_zzFits7.f k b3 e3 h3).bind fun f3 => if f3 = true then
  if (l.length : Int) = a1 then if (IntKind.u64.wrap (e1 + 1)) = 0 then some true else (laws_growthNext.f k [⟨b1, e1, h1⟩, ⟨e1, IntKind.u64.wrap (e1 + 1), [l]⟩, ⟨b2, e2, h2⟩, ⟨b3, e3, h3⟩]).bind fun nx => if nx = true then laws_FnInclusionKept.g k a0 a1 a2 a3 a4 a5 b1 e1 h1 l b2 e2 h2 b3 e3 h3 else some true
 else some true else some true else some true else some true
set_option maxHeartbeats 16000000 in
set_option maxRecDepth 100000 in
theorem laws_FnInclusionKept.calls (k : Nat) (a0 a1 a2 a3 a4 a5 : Int) (b1 e1 : Int) (A1 : Option Addr) (c1 : Nat) (h1 : List (List Int)) (Al : Option Addr) (cl : Nat) (l : List Int) (b2 e2 : Int) (A2 : Option Addr) (c2 : Nat) (h2 : List (List Int)) (b3 e3 : Int) (A3 : Option Addr) (c3 : Nat) (h3 : List (List Int)) (r : Bool) (w : World) (hT : TabOK w) (hr1 : RowC w A1 c1 h1) (hrl : TxtC w Al cl l) (hr2 : RowC w A2 c2 h2) (hr3 : RowC w A3 c3 h3)
  (h : laws_FnInclusionKept.f k a0 a1 a2 a3 a4 a5 b1 e1 h1 l b2 e2 h2 b3 e3 h3 = some r) :
  Calls Tryd.prog 11 #[.agg #[.int .i64 a0, .int .i64 a1, .int .i64 a2, .int .u64 a3, .int .u64 a4, .int .u64 a5], .agg #[.int .u64 b1, .int .u64 e1, .slice A1 h1.length c1], .slice Al l.length cl, .agg #[.int .u64 b2, .int .u64 e2, .slice A2 h2.length c2], .agg #[.int .u64 b3, .int .u64 e3, .slice A3 h3.length c3]] w fun e w' => e = .returned (.bool r) ∧ Below w.heap.size w w' := by
 unfold laws_FnInclusionKept.f at h
 obtain ⟨f1, hf1, h⟩ := Option.bind_eq_some_iff.mp h
 have HT := zM hT
 have HR1 := zM hr1
 have HR2 := zM hr2
 have HR3 := zM hr3
 have HRL := zM hrl
 have HF1 := zM hf1
 clear hT hr1 hr2 hr3 hrl hf1
 obtain ⟨w1, hw1⟩ : ∃ w1, w1 = (((w.alloc (.cells #[.int .i64 a0, .int .i64 a1, .int .i64 a2, .int .u64 a3, .int .u64 a4, .int .u64 a5] 24)).alloc (.cells #[.int .u64 b1, .int .u64 e1, .slice A1 h1.length c1] 39)).alloc (.cells #[.int .u64 b2, .int .u64 e2, .slice A2 h2.length c2] 39)).alloc (.cells #[.int .u64 b3, .int .u64 e3, .slice A3 h3.length c3] 39) := ⟨_, rfl⟩
 obtain ⟨hb1, _, hkh, hka, hkr, hkm⟩ := four_blocks w _ _ _ _ w1 hw1
 have HB1 := zM hb1
 have HH1 := zM (show HsB w1 w.heap.size a0 a1 a2 a3 a4 a5 from hkh)
 have HA1 := zM (show RgC w1 (w.heap.size + 1) b1 e1 (.slice A1 h1.length c1) from hka)
 have HG1 := zM (show RgC w1 (w.heap.size + 1 + 1) b2 e2 (.slice A2 h2.length c2) from hkr)
 have HM1 := zM (show RgC w1 (w.heap.size + 1 + 1 + 1) b3 e3 (.slice A3 h3.length c3) from hkm)
 clear hb1 hkh hka hkr hkm
 go_enter Tryd.func11, Tryd.ntmps11
 go_upto_region 1 with (fail)
 rw [← hw1]
 clear hw1
 obtain ⟨q1_0, q1_1, q1_2⟩ := RgC.cells HA1.out
 obtain ⟨q1_3, q1_4, q1_5⟩ := RgC.cells HG1.out
 obtain ⟨q1_6, q1_7, q1_8⟩ := RgC.cells HM1.out
 cases f1 with
 | false =>
  obtain rfl : true = r := by simpa using h
  go_wp2_with (go_at_call 20; (with_reducible refine (laws_zzFits7.calls k b1 e1 A1 c1 h1 false w1 ?s1 HR1.out.1 HF1.out).mono ?_); (case s1 => exact Kd.C_below HR1.out.2 HB1.out); rintro e' w2 ⟨rfl, hb⟩;  have HB2 := zM (below_step HB1.out hb); have HH2 := zM (blk_below HH1.out hb); have HA2 := zM (blk_below HA1.out hb); have HG2 := zM (blk_below HG1.out hb); have HM2 := zM (blk_below HM1.out hb); obtain ⟨_,_,_,_,_,_⟩ := HsB.cells HH2.out; obtain ⟨_,_,_⟩ := RgC.cells HA2.out; obtain ⟨_,_,_⟩ := RgC.cells HG2.out; obtain ⟨_,_,_⟩ := RgC.cells HM2.out; clear hb)
  go_ret
  exact ⟨rfl, HB2.out⟩
 | true =>
 rw [if_pos rfl] at h
 by_cases hl0 : (l.length : Int) > 2147483647
 ·rw [if_pos hl0] at h
  obtain rfl : true = r := by simpa using h
  go_wp2_with (go_at_call 20; (with_reducible refine (laws_zzFits7.calls k b1 e1 A1 c1 h1 true w1 ?s1 HR1.out.1 HF1.out).mono ?_); (case s1 => exact Kd.C_below HR1.out.2 HB1.out); rintro e' w2 ⟨rfl, hb⟩;  have HB2 := zM (below_step HB1.out hb); have HH2 := zM (blk_below HH1.out hb); have HA2 := zM (blk_below HA1.out hb); have HG2 := zM (blk_below HG1.out hb); have HM2 := zM (blk_below HM1.out hb); obtain ⟨_,_,_,_,_,_⟩ := HsB.cells HH2.out; obtain ⟨_,_,_⟩ := RgC.cells HA2.out; obtain ⟨_,_,_⟩ := RgC.cells HG2.out; obtain ⟨_,_,_⟩ := RgC.cells HM2.out; clear hb)
  go_ret
  exact ⟨rfl, HB2.out⟩
 rw [if_neg hl0] at h
 obtain ⟨f2, hf2, h⟩ := Option.bind_eq_some_iff.mp h
 have HF2 := zM hf2
 clear hf2
 cases f2 with
 | false =>
  obtain rfl : true = r := by simpa using h
  go_wp2_with (first | (go_at_call 20; (with_reducible refine (laws_zzFits7.calls k b1 e1 A1 c1 h1 true w1 ?s1 HR1.out.1 HF1.out).mono ?_); (case s1 => exact Kd.C_below HR1.out.2 HB1.out); rintro e' w2 ⟨rfl, hb⟩;  have HB2 := zM (below_step HB1.out hb); have HH2 := zM (blk_below HH1.out hb); have HA2 := zM (blk_below HA1.out hb); have HG2 := zM (blk_below HG1.out hb); have HM2 := zM (blk_below HM1.out hb); obtain ⟨_,_,_,_,_,_⟩ := HsB.cells HH2.out; obtain ⟨_,_,_⟩ := RgC.cells HA2.out; obtain ⟨_,_,_⟩ := RgC.cells HG2.out; obtain ⟨_,_,_⟩ := RgC.cells HM2.out; clear hb) | (go_at_call 20; (with_reducible refine (laws_zzFits7.calls k b2 e2 A2 c2 h2 false w2 ?s1 HR2.out.1 HF2.out).mono ?_); (case s1 => exact Kd.C_below HR2.out.2 HB2.out); rintro e' w3 ⟨rfl, hb⟩;  have HB3 := zM (below_step HB2.out hb); have HH3 := zM (blk_below HH2.out hb); have HA3 := zM (blk_below HA2.out hb); have HG3 := zM (blk_below HG2.out hb); have HM3 := zM (blk_below HM2.out hb); obtain ⟨_,_,_,_,_,_⟩ := HsB.cells HH3.out; obtain ⟨_,_,_⟩ := RgC.cells HA3.out; obtain ⟨_,_,_⟩ := RgC.cells HG3.out; obtain ⟨_,_,_⟩ := RgC.cells HM3.out; clear hb))
  go_ret
  exact ⟨rfl, HB3.out⟩
 | true =>
 rw [if_pos rfl] at h
 obtain ⟨f3, hf3, h⟩ := Option.bind_eq_some_iff.mp h
 have HF3 := zM hf3
 clear hf3
 cases f3 with
 | false =>
  obtain rfl : true = r := by simpa using h
  go_wp2_with (first | (go_at_call 20; (with_reducible refine (laws_zzFits7.calls k b1 e1 A1 c1 h1 true w1 ?s1 HR1.out.1 HF1.out).mono ?_); (case s1 => exact Kd.C_below HR1.out.2 HB1.out); rintro e' w2 ⟨rfl, hb⟩;  have HB2 := zM (below_step HB1.out hb); have HH2 := zM (blk_below HH1.out hb); have HA2 := zM (blk_below HA1.out hb); have HG2 := zM (blk_below HG1.out hb); have HM2 := zM (blk_below HM1.out hb); obtain ⟨_,_,_,_,_,_⟩ := HsB.cells HH2.out; obtain ⟨_,_,_⟩ := RgC.cells HA2.out; obtain ⟨_,_,_⟩ := RgC.cells HG2.out; obtain ⟨_,_,_⟩ := RgC.cells HM2.out; clear hb) | (go_at_call 20; (with_reducible refine (laws_zzFits7.calls k b2 e2 A2 c2 h2 true w2 ?s1 HR2.out.1 HF2.out).mono ?_); (case s1 => exact Kd.C_below HR2.out.2 HB2.out); rintro e' w3 ⟨rfl, hb⟩;  have HB3 := zM (below_step HB2.out hb); have HH3 := zM (blk_below HH2.out hb); have HA3 := zM (blk_below HA2.out hb); have HG3 := zM (blk_below HG2.out hb); have HM3 := zM (blk_below HM2.out hb); obtain ⟨_,_,_,_,_,_⟩ := HsB.cells HH3.out; obtain ⟨_,_,_⟩ := RgC.cells HA3.out; obtain ⟨_,_,_⟩ := RgC.cells HG3.out; obtain ⟨_,_,_⟩ := RgC.cells HM3.out; clear hb) | (go_at_call 20; (with_reducible refine (laws_zzFits7.calls k b3 e3 A3 c3 h3 false w3 ?s1 HR3.out.1 HF3.out).mono ?_); (case s1 => exact Kd.C_below HR3.out.2 HB3.out); rintro e' w4 ⟨rfl, hb⟩;  have HB4 := zM (below_step HB3.out hb); have HH4 := zM (blk_below HH3.out hb); have HA4 := zM (blk_below HA3.out hb); have HG4 := zM (blk_below HG3.out hb); have HM4 := zM (blk_below HM3.out hb); obtain ⟨_,_,_,_,_,_⟩ := HsB.cells HH4.out; obtain ⟨_,_,_⟩ := RgC.cells HA4.out; obtain ⟨_,_,_⟩ := RgC.cells HG4.out; obtain ⟨_,_,_⟩ := RgC.cells HM4.out; clear hb))
  go_ret
  exact ⟨rfl, HB4.out⟩
 | true =>
 rw [if_pos rfl] at h
 go_upto_region 3 with (first | (go_at_call 20; (with_reducible refine (laws_zzFits7.calls k b1 e1 A1 c1 h1 true w1 ?s1 HR1.out.1 HF1.out).mono ?_); (case s1 => exact Kd.C_below HR1.out.2 HB1.out); rintro e' w2 ⟨rfl, hb⟩;  have HB2 := zM (below_step HB1.out hb); have HH2 := zM (blk_below HH1.out hb); have HA2 := zM (blk_below HA1.out hb); have HG2 := zM (blk_below HG1.out hb); have HM2 := zM (blk_below HM1.out hb); obtain ⟨_,_,_,_,_,_⟩ := HsB.cells HH2.out; obtain ⟨_,_,_⟩ := RgC.cells HA2.out; obtain ⟨_,_,_⟩ := RgC.cells HG2.out; obtain ⟨_,_,_⟩ := RgC.cells HM2.out; clear hb) | (go_at_call 20; (with_reducible refine (laws_zzFits7.calls k b2 e2 A2 c2 h2 true w2 ?s1 HR2.out.1 HF2.out).mono ?_); (case s1 => exact Kd.C_below HR2.out.2 HB2.out); rintro e' w3 ⟨rfl, hb⟩;  have HB3 := zM (below_step HB2.out hb); have HH3 := zM (blk_below HH2.out hb); have HA3 := zM (blk_below HA2.out hb); have HG3 := zM (blk_below HG2.out hb); have HM3 := zM (blk_below HM2.out hb); obtain ⟨_,_,_,_,_,_⟩ := HsB.cells HH3.out; obtain ⟨_,_,_⟩ := RgC.cells HA3.out; obtain ⟨_,_,_⟩ := RgC.cells HG3.out; obtain ⟨_,_,_⟩ := RgC.cells HM3.out; clear hb) | (go_at_call 20; (with_reducible refine (laws_zzFits7.calls k b3 e3 A3 c3 h3 true w3 ?s1 HR3.out.1 HF3.out).mono ?_); (case s1 => exact Kd.C_below HR3.out.2 HB3.out); rintro e' w4 ⟨rfl, hb⟩;  have HB4 := zM (below_step HB3.out hb); have HH4 := zM (blk_below HH3.out hb); have HA4 := zM (blk_below HA3.out hb); have HG4 := zM (blk_below HG3.out hb); have HM4 := zM (blk_below HM3.out hb); obtain ⟨_,_,_,_,_,_⟩ := HsB.cells HH4.out; obtain ⟨_,_,_⟩ := RgC.cells HA4.out; obtain ⟨_,_,_⟩ := RgC.cells HG4.out; obtain ⟨_,_,_⟩ := RgC.cells HM4.out; clear hb))
 clear HF1 HF2 HF3 hl0 q1_0 q1_1 q1_2 q1_3 q1_4 q1_5 q1_6 q1_7 q1_8
 go_upto_region 4 with (first | (go_at_call 39; (with_reducible refine (leafC e1 Al cl l w4 (HRL.out.below HB4.out)).mono ?_);  rintro e' w5 ⟨⟨AO, cO, rfl, hO⟩, hb⟩; have HW5 := zM hO; clear hO; have HB5 := zM (below_step HB4.out hb); have HH5 := zM (blk_below HH4.out hb); have HA5 := zM (blk_below HA4.out hb); have HG5 := zM (blk_below HG4.out hb); have HM5 := zM (blk_below HM4.out hb); clear hb) | ((with_reducible refine gate_dst (N := 11) rfl ?_); refine bx 11 #[.int .u64 0, .int .u64 0, .slice none 0 0] 39 ?_; intro gO hg_gO w6 hbox_gO hb_gO; have fzgO0 := blk_frozen hbox_gO 0; have clgO0 : w6.cell? ⟨gO, 0, none⟩ = some (.int .u64 0) := (blk_cell hbox_gO 0).trans rfl; have fzgO1 := blk_frozen hbox_gO 1; have clgO1 : w6.cell? ⟨gO, 1, none⟩ = some (.int .u64 0) := (blk_cell hbox_gO 1).trans rfl; have fzgO2 := blk_frozen hbox_gO 2; have clgO2 : w6.cell? ⟨gO, 2, none⟩ = some (.slice none 0 0) := (blk_cell hbox_gO 2).trans rfl; have HBgO := zM hb_gO; have BKgO := zM hbox_gO; have GEgO := zM (Nat.le_of_eq hg_gO.symm); clear hb_gO hbox_gO hg_gO))
 obtain ⟨w7, hw7⟩ : ∃ w7, w7 = ((w6.setCell ⟨gO, 0, none⟩ (.int .u64 e1)).setCell ⟨gO, 1, none⟩ (.int .u64 (IntKind.u64.wrap (e1 + 1)))).setCell ⟨gO, 2, none⟩ (.slice AO 1 cO) := ⟨_, rfl⟩
 have HO7 := zM (show w7.heap[gO]? = some (.cells #[.int .u64 e1, .int .u64 (IntKind.u64.wrap (e1 + 1)), .slice AO 1 cO] 39 (0, 0)) by rw [hw7]; exact blk_put3 BKgO.out _ _ _)
 have hb7 : Below w5.heap.size w5 w7 := by rw [hw7]; exact below_set3 HBgO.out GEgO.out _ _ _
 rw [← hw7]
 clear hw7 fzgO0 fzgO1 fzgO2 clgO0 clgO1 clgO2
 have HB7 := zM (below_step HB5.out hb7)
 have HH7 := zM (blk_below HH5.out hb7)
 have HA7 := zM (blk_below HA5.out hb7)
 have HG7 := zM (blk_below HG5.out hb7)
 have HM7 := zM (blk_below HM5.out hb7)
 have HW7 := zM (HW5.out.below hb7)
 obtain ⟨_,_,_,_,_,_⟩ := HsB.cells HH7.out
 obtain ⟨_,_,_⟩ := RgC.cells HA7.out
 obtain ⟨_,_,_⟩ := RgC.cells HG7.out
 obtain ⟨_,_,_⟩ := RgC.cells HM7.out
 clear hb7
 obtain ⟨_,_,_⟩ := RgC.cells HO7.out
 by_cases hs : (l.length : Int) = a1
 case neg =>
  rw [if_neg hs] at h
  obtain rfl : true = r := by simpa using h
  have hsb : ((l.length : Int) != a1) = true := bne_iff_ne.mpr hs
  clear hs
  go_wp2
  go_ret
  exact ⟨rfl, HB7.out⟩
 rw [if_pos hs] at h
 have hsb : ((l.length : Int) != a1) = false := by rw [bne_eq_false_iff_eq]; exact hs
 by_cases h0 : (IntKind.u64.wrap (e1 + 1)) = 0
 case pos =>
  rw [if_pos h0] at h
  obtain rfl : true = r := by simpa using h
  have h0b : ((IntKind.u64.wrap (e1 + 1)) == 0) = true := beq_iff_eq.mpr h0
  clear h0 hs
  go_wp2
  go_ret
  exact ⟨rfl, HB7.out⟩
 rw [if_neg h0] at h
 have h0b : ((IntKind.u64.wrap (e1 + 1)) == 0) = false := beq_eq_false_iff_ne.mpr h0
 clear h0 hs
 obtain ⟨nx, hnx, h⟩ := Option.bind_eq_some_iff.mp h
 have HNX := zM hnx
 clear hnx
 cases nx with
 | false =>
  obtain rfl : true = r := by simpa using h
  go_wp2_with (go_at_call 40; (with_reducible refine (nextC k _ 4 4 [⟨b1, e1, h1⟩, ⟨e1, IntKind.u64.wrap (e1 + 1), [l]⟩, ⟨b2, e2, h2⟩, ⟨b3, e3, h3⟩] ?hn false _ ?s1 ?hc HNX.out).mono ?_); (case hn => exact rfl); (case hc => exact Nat.le_refl 4); (case s1 => exact buildC4 (blk_new w7 _) (HR1.out.below (below_alloc HB7.out _)) (HW7.out.below (below_alloc (Below.refl _ _) _)) (HR2.out.below (below_alloc HB7.out _)) (HR3.out.below (below_alloc HB7.out _))); rintro e' w9 ⟨rfl, hb⟩; have hb9 := below_step (below_alloc (Below.refl w7.heap.size w7) _) hb; clear hb; have HB9 := zM (below_step HB7.out hb9); have HH9 := zM (blk_below HH7.out hb9); have HA9 := zM (blk_below HA7.out hb9); have HG9 := zM (blk_below HG7.out hb9); have HM9 := zM (blk_below HM7.out hb9); have HO9 := zM (blk_below HO7.out hb9); have HW9 := zM (HW7.out.below hb9); obtain ⟨_,_,_,_,_,_⟩ := HsB.cells HH9.out; obtain ⟨_,_,_⟩ := RgC.cells HA9.out; obtain ⟨_,_,_⟩ := RgC.cells HG9.out; obtain ⟨_,_,_⟩ := RgC.cells HM9.out; obtain ⟨_,_,_⟩ := RgC.cells HO9.out; clear hb9)
  go_ret
  exact ⟨rfl, HB9.out⟩
 | true =>
 rw [if_pos rfl] at h
 go_upto_region 6 with (go_at_call 40; (with_reducible refine (nextC k _ 4 4 [⟨b1, e1, h1⟩, ⟨e1, IntKind.u64.wrap (e1 + 1), [l]⟩, ⟨b2, e2, h2⟩, ⟨b3, e3, h3⟩] ?hn true _ ?s1 ?hc HNX.out).mono ?_); (case hn => exact rfl); (case hc => exact Nat.le_refl 4); (case s1 => exact buildC4 (blk_new w7 _) (HR1.out.below (below_alloc HB7.out _)) (HW7.out.below (below_alloc (Below.refl _ _) _)) (HR2.out.below (below_alloc HB7.out _)) (HR3.out.below (below_alloc HB7.out _))); rintro e' w9 ⟨rfl, hb⟩; have hb9 := below_step (below_alloc (Below.refl w7.heap.size w7) _) hb; clear hb; have HB9 := zM (below_step HB7.out hb9); have HH9 := zM (blk_below HH7.out hb9); have HA9 := zM (blk_below HA7.out hb9); have HG9 := zM (blk_below HG7.out hb9); have HM9 := zM (blk_below HM7.out hb9); have HO9 := zM (blk_below HO7.out hb9); have HW9 := zM (HW7.out.below hb9); obtain ⟨_,_,_,_,_,_⟩ := HsB.cells HH9.out; obtain ⟨_,_,_⟩ := RgC.cells HA9.out; obtain ⟨_,_,_⟩ := RgC.cells HG9.out; obtain ⟨_,_,_⟩ := RgC.cells HM9.out; obtain ⟨_,_,_⟩ := RgC.cells HO9.out; clear hb9)
 clear HNX h0b hsb
 unfold laws_FnInclusionKept.g at h
 obtain ⟨⟨x0, x1, xL, xv, xb⟩, hx, h⟩ := Option.bind_eq_some_iff.mp h
 obtain ⟨⟨y0, y1, yL, yv, yb⟩, hy, h⟩ := Option.bind_eq_some_iff.mp h
 dsimp only at h
 obtain ⟨⟨z0, z1, zL, zv, zb⟩, hz, h⟩ := Option.bind_eq_some_iff.mp h
 dsimp only at h
 obtain ⟨p, hp, h⟩ := Option.bind_eq_some_iff.mp h
 obtain ⟨q, hq, h⟩ := Option.bind_eq_some_iff.mp h
 obtain ⟨u, hu, h⟩ := Option.bind_eq_some_iff.mp h
 obtain ⟨v, hv, h⟩ := Option.bind_eq_some_iff.mp h
 obtain ⟨c, hc, h⟩ := Option.bind_eq_some_iff.mp h
 by_cases hall : ((xb = true ∧ yb = true ∧ zb = true) ∧ (p = true ∧ q = true) ∧ (u = true ∧ v = true ∧ c = true)) ∧ x0 = (IntKind.u64.wrap (e1 + 1)) ∧ z1 = e2
 case neg => rw [if_neg hall] at h; exact absurd h (by simp)
 rw [if_pos hall] at h
 have hr := Option.some.inj h
 subst hr
 clear h
 obtain ⟨⟨⟨rfl, rfl, rfl⟩, ⟨rfl, rfl⟩, ⟨rfl, rfl, rfl⟩⟩, hx0, hz1⟩ := hall
 have E1 := zM hx
 have E2 := zM hy
 have E3 := zM hz
 have E4 := zM hp
 have E5 := zM hq
 have E6 := zM hu
 have E7 := zM hv
 have E8 := zM hc
 have hx0b : (x0 == (IntKind.u64.wrap (e1 + 1))) = true := beq_iff_eq.mpr hx0
 have hz1b : (z1 == e2) = true := beq_iff_eq.mpr hz1
 clear hx hy hz hp hq hu hv hc hx0 hz1
 go_upto_region 7 with (first | (go_at_call 27; (with_reducible refine (appC k a0 a1 a2 a3 a4 a5 b2 e2 A2 c2 h2 b3 e3 A3 _ c3 h3 rfl x0 x1 xL xv true w9 ?s0 (HR2.out.below HB9.out) (HR3.out.below HB9.out) E1.out).mono ?_); (case s0 => exact TabOK.below HT.out HB9.out); rintro e' w10 ⟨⟨AX, cX, vv, rfl, hR⟩, hb⟩; have HU10 := zM hR; clear hR; have HB10 := zM (below_step HB9.out hb); have HH10 := zM (blk_below HH9.out hb); have HA10 := zM (blk_below HA9.out hb); have HG10 := zM (blk_below HG9.out hb); have HM10 := zM (blk_below HM9.out hb); have HO10 := zM (blk_below HO9.out hb); have HW10 := zM (HW9.out.below hb); clear hb) | ((with_reducible refine gate_dst (N := 12) rfl ?_); refine bx 12 #[.int .u64 0, .int .u64 0, .slice none 0 0] 39 ?_; intro gX hg_gX w11 hbox_gX hb_gX; have fzgX0 := blk_frozen hbox_gX 0; have clgX0 : w11.cell? ⟨gX, 0, none⟩ = some (.int .u64 0) := (blk_cell hbox_gX 0).trans rfl; have fzgX1 := blk_frozen hbox_gX 1; have clgX1 : w11.cell? ⟨gX, 1, none⟩ = some (.int .u64 0) := (blk_cell hbox_gX 1).trans rfl; have fzgX2 := blk_frozen hbox_gX 2; have clgX2 : w11.cell? ⟨gX, 2, none⟩ = some (.slice none 0 0) := (blk_cell hbox_gX 2).trans rfl; have HBgX := zM hb_gX; have BKgX := zM hbox_gX; have GEgX := zM (Nat.le_of_eq hg_gX.symm); clear hb_gX hbox_gX hg_gX))
 obtain ⟨w12, hw12⟩ : ∃ w12, w12 = ((w11.setCell ⟨gX, 0, none⟩ (.int .u64 x0)).setCell ⟨gX, 1, none⟩ (.int .u64 x1)).setCell ⟨gX, 2, none⟩ (.slice AX xL.length cX) := ⟨_, rfl⟩
 have HX12 := zM (show w12.heap[gX]? = some (.cells #[.int .u64 x0, .int .u64 x1, .slice AX xL.length cX] 39 (0, 0)) by rw [hw12]; exact blk_put3 BKgX.out _ _ _)
 have hb12 : Below w10.heap.size w10 w12 := by rw [hw12]; exact below_set3 HBgX.out GEgX.out _ _ _
 rw [← hw12]
 clear hw12 fzgX0 fzgX1 fzgX2 clgX0 clgX1 clgX2
 have HB12 := zM (below_step HB10.out hb12)
 have HH12 := zM (blk_below HH10.out hb12)
 have HA12 := zM (blk_below HA10.out hb12)
 have HG12 := zM (blk_below HG10.out hb12)
 have HM12 := zM (blk_below HM10.out hb12)
 have HO12 := zM (blk_below HO10.out hb12)
 have HW12 := zM (HW10.out.below hb12)
 have HU12 := zM (HU10.out.below hb12)
 obtain ⟨_,_,_,_,_,_⟩ := HsB.cells HH12.out
 obtain ⟨_,_,_⟩ := RgC.cells HA12.out
 obtain ⟨_,_,_⟩ := RgC.cells HG12.out
 obtain ⟨_,_,_⟩ := RgC.cells HM12.out
 obtain ⟨_,_,_⟩ := RgC.cells HO12.out
 clear hb12
 obtain ⟨_,_,_⟩ := RgC.cells HX12.out
 go_upto_region 8 with (first | (go_at_call 27; (with_reducible refine (appC k a0 a1 a2 a3 a4 a5 b1 e1 A1 c1 h1 e1 (IntKind.u64.wrap (e1 + 1)) AO 1 cO [l] ?hn y0 y1 yL yv true w12 ?s0 (HR1.out.below HB12.out) HW12.out E2.out).mono ?_); (case hn => exact rfl); (case s0 => exact TabOK.below HT.out HB12.out); rintro e' w13 ⟨⟨AY, cY, vv, rfl, hR⟩, hb⟩; have HV13 := zM hR; clear hR; have HB13 := zM (below_step HB12.out hb); have HH13 := zM (blk_below HH12.out hb); have HA13 := zM (blk_below HA12.out hb); have HG13 := zM (blk_below HG12.out hb); have HM13 := zM (blk_below HM12.out hb); have HO13 := zM (blk_below HO12.out hb); have HW13 := zM (HW12.out.below hb); have HX13 := zM (blk_below HX12.out hb); have HU13 := zM (HU12.out.below hb); clear hb) | ((with_reducible refine gate_dst (N := 15) rfl ?_); refine bx 15 #[.int .u64 0, .int .u64 0, .slice none 0 0] 39 ?_; intro gY hg_gY w14 hbox_gY hb_gY; have fzgY0 := blk_frozen hbox_gY 0; have clgY0 : w14.cell? ⟨gY, 0, none⟩ = some (.int .u64 0) := (blk_cell hbox_gY 0).trans rfl; have fzgY1 := blk_frozen hbox_gY 1; have clgY1 : w14.cell? ⟨gY, 1, none⟩ = some (.int .u64 0) := (blk_cell hbox_gY 1).trans rfl; have fzgY2 := blk_frozen hbox_gY 2; have clgY2 : w14.cell? ⟨gY, 2, none⟩ = some (.slice none 0 0) := (blk_cell hbox_gY 2).trans rfl; have HBgY := zM hb_gY; have BKgY := zM hbox_gY; have GEgY := zM (Nat.le_of_eq hg_gY.symm); clear hb_gY hbox_gY hg_gY))
 obtain ⟨w15, hw15⟩ : ∃ w15, w15 = ((w14.setCell ⟨gY, 0, none⟩ (.int .u64 y0)).setCell ⟨gY, 1, none⟩ (.int .u64 y1)).setCell ⟨gY, 2, none⟩ (.slice AY yL.length cY) := ⟨_, rfl⟩
 have HY15 := zM (show w15.heap[gY]? = some (.cells #[.int .u64 y0, .int .u64 y1, .slice AY yL.length cY] 39 (0, 0)) by rw [hw15]; exact blk_put3 BKgY.out _ _ _)
 have hb15 : Below w13.heap.size w13 w15 := by rw [hw15]; exact below_set3 HBgY.out GEgY.out _ _ _
 rw [← hw15]
 clear hw15 fzgY0 fzgY1 fzgY2 clgY0 clgY1 clgY2
 have HB15 := zM (below_step HB13.out hb15)
 have HH15 := zM (blk_below HH13.out hb15)
 have HA15 := zM (blk_below HA13.out hb15)
 have HG15 := zM (blk_below HG13.out hb15)
 have HM15 := zM (blk_below HM13.out hb15)
 have HO15 := zM (blk_below HO13.out hb15)
 have HW15 := zM (HW13.out.below hb15)
 have HX15 := zM (blk_below HX13.out hb15)
 have HU15 := zM (HU13.out.below hb15)
 have HV15 := zM (HV13.out.below hb15)
 obtain ⟨_,_,_,_,_,_⟩ := HsB.cells HH15.out
 obtain ⟨_,_,_⟩ := RgC.cells HA15.out
 obtain ⟨_,_,_⟩ := RgC.cells HG15.out
 obtain ⟨_,_,_⟩ := RgC.cells HM15.out
 obtain ⟨_,_,_⟩ := RgC.cells HO15.out
 obtain ⟨_,_,_⟩ := RgC.cells HX15.out
 clear hb15
 obtain ⟨_,_,_⟩ := RgC.cells HY15.out
 go_upto_region 9 with (first | (go_at_call 27; (with_reducible refine (appC k a0 a1 a2 a3 a4 a5 y0 y1 AY cY yL b2 e2 A2 _ c2 h2 rfl z0 z1 zL zv true w15 ?s0 HV15.out (HR2.out.below HB15.out) E3.out).mono ?_); (case s0 => exact TabOK.below HT.out HB15.out); rintro e' w16 ⟨⟨AZ, cZ, vv, rfl, hR⟩, hb⟩; have HT_16 := zM hR; clear hR; have HB16 := zM (below_step HB15.out hb); have HH16 := zM (blk_below HH15.out hb); have HA16 := zM (blk_below HA15.out hb); have HG16 := zM (blk_below HG15.out hb); have HM16 := zM (blk_below HM15.out hb); have HO16 := zM (blk_below HO15.out hb); have HW16 := zM (HW15.out.below hb); have HX16 := zM (blk_below HX15.out hb); have HU16 := zM (HU15.out.below hb); have HY16 := zM (blk_below HY15.out hb); have HV16 := zM (HV15.out.below hb); clear hb) | ((with_reducible refine gate_dst (N := 18) rfl ?_); refine bx 18 #[.int .u64 0, .int .u64 0, .slice none 0 0] 39 ?_; intro gZ hg_gZ w17 hbox_gZ hb_gZ; have fzgZ0 := blk_frozen hbox_gZ 0; have clgZ0 : w17.cell? ⟨gZ, 0, none⟩ = some (.int .u64 0) := (blk_cell hbox_gZ 0).trans rfl; have fzgZ1 := blk_frozen hbox_gZ 1; have clgZ1 : w17.cell? ⟨gZ, 1, none⟩ = some (.int .u64 0) := (blk_cell hbox_gZ 1).trans rfl; have fzgZ2 := blk_frozen hbox_gZ 2; have clgZ2 : w17.cell? ⟨gZ, 2, none⟩ = some (.slice none 0 0) := (blk_cell hbox_gZ 2).trans rfl; have HBgZ := zM hb_gZ; have BKgZ := zM hbox_gZ; have GEgZ := zM (Nat.le_of_eq hg_gZ.symm); clear hb_gZ hbox_gZ hg_gZ))
 obtain ⟨w18, hw18⟩ : ∃ w18, w18 = ((w17.setCell ⟨gZ, 0, none⟩ (.int .u64 z0)).setCell ⟨gZ, 1, none⟩ (.int .u64 z1)).setCell ⟨gZ, 2, none⟩ (.slice AZ zL.length cZ) := ⟨_, rfl⟩
 have HZ18 := zM (show w18.heap[gZ]? = some (.cells #[.int .u64 z0, .int .u64 z1, .slice AZ zL.length cZ] 39 (0, 0)) by rw [hw18]; exact blk_put3 BKgZ.out _ _ _)
 have hb18 : Below w16.heap.size w16 w18 := by rw [hw18]; exact below_set3 HBgZ.out GEgZ.out _ _ _
 rw [← hw18]
 clear hw18 fzgZ0 fzgZ1 fzgZ2 clgZ0 clgZ1 clgZ2
 have HB18 := zM (below_step HB16.out hb18)
 have HH18 := zM (blk_below HH16.out hb18)
 have HA18 := zM (blk_below HA16.out hb18)
 have HG18 := zM (blk_below HG16.out hb18)
 have HM18 := zM (blk_below HM16.out hb18)
 have HO18 := zM (blk_below HO16.out hb18)
 have HW18 := zM (HW16.out.below hb18)
 have HX18 := zM (blk_below HX16.out hb18)
 have HU18 := zM (HU16.out.below hb18)
 have HY18 := zM (blk_below HY16.out hb18)
 have HV18 := zM (HV16.out.below hb18)
 have HT_18 := zM (HT_16.out.below hb18)
 obtain ⟨_,_,_,_,_,_⟩ := HsB.cells HH18.out
 obtain ⟨_,_,_⟩ := RgC.cells HA18.out
 obtain ⟨_,_,_⟩ := RgC.cells HG18.out
 obtain ⟨_,_,_⟩ := RgC.cells HM18.out
 obtain ⟨_,_,_⟩ := RgC.cells HO18.out
 obtain ⟨_,_,_⟩ := RgC.cells HX18.out
 obtain ⟨_,_,_⟩ := RgC.cells HY18.out
 clear hb18
 obtain ⟨_,_,_⟩ := RgC.cells HZ18.out
 go_wp2_with (first | (go_at_call 41; (with_reducible refine (spec_ProperRange.calls k x0 x1 AX cX xL true w18 HU18.out.2 HU18.out.1 E4.out).mono ?_);  rintro e' w19 ⟨rfl, hb⟩;  have HB19 := zM (below_step HB18.out hb); have HH19 := zM (blk_below HH18.out hb); have HA19 := zM (blk_below HA18.out hb); have HG19 := zM (blk_below HG18.out hb); have HM19 := zM (blk_below HM18.out hb); have HO19 := zM (blk_below HO18.out hb); have HW19 := zM (HW18.out.below hb); have HX19 := zM (blk_below HX18.out hb); have HU19 := zM (HU18.out.below hb); have HY19 := zM (blk_below HY18.out hb); have HV19 := zM (HV18.out.below hb); have HZ19 := zM (blk_below HZ18.out hb); have HT_19 := zM (HT_18.out.below hb); obtain ⟨_,_,_,_,_,_⟩ := HsB.cells HH19.out; obtain ⟨_,_,_⟩ := RgC.cells HA19.out; obtain ⟨_,_,_⟩ := RgC.cells HG19.out; obtain ⟨_,_,_⟩ := RgC.cells HM19.out; obtain ⟨_,_,_⟩ := RgC.cells HO19.out; obtain ⟨_,_,_⟩ := RgC.cells HX19.out; obtain ⟨_,_,_⟩ := RgC.cells HY19.out; obtain ⟨_,_,_⟩ := RgC.cells HZ19.out; clear hb) | (go_at_call 41; (with_reducible refine (spec_ProperRange.calls k z0 z1 AZ cZ zL true w19 HT_19.out.2 HT_19.out.1 E5.out).mono ?_);  rintro e' w20 ⟨rfl, hb⟩;  have HB20 := zM (below_step HB19.out hb); have HH20 := zM (blk_below HH19.out hb); have HA20 := zM (blk_below HA19.out hb); have HG20 := zM (blk_below HG19.out hb); have HM20 := zM (blk_below HM19.out hb); have HO20 := zM (blk_below HO19.out hb); have HW20 := zM (HW19.out.below hb); have HX20 := zM (blk_below HX19.out hb); have HU20 := zM (HU19.out.below hb); have HY20 := zM (blk_below HY19.out hb); have HV20 := zM (HV19.out.below hb); have HZ20 := zM (blk_below HZ19.out hb); have HT_20 := zM (HT_19.out.below hb); obtain ⟨_,_,_,_,_,_⟩ := HsB.cells HH20.out; obtain ⟨_,_,_⟩ := RgC.cells HA20.out; obtain ⟨_,_,_⟩ := RgC.cells HG20.out; obtain ⟨_,_,_⟩ := RgC.cells HM20.out; obtain ⟨_,_,_⟩ := RgC.cells HO20.out; obtain ⟨_,_,_⟩ := RgC.cells HX20.out; obtain ⟨_,_,_⟩ := RgC.cells HY20.out; obtain ⟨_,_,_⟩ := RgC.cells HZ20.out; clear hb) | (go_at_call 42; (with_reducible refine (laws_FnInclusionOfRanges.calls k a0 a1 a2 a3 a4 a5 b1 e1 A1 c1 h1 Al cl l b2 e2 A2 c2 h2 true w20 ?s0 (HR1.out.below HB20.out) (HRL.out.below HB20.out) (HR2.out.below HB20.out) E6.out).mono ?_); (case s0 => exact TabOK.below HT.out HB20.out); rintro e' w21 ⟨rfl, hb⟩;  have HB21 := zM (below_step HB20.out hb); have HH21 := zM (blk_below HH20.out hb); have HA21 := zM (blk_below HA20.out hb); have HG21 := zM (blk_below HG20.out hb); have HM21 := zM (blk_below HM20.out hb); have HO21 := zM (blk_below HO20.out hb); have HW21 := zM (HW20.out.below hb); have HX21 := zM (blk_below HX20.out hb); have HU21 := zM (HU20.out.below hb); have HY21 := zM (blk_below HY20.out hb); have HV21 := zM (HV20.out.below hb); have HZ21 := zM (blk_below HZ20.out hb); have HT_21 := zM (HT_20.out.below hb); obtain ⟨_,_,_,_,_,_⟩ := HsB.cells HH21.out; obtain ⟨_,_,_⟩ := RgC.cells HA21.out; obtain ⟨_,_,_⟩ := RgC.cells HG21.out; obtain ⟨_,_,_⟩ := RgC.cells HM21.out; obtain ⟨_,_,_⟩ := RgC.cells HO21.out; obtain ⟨_,_,_⟩ := RgC.cells HX21.out; obtain ⟨_,_,_⟩ := RgC.cells HY21.out; obtain ⟨_,_,_⟩ := RgC.cells HZ21.out; clear hb) | (go_at_call 42; (with_reducible refine (laws_FnInclusionOfRanges.calls k a0 a1 a2 a3 a4 a5 b1 e1 A1 c1 h1 Al cl l x0 x1 AX cX xL true w21 ?s0 (HR1.out.below HB21.out) (HRL.out.below HB21.out) HU21.out E7.out).mono ?_); (case s0 => exact TabOK.below HT.out HB21.out); rintro e' w22 ⟨rfl, hb⟩;  have HB22 := zM (below_step HB21.out hb); have HH22 := zM (blk_below HH21.out hb); have HA22 := zM (blk_below HA21.out hb); have HG22 := zM (blk_below HG21.out hb); have HM22 := zM (blk_below HM21.out hb); have HO22 := zM (blk_below HO21.out hb); have HW22 := zM (HW21.out.below hb); have HX22 := zM (blk_below HX21.out hb); have HU22 := zM (HU21.out.below hb); have HY22 := zM (blk_below HY21.out hb); have HV22 := zM (HV21.out.below hb); have HZ22 := zM (blk_below HZ21.out hb); have HT_22 := zM (HT_21.out.below hb); obtain ⟨_,_,_,_,_,_⟩ := HsB.cells HH22.out; obtain ⟨_,_,_⟩ := RgC.cells HA22.out; obtain ⟨_,_,_⟩ := RgC.cells HG22.out; obtain ⟨_,_,_⟩ := RgC.cells HM22.out; obtain ⟨_,_,_⟩ := RgC.cells HO22.out; obtain ⟨_,_,_⟩ := RgC.cells HX22.out; obtain ⟨_,_,_⟩ := RgC.cells HY22.out; obtain ⟨_,_,_⟩ := RgC.cells HZ22.out; clear hb) | (go_at_call 43; (with_reducible refine (laws_FnConsistencyOfRanges.calls k a0 a1 a2 a3 a4 a5 z0 z1 AZ cZ zL b3 e3 A3 c3 h3 true w22 ?s0 HT_22.out (HR3.out.below HB22.out) E8.out).mono ?_); (case s0 => exact TabOK.below HT.out HB22.out); rintro e' w23 ⟨rfl, hb⟩; have HB23 := zM (below_step HB22.out hb); clear hb))
 go_ret
 exact ⟨rfl, HB23.out⟩
end Go.Proofs.YtkmdkmlgahfcpaaDoor.M
