-- Written by a program of ours (wip/xp) out of the translation; Lean checks it.
import Derived.Test.YtkmdkmlgahfcpaaDoorSq
import Derived.Test.YtkmdkmlgahfcpaaDoorMm1
import Derived.Test.YtkmdkmlgahfcpaaDoorMm3
import Derived.Test.YtkmdkmlgahfcpaaDoorMm4
import Derived.Test.YtkmdkmlgahfcpaaDoorMm2
namespace Go.Proofs.YtkmdkmlgahfcpaaDoor.M
open Go.RowKit Go.Proofs.YtkmdkmlgahfcpaaDoorW.PrintWords Go.Proofs.YtkmdkmlgahfcpaaDoorW.PrintLast Go.Proofs.YtkmdkmlgahfcpaaDoorW.PrintMore
attribute [local go_sem] max2_int min2_int max_two min_two max_three min_three max_four min_four   -- for this text's walks alone
set_option linter.unusedVariables false
set_option linter.unusedSimpArgs false

/-! ### compact_Range_Append: function 54 -/
theorem compact_Range_appendImpl.leaf (k : Nat) (a0 a1 a2 a3 a4 a5 : Int) (B g gf gb : Nat) (fh fv : Value) (b : Int) (m : Nat) (e : Int) (v : Value) (L : List (List Int)) (As : Option Addr) (cs_ : Nat) (seed : List Int) (vis : List S60) (r : List (List Int) × List S60) (w : World)
  (hT : TabOK w) (hG : w.heap[g]? = some (.cells #[.pointer (some ⟨gf, 0, none⟩), .int .u64 b, .int .u64 (m : Int), v] 157 (0, 0))) (hg : B ≤ g) (hF : w.heap[gf]? = some (.cells #[fh] 101 (0, 0)))
  (hfh : IsFn Tryd.prog fh 52 (.agg #[.int .i64 a0, .int .i64 a1, .int .i64 a2, .int .u64 a3, .int .u64 a4, .int .u64 a5])) (hfv : Vst fv B gb) (hV : Vs w B gb vis) (hB : B ≤ w.heap.size)
  (hR : (Kd.slice 5 (Kd.int .u8)).R 27 w B (fun _ => True) v L) (hS : (Kd.int .u8).R 5 w B (fun _ => True) (.slice As seed.length cs_) seed)
  (h : rgApp k a0 a1 a2 a3 a4 a5 b m e L seed [] vis = some r) :
  Calls Tryd.prog 93 #[.pointer (some ⟨g, 0, none⟩), .int .u64 e, .slice As seed.length cs_, .slice none 0 0, fv] w fun e' w' => e' = .returned .nilIface ∧
   ∃ v', w'.heap[g]? = some (.cells #[.pointer (some ⟨gf, 0, none⟩), .int .u64 b, .int .u64 e, v'] 157 (0, 0)) ∧ (Kd.slice 5 (Kd.int .u8)).R 27 w' B (fun _ => True) v' r.1 ∧ Vs w' B gb r.2 ∧ Below B w w' ∧ FKeep (fun k_ => k_ = g ∨ some k_ = v.ownBlock) w w' ∧ (v'.ownBlock = v.ownBlock ∨ ∃ b_, v'.ownBlock = some b_ ∧ w.heap.size ≤ b_) :=
 compact_Range_appendImpl.calls k a0 a1 a2 a3 a4 a5 B g gf gb fh fv b m e v L As cs_ seed none 0 [] (.slice none 0 0) [] vis r w hT hG hg hF hfh hfv hV hB hR hS (Kd.R_nil _ _ _ _ _) (fun W ok _ => ⟨rfl, by decide, fun hp => absurd hp (by decide)⟩) (Nat.le_refl _) h
set_option maxHeartbeats 16000000 in
set_option maxRecDepth 100000 in
theorem compact_Range_Append.calls (k : Nat) (a0 a1 a2 a3 a4 a5 : Int) (B g gf gb : Nat) (fh fv : Value) (b : Int) (m : Nat) (v : Value) (L : List (List Int)) (As : Option Addr) (cs_ : Nat) (leaf : List Int) (vis : List S60) (r : List (List Int) × List S60) (w : World)
  (hT : ∀ W, Below B w W → TabOK W) (hG : w.heap[g]? = some (.cells #[.pointer (some ⟨gf, 0, none⟩), .int .u64 b, .int .u64 (m : Int), v] 157 (0, 0))) (hg : B ≤ g) (hF : w.heap[gf]? = some (.cells #[fh] 101 (0, 0)))
  (hfh : IsFn Tryd.prog fh 52 (.agg #[.int .i64 a0, .int .i64 a1, .int .i64 a2, .int .u64 a3, .int .u64 a4, .int .u64 a5])) (hfv : Vst fv B gb) (hV : Vs w B gb vis) (hB : B ≤ w.heap.size)
  (hR : (Kd.slice 5 (Kd.int .u8)).R 27 w B (fun _ => True) v L) (hS : (Kd.int .u8).R 5 w B (fun _ => True) (.slice As leaf.length cs_) leaf) (hle : leaf.length < 140737488355328) (hvl : vis.length < 1000000)
  (h : rgApp k a0 a1 a2 a3 a4 a5 b m (IntKind.u64.wrap ((m : Int) + 1)) L leaf [] (vis ++ [⟨⟨0, (m : Int)⟩, leaf⟩]) = some r) :
  Calls Tryd.prog 54 #[.pointer (some ⟨g, 0, none⟩), .slice As leaf.length cs_, fv] w fun e' w' => e' = .returned .nilIface ∧
   ∃ v', w'.heap[g]? = some (.cells #[.pointer (some ⟨gf, 0, none⟩), .int .u64 b, .int .u64 (IntKind.u64.wrap ((m : Int) + 1)), v'] 157 (0, 0)) ∧ (Kd.slice 5 (Kd.int .u8)).R 27 w' B (fun _ => True) v' r.1 ∧ Vs w' B gb r.2 ∧ Below B w w' ∧ FKeep (fun k_ => k_ = g ∨ some k_ = v.ownBlock) w w' ∧ (v'.ownBlock = v.ownBlock ∨ ∃ b_, v'.ownBlock = some b_ ∧ w.heap.size ≤ b_) := by
 obtain ⟨e, he⟩ : ∃ e, IntKind.u64.wrap ((m : Int) + 1) = e := ⟨_, rfl⟩
 rw [he] at h ⊢
 obtain ⟨vis1, hv1⟩ : ∃ vis1, vis ++ [(⟨⟨0, (m : Int)⟩, leaf⟩ : S60)] = vis1 := ⟨_, rfl⟩
 rw [hv1] at h
 have HV1 := Aside0.mk hv1
 clear hv1
 have HFV := Aside0.mk hfv
 obtain ⟨f, hfe, hf, hcl⟩ := hfv
 subst hfe
 have q2 : w.cell? ⟨g, 2, none⟩ = some (.int .u64 (m : Int)) := (blk_cell hG 2).trans rfl
 have hnn := fact_fn
 have ng : g < w.heap.size := blk_lt hG
 have HT := Aside0.mk hT
 have HG := Aside0.mk hG
 have HF := Aside0.mk hF
 have HFH := Aside0.mk hfh
 have HF_ := Aside0.mk hf
 have HCL := Aside0.mk hcl
 have HV := Aside0.mk hV
 have HBB := Aside0.mk hB
 have HR := Aside0.mk hR
 have HS := Aside0.mk hS
 have HLL := Aside0.mk hle
 have HVL := Aside0.mk hvl
 have H' := Aside0.mk h
 clear hT hG hF hfh hf hcl hV hB hR hS hle hvl h
 go_enter Tryd.func54, Tryd.ntmps54
 go_wp2_with (first
  | (go_at_call 92; (with_reducible refine (compact_NewNodeID.calls _ _ _ _ _ rfl).mono ?_); rintro e' w8 ⟨rfl, hb8⟩; have HB8 := Aside0.mk hb8; clear hb8)
  | ((with_reducible refine gate_value (x := .tmp 9) rfl ?_); refine callsFc_ (some 16) rfl rfl _ _ HF_.out #[.agg #[.int .u64 0, .int .u64 (m : Int)], .slice As leaf.length cs_] #[.agg #[.int .u64 0, .int .u64 (m : Int)], .slice As leaf.length cs_, .pointer (some ⟨gb, 0, none⟩)] rfl rfl (by first | rfl | (simp only [Act.eval]; rfl)) (by (try simp only [List.map_toArray, List.map_cons, List.map_nil]); first | done | rfl) ?_; (with_reducible refine (HCL.out vis 0 (m : Int) As cs_ leaf _ ?side1 ?side2 ?side3 ?side4 HLL.out ?side5).mono ?_); (case side1 => exact HV.out.below HB8.out); (case side2 => exact Nat.le_trans HBB.out HB8.out.size); (case side3 => exact Kd.C_below (Kd.R_reads' HS.out).2.2 HB8.out); (case side4 => exact (Kd.R_reads' HS.out).2.1); (case side5 => have := HVL.out; omega); rintro e' w9 ⟨rfl, hv9, hb9, hk9⟩; refine ⟨_, rfl, ?_⟩; rw [HV1.out] at hv9; have HV9 := Aside0.mk hv9; have HB9 := Aside0.mk ((HB8.out.mono HBB.out).trans hb9); have HK9 := Aside0.mk (show VKeep w w9 from (TKeep.of_below HB8.out).trans hk9); have q2_ : w9.cell? ⟨g, 2, none⟩ = some (.int .u64 (m : Int)) := (blk_cell (HK9.out.blk HG.out (by decide) (by decide)) 2).trans rfl; clear hv9 hb9 hk9)
  | (go_at_call 93; (with_reducible refine (compact_Range_appendImpl.leaf k a0 a1 a2 a3 a4 a5 B g gf gb fh _ b m e v L As cs_ leaf vis1 r _ ?s1 ?s2 hg ?s3 HFH.out HFV.out HV9.out ?s4 ?s5 ?s6 H'.out).mono ?_); (case s1 => exact HT.out _ HB9.out); (case s2 => exact HK9.out.blk HG.out (by decide) (by decide)); (case s3 => exact HK9.out.blk HF.out (by decide) (by decide)); (case s4 => exact Nat.le_trans HBB.out HB9.out.size); (case s5 => exact HK9.out.R HR.out (by decide)); (case s6 => exact HK9.out.R HS.out (by decide)); rintro e' w10 ⟨rfl, v10, h1, h2, h3, h4, h5, h6⟩; have K1 := Aside0.mk h1; have K2 := Aside0.mk h2; have K3 := Aside0.mk h3; have K4 := Aside0.mk h4; have K5 := Aside0.mk h5; have K6 := Aside0.mk h6; clear h1 h2 h3 h4 h5 h6))
 go_ret
 refine ⟨rfl, v10, K1.out, K2.out, K3.out, HB9.out.trans K4.out, FKeep.pre HK9.out K5.out, ?_⟩
 rcases K6.out with e_ | ⟨b_, e_, hb_⟩
 ·exact .inl e_
 ·exact .inr ⟨b_, e_, Nat.le_trans HK9.out.1 hb_⟩


/-! ### impl_fromRange: function 57 -/
theorem compact_Range_Begin.calls (g : Nat) (b : Int) (w : World) (h : w.cell? ⟨g, 1, none⟩ = some (.int .u64 b)) : Calls Tryd.prog 94 #[.pointer (some ⟨g, 0, none⟩)] w fun e w' => e = .returned (.int .u64 b) ∧ w' = w := by
 go_enter Tryd.func94, Tryd.ntmps94
 go_wp2
 go_ret
 exact ⟨rfl, rfl⟩
theorem compact_Range_End.calls (g : Nat) (b : Int) (w : World) (h : w.cell? ⟨g, 2, none⟩ = some (.int .u64 b)) : Calls Tryd.prog 95 #[.pointer (some ⟨g, 0, none⟩)] w fun e w' => e = .returned (.int .u64 b) ∧ w' = w := by
 go_enter Tryd.func95, Tryd.ntmps95
 go_wp2
 go_ret
 exact ⟨rfl, rfl⟩
theorem compact_Range_Hashes.calls (g : Nat) (A : Option Addr) (n c : Nat) (w : World) (h : w.cell? ⟨g, 3, none⟩ = some (.slice A n c)) : Calls Tryd.prog 96 #[.pointer (some ⟨g, 0, none⟩)] w fun e w' => e = .returned (.slice A n c) ∧ w' = w := by
 go_enter Tryd.func96, Tryd.ntmps96
 go_wp2
 go_ret
 exact ⟨rfl, rfl⟩
set_option maxHeartbeats 16000000 in
set_option maxRecDepth 100000 in
theorem impl_fromRange.calls (k g : Nat) (pf : Value) (b e : Int) (A : Option Addr) (c : Nat) (hs x : List (List Int)) (w : World)
  (hG : w.heap[g]? = some (.cells #[pf, .int .u64 b, .int .u64 e, .slice A hs.length c] 157 (0, 0))) (hC : Kd.C (Kd.slice 5 (Kd.int .u8)) w A hs.length hs) (hc : hs.length ≤ c) (h : impl_texts.f k hs = some x) :
  Calls Tryd.prog 57 #[.pointer (some ⟨g, 0, none⟩)] w fun e' w' => ∃ v0, e' = .returned (.agg #[.int .u64 b, .int .u64 e, v0]) ∧ Kd.S (Kd.slice 5 (Kd.int .u8)) 27 w' w.heap.size (fun _ => True) v0 x ∧ Below w.heap.size w w' := by
 have hu39 := Tryd.underlying39
 have HG := Aside0.mk hG
 have HC := Aside0.mk hC
 have HCC := Aside0.mk hc
 have HX := Aside0.mk h
 clear hG hC hc h
 go_enter Tryd.func57, Tryd.ntmps57
 go_wp2_with (first
  | ((with_reducible refine gate_dst (N := 2) rfl ?_); refine box_event ?hg (N := 2) ?hd (cs := #[.int .u64 0, .int .u64 0, .slice none 0 0]) (t := 39) ?hr ?_; (case hd => rfl); (case hg => rfl); (case hr => first | (go_simp; done) | (go_simp; rfl)); intro gr hgr w2 hbox hb; have HB2 := Aside0.mk hb; have BK2 := Aside0.mk hbox; have GE2 := Aside0.mk (Nat.le_of_eq hgr.symm); have hk2 := blk_below HG.out hb; have q1 : w2.cell? ⟨g, 1, none⟩ = some (.int .u64 b) := (blk_cell hk2 1).trans rfl; have q2 : w2.cell? ⟨g, 2, none⟩ = some (.int .u64 e) := (blk_cell hk2 2).trans rfl; have q3 : w2.cell? ⟨g, 3, none⟩ = some (.slice A hs.length c) := (blk_cell hk2 3).trans rfl; clear hb hbox hk2 hgr)
  | (go_at_call 94; (with_reducible refine (compact_Range_Begin.calls g b _ q1).mono ?_); rintro e' w' ⟨rfl, rfl⟩)
  | (go_at_call 95; (with_reducible refine (compact_Range_End.calls g e _ q2).mono ?_); rintro e' w' ⟨rfl, rfl⟩)
  | (go_at_call 96; (with_reducible refine (compact_Range_Hashes.calls g A hs.length c _ q3).mono ?_); rintro e' w' ⟨rfl, rfl⟩)
  | (go_at_call 46; (with_reducible refine (impl_texts.calls k A c hs x _ ?side1 HCC.out HX.out).mono ?_); (case side1 => exact Kd.C_below HC.out HB2.out); rintro e' w3 ⟨v3, rfl, hS3, hB3⟩; obtain ⟨A3, c3, rfl⟩ := Kd.S_slice hS3; have HS3 := Aside0.mk hS3; have HB3 := Aside0.mk hB3; have BK3 := Aside0.mk (blk_below BK2.out hB3); have hbk3 := BK3.out; have fz0 := blk_frozen hbk3 0; have fz1 := blk_frozen hbk3 1; have fz2 := blk_frozen hbk3 2; have cl0 := (blk_cell hbk3 0).trans rfl; have cl1 := (blk_cell hbk3 1).trans rfl; have cl2 := (blk_cell hbk3 2).trans rfl; clear hS3 hB3 hbk3))
 have k3 := blk_put (blk_put (blk_put BK3.out 0 (.int .u64 b) rfl) 1 (.int .u64 e) rfl) 2 (.slice A3 x.length c3) rfl
 refine bodyPost_ret (results_cell_row rfl _ _ gr 39 #[.int .u64 b, .int .u64 e, .slice A3 x.length c3] (0, 0) _ rfl k3 Tryd.underlying39 rfl (by kernel_rfl)) rfl ?_
 refine ⟨_, rfl, ?_, ?_⟩
 ·have s1 := Kd.S_set HS3.out BK3.out (by decide) 0 (.int .u64 b)
  have s2 := Kd.S_set s1 (blk_put BK3.out 0 (.int .u64 b) rfl) (by decide) 1 (.int .u64 e)
  have s3 := Kd.S_set s2 (blk_put (blk_put BK3.out 0 (.int .u64 b) rfl) 1 (.int .u64 e) rfl) (by decide) 2 (.slice A3 x.length c3)
  exact Kd.S_lower s3 HB2.out.size
 ·exact (((HB2.out.trans (HB3.out.mono HB2.out.size)).setCell GE2.out _).setCell GE2.out _).setCell GE2.out _


/-! ### impl_fromNode: function 56 -/
def impl_fromNode.f (a0_0 : Int) (a0_1 : Int) : Option (Int × Int) := some (a0_0, a0_1)
set_option maxHeartbeats 8000000 in
set_option maxRecDepth 100000 in
theorem impl_fromNode.calls (a0_0 : Int) (a0_1 : Int) (r1 : Int) (r2 : Int) (w : World) (h : impl_fromNode.f a0_0 a0_1 = some (r1, r2)) :
  Calls Tryd.prog 56 #[.agg #[.int .u64 a0_0, .int .u64 a0_1]] w fun e w' => e = .returned (.agg #[.int .u64 r1, .int .u64 r2]) ∧ Below w.heap.size w w' := by
 have hu106 := Tryd.underlying106
 have hu54 := Tryd.underlying54
 have HB := Aside0.mk (Below.refl w.heap.size w)
 have H : (some (a0_0, a0_1)) = some (r1, r2) := h
 clear h
 simp only [Option.some.injEq, Prod.mk.injEq] at H
 obtain ⟨rfl, rfl⟩ := H
 go_enter Tryd.func56, Tryd.ntmps56
 go_wp2_with (first | ((with_reducible refine gate_dst (N := 1) rfl ?_); refine box_event ?hg (N := 1) ?hd (cs := #[.int .u64 a0_0, .int .u64 a0_1]) (t := 106) ?hr ?_; (case hd => rfl); (case hg => rfl); (case hr => first | (go_simp; done) | (go_simp; rfl)); intro gb289 hg w2 hbox hb; have n0_ := Aside0.mk (below_step bB hb); have n1_ := Aside0.mk (hbox); have n2_ := Aside0.mk ((by rw [hg]; exact (below_size bB) : w.heap.size ≤ gb289)); have n3_ := Aside0.mk ((by rw [hg]; exact (below_size bB) : w.heap.size ≤ gb289)); clear HB; have HB := n0_; have BK289 := n1_; have GW289 := n2_; have GE289 := n3_; clear n0_ n1_ n2_ n3_; clear hb hbox hg) | ((with_reducible refine gate_dst (N := 2) rfl ?_); refine box_event ?hg (N := 2) ?hd (cs := #[.int .u64 0, .int .u64 0]) (t := 54) ?hr ?_; (case hd => rfl); (case hg => rfl); (case hr => first | (go_simp; done) | (go_simp; rfl)); intro gb290 hg w3 hbox hb; have n0_ := Aside0.mk (blk_below (g := gb289) (o := .cells #[.int .u64 a0_0, .int .u64 a0_1] 106 (0, 0)) (kB BK289.out) hb); have n1_ := Aside0.mk (below_step bB hb); have n2_ := Aside0.mk (hbox); have n3_ := Aside0.mk ((by rw [hg]; exact (below_size bB) : w.heap.size ≤ gb290)); have n4_ := Aside0.mk ((by rw [hg]; exact (below_size bB) : w.heap.size ≤ gb290)); have n5_ := Aside0.mk ((by rw [hg]; exact Nat.ne_of_lt (blk_lt (g := gb289) (o := .cells #[.int .u64 a0_0, .int .u64 a0_1] 106 (0, 0)) (kB BK289.out)) : gb289 ≠ gb290)); have n6_ := Aside0.mk ((by rw [hg]; exact Nat.ne_of_gt (blk_lt (g := gb289) (o := .cells #[.int .u64 a0_0, .int .u64 a0_1] 106 (0, 0)) (kB BK289.out)) : gb290 ≠ gb289)); clear BK289; clear HB; have BK289 := n0_; have HB := n1_; have BK290 := n2_; have GW290 := n3_; have GE290 := n4_; have NB289_290 := n5_; have NB290_289 := n6_; clear n0_ n1_ n2_ n3_ n4_ n5_ n6_; clear hb hbox hg; have hnb4 := NB289_290.out; have hnc4 := NB290_289.out; have hcz5_0 : w3.cell? ⟨gb289, 0, none⟩ = some (.int .u64 a0_0) := (blk_cell BK289.out 0).trans rfl; have hcz5_1 : w3.cell? ⟨gb289, 1, none⟩ = some (.int .u64 a0_1) := (blk_cell BK289.out 1).trans rfl; have hfz5_0 := blk_frozen BK289.out 0; have hfz5_1 := blk_frozen BK289.out 1; have hcz6_0 : w3.cell? ⟨gb290, 0, none⟩ = some (.int .u64 0) := (blk_cell BK290.out 0).trans rfl; have hcz6_1 : w3.cell? ⟨gb290, 1, none⟩ = some (.int .u64 0) := (blk_cell BK290.out 1).trans rfl; have hfz6_0 := blk_frozen BK290.out 0; have hfz6_1 := blk_frozen BK290.out 1))
 refine bodyPost_ret (results_cell_row rfl _ _ gb290 54 #[.int .u64 a0_0, .int .u64 a0_1] (0, 0) _ rfl (by (with_reducible repeat (first | refine blk_drewN ?_ _ | refine blk_drew ?_ | refine blk_alloc ?_ _)); refine blk_put (cs := #[.int .u64 a0_0, .int .u64 0]) ?_ 1 _ rfl; (with_reducible repeat (first | refine blk_drewN ?_ _ | refine blk_drew ?_ | refine blk_alloc ?_ _)); refine blk_put (cs := #[.int .u64 0, .int .u64 0]) ?_ 0 _ rfl; (with_reducible repeat (first | refine blk_drewN ?_ _ | refine blk_drew ?_ | refine blk_alloc ?_ _)); exact BK290.out) Tryd.underlying54 rfl (by kernel_rfl)) rfl ?_
 exact ⟨by first | rfl | (simp [errW_none, errW_some] <;> rfl) | (simp [*, errW_none, errW_some] <;> rfl), bB⟩


/-! ### impl_Append: function 23 -/
set_option maxHeartbeats 16000000 in
set_option maxRecDepth 100000 in
theorem impl_Append1.calls (B gb : Nat) (vs : Value) (vis : List S60) (lv ix : Int) (A : Option Addr) (c : Nat) (hash : List Int) (w : World)
  (hbx : w.heap[gb]? = some (.cells #[vs] 42 (0, 0))) (hgb : B ≤ gb) (hB : B ≤ w.heap.size) (hR : k60.R 60 w B (fun _ => True) vs vis)
  (hC : (Kd.int .u8).C w A hash.length hash) (hc : hash.length ≤ c) (hl1 : hash.length < 140737488355328) (hl2 : vis.length < 1000000000) :
  Calls Tryd.prog 55 #[.agg #[.int .u64 lv, .int .u64 ix], .slice A hash.length c, .pointer (some ⟨gb, 0, none⟩)] w fun e w' => e = .returned (.tuple #[]) ∧
   ∃ vs', w'.heap[gb]? = some (.cells #[vs'] 42 (0, 0)) ∧ k60.R 60 w' B (fun _ => True) vs' (vis ++ [⟨⟨lv, ix⟩, hash⟩]) ∧ Below B w w' ∧ TKeep 42 60 w w' := by
 obtain ⟨w1, hw1⟩ : ∃ w1, w1 = w.alloc (.cells #[.int .u64 lv, .int .u64 ix] 106) := ⟨_, rfl⟩
 have hb1 : Below w.heap.size w w1 := by rw [hw1]; exact below_alloc (Below.refl _ _) _
 have hk1 : w1.heap[w.heap.size]? = some (.cells #[.int .u64 lv, .int .u64 ix] 106 (0, 0)) := by rw [hw1]; exact blk_new w _
 have q0 : w1.cell? ⟨w.heap.size, 0, none⟩ = some (.int .u64 lv) := (blk_cell hk1 0).trans rfl
 have q1 : w1.cell? ⟨w.heap.size, 1, none⟩ = some (.int .u64 ix) := (blk_cell hk1 1).trans rfl
 have hbx1 := blk_below hbx hb1
 have q2 : w1.cell? ⟨gb, 0, none⟩ = some vs := (blk_cell hbx1 0).trans rfl
 have hgx : gb < w.heap.size := blk_lt hbx
 have ne1 : w.heap.size < w1.heap.size := blk_lt hk1
 have ne2 : gb < w1.heap.size := blk_lt hbx1
 have HR1 := Aside0.mk (Kd.R_below hR hb1)
 have HC1 := Aside0.mk (Kd.C_below hC hb1)
 have HBX := Aside0.mk hbx1
 have HB1 := Aside0.mk (hb1.mono hB)
 have HTK := Aside0.mk (TKeep.of_below (t1 := 42) (t2 := 60) hb1)
 have HBW := Aside0.mk (Nat.le_trans hB hb1.size)
 have HGX := Aside0.mk hgx
 obtain ⟨Av, cv, rfl⟩ := Kd.R_slice hR
 have HL2 := Aside0.mk hl2
 have HL1 := Aside0.mk hl1
 clear hR hC hbx hbx1 hb1 hk1 hB hl1 hl2 hgx
 go_enter Tryd.func55, Tryd.ntmps55
 go_upto_region 1 with (fail)
 rw [← hw1]
 clear hw1
 generalize w.heap.size = gx at *
 go_region_law
  (first
   | (go_simp; go_at_call 56; (with_reducible refine (impl_fromNode.calls lv ix lv ix _ rfl).mono ?_); rintro e' w7 ⟨rfl, hb7⟩; have HB7 := Aside0.mk (show Below w1.heap.size w1 w7 from below_step (by repeat (first | (with_reducible exact Below.refl _ _) | apply below_alloc | apply below_drew)) hb7); have c7 : w7.cell? ⟨gb, 0, none⟩ = some (.slice Av vis.length cv) := (blk_cell (blk_below HBX.out HB7.out) 0).trans rfl; have n7 : gb < w7.heap.size := blk_lt (blk_below HBX.out HB7.out); have HBx7 := Aside0.mk hb7; clear hb7)
   | (refine Kd.R_append_step k60 (w0 := w1) B ?hw (.tmp 5) (.tmp 12) 42 60 (.agg #[(.int .u64 0), (.int .u64 0), (.slice none 0 0)]) 40 ?ho Tryd.underlying42 info_visit (by rfl) (by decide) (by omega) (.slice Av vis.length cv) vis ⟨⟨lv, ix⟩, hash⟩ [.int .u64 lv, .int .u64 ix, .slice A10 ([] ++ hash).length cc10] (fun _ => True) (fun k_ => some k_ ≠ (Value.slice Av vis.length cv).ownBlock) ?hs ?hx ?bM (fun _ h_ => ⟨trivial, h_⟩) (fun _ _ => trivial) ?bO ?bB ?bS ?bL ?_; (case ho => rfl); (case hw => rfl); (case hs => rfl); (case hx => rfl); (case bM => exact k60_mkM _ _ _ ⟨⟨lv, ix⟩, hash⟩ (Kd.R_mono (Kd.R_lower (Kd.R_apart' HR10.out (Kd.R_typed (Kd.R_below HR1.out HB10.out)) (by decide)) HBW.out) (fun _ h_ => h_.2))); (case bO => exact Kd.R_below HR1.out HB10.out); (case bB => exact HB10.out.mono HBW.out); (case bS => exact Nat.le_trans HBW.out HB10.out.size); (case bL => have := HL2.out; omega); intro v13 w13 hr13 hb13 hg13 hat13; have k13 := blk_grown (blk_below HBX.out HB10.out) hg13 (Kd.R_ne (Kd.R_below HR1.out HB10.out) (blk_below HBX.out HB10.out) (by decide)); have HK13 := Aside0.mk k13; have c13 : w13.cell? ⟨gb, 0, none⟩ = some (.slice Av vis.length cv) := (blk_cell k13 0).trans rfl; have f13 := blk_frozen k13 0; have HR13 := Aside0.mk hr13; have HB13 := Aside0.mk hb13; have HT13 := Aside0.mk ((HTK.out.below HB10.out).grown hg13 (fun k hk => by obtain ⟨cs_, hcs_⟩ := Kd.R_typed (Kd.R_below HR1.out HB10.out) k hk; exact ⟨_, hcs_, cs_, _, .inr rfl⟩)); obtain ⟨A13, cc13, rfl⟩ := Kd.R_slice hr13; clear k13 hr13 hb13 hg13 hat13)
   | (refine Kd.R_append_rows_step (Kd.int .u8) (w0 := w1) w1.heap.size ?hw (.tmp 8) (.tmp 9) 27 5 (.int .u8 0) 1 rfl Tryd.underlying27 info5 (by rfl) (by decide) (by omega) _ [] hash A hash.length c (fun _ => True) (fun _ => False) rfl rfl ?aO ?aR (fun _ _ h => h) (fun _ h => h.elim) (fun _ _ => trivial) ?aB ?aS ?aL ?_; (case hw => rfl); (case aR => first | exact Kd.C_below HC1.out HB7.out | exact Kd.C_alloc (Kd.C_below HC1.out HB7.out) _); (case aB => repeat (first | (with_reducible exact HB7.out) | apply below_alloc | apply below_drew)); (case aO => first | (refine emptyR _ _ ?_; exact HB7.out.size) | exact Kd.R_below (Kd.R_drew (emptyR w1 _ (Nat.le_refl _))) HBx7.out | exact Kd.R_below (emptyR w1.drew _ (Nat.le_refl _)) HBx7.out); (case aS => first | exact HB7.out.size | exact (below_alloc HB7.out _).size); (case aL => simp only [List.length_nil, Nat.zero_add]; have := HL1.out; omega); intro v10 w10 hr10 hb10 hg10 hat10; have HR10 := Aside0.mk hr10; have HB10 := Aside0.mk hb10; have c10 : w10.cell? ⟨gb, 0, none⟩ = some (.slice Av vis.length cv) := (blk_cell (blk_below HBX.out HB10.out) 0).trans rfl; have n10 : gb < w10.heap.size := blk_lt (blk_below HBX.out HB10.out); obtain ⟨A10, cc10, rfl⟩ := Kd.R_slice hr10; clear hr10 hb10 hg10 hat10))
 all_goals
  go_wp2
  go_end0
  have e13 : (vis ++ [(⟨⟨lv, ix⟩, hash⟩ : S60)]).length = vis.length + 1 := by simp
  have hs13 := Kd.R_set HR13.out HK13.out (by decide) 0 (.slice A13 (vis ++ [(⟨⟨lv, ix⟩, hash⟩ : S60)]).length cc13)
  rw [e13] at hs13
  exact ⟨rfl, _, blk_put HK13.out 0 _ rfl, hs13, (HB1.out.trans HB13.out).setCell hgb _, HT13.out.set HK13.out ⟨_, _, .inl rfl⟩ _⟩
/-- Leaves put behind a range, one after the other. -/
def rgFold (k : Nat) (a0 a1 a2 a3 a4 a5 : Int) (b : Int) : Nat → List (List Int) → List S60 → List (List Int) → Option (Nat × List (List Int) × List S60)
 | m, L, vis, [] => some (m, L, vis)
 | m, L, vis, x :: xs => if x.length < 140737488355328 ∧ vis.length < 1000000 ∧ m + 1 < 18446744073709551616 then (rgApp k a0 a1 a2 a3 a4 a5 b m ((m + 1 : Nat) : Int) L x [] (vis ++ [⟨⟨0, (m : Int)⟩, x⟩])).bind fun r => rgFold k a0 a1 a2 a3 a4 a5 b (m + 1) r.1 r.2 xs else none
def impl_Append.f (k : Nat) (a0_0 a0_1 a0_2 a0_3 a0_4 a0_5 : Int) (a1_0 a1_1 : Int) (l1_2 l2 : List (List Int)) : Option (Int × Int × List (List Int) × List S60 × Bool) :=
 (impl_texts.f k l1_2).bind fun x => if rgNew a1_0 a1_1 x then (impl_texts.f k l2).bind fun y => (rgFold k a0_0 a0_1 a0_2 a0_3 a0_4 a0_5 a1_0 a1_1.toNat x [] y).bind fun r => (impl_texts.f k r.2.1).bind fun z => some (a1_0, (r.1 : Int), z, r.2.2, true) else none
theorem rgFold_mono (a0 a1 a2 a3 a4 a5 b : Int) (k : Nat) : ∀ (xs : List (List Int)) (m : Nat) (L : List (List Int)) (vis : List S60), LeO (rgFold k a0 a1 a2 a3 a4 a5 b m L vis xs) (rgFold (k + 1) a0 a1 a2 a3 a4 a5 b m L vis xs)
 | [], m, L, vis => LeO.refl _
 | x :: xs, m, L, vis => by
  rw [rgFold, rgFold]
  exact LeO.ite (LeO.bind (rgApp_mono _ _ _ _ _ _ _ _ _ _ _ _ _ k) (fun r => rgFold_mono a0 a1 a2 a3 a4 a5 b k xs _ _ _)) (LeO.refl _)
theorem impl_Append.mono : ∀ a0 a1 a2 a3 a4 a5 a6 a7 a8 a9 k, LeO (impl_Append.f k a0 a1 a2 a3 a4 a5 a6 a7 a8 a9) (impl_Append.f (k + 1) a0 a1 a2 a3 a4 a5 a6 a7 a8 a9) := by
 intro a0 a1 a2 a3 a4 a5 a6 a7 a8 a9 k
 unfold impl_Append.f
 exact LeO.bind (impl_texts.mono _ _) (fun x => LeO.ite (LeO.bind (impl_texts.mono _ _) (fun y => LeO.bind (rgFold_mono _ _ _ _ _ _ _ k _ _ _ _) (fun r => LeO.bind (impl_texts.mono _ _) (fun z => LeO.refl _)))) (LeO.refl _))
theorem vst_append (B gb : Nat) (hgb : B ≤ gb) : Vst (.func (.func 55) #[] #[.pointer (some ⟨gb, 0, none⟩)]) B gb :=
 ⟨_, rfl, isFc_func Tryd.func55 (by kernel_rfl) rfl _, fun vis lv ix A c hash w hV hB hC hc hl1 hl2 => by
  obtain ⟨vs, hbx, hR⟩ := hV
  refine (impl_Append1.calls B gb vs vis lv ix A c hash w hbx hgb hB hR hC hc hl1 hl2).mono ?_
  rintro e w' ⟨rfl, vs', h1, h2, h3, h4⟩
  exact ⟨rfl, ⟨vs', h1, h2⟩, h3, h4⟩⟩
set_option maxHeartbeats 16000000 in
set_option maxRecDepth 100000 in
theorem impl_Append.calls (k : Nat) (a0_0 a0_1 a0_2 a0_3 a0_4 a0_5 : Int) (a1_0 a1_1 : Int) (A1_2 : Option Addr) (c1_2 : Nat) (l1_2 : List (List Int)) (A2 : Option Addr) (c2 : Nat) (l2 : List (List Int)) (r0 r1 : Int) (r2 : List (List Int)) (r3 : List S60) (r4 : Bool) (w : World) (hT : TabOK w)
  (hr1_2 : Kd.C (Kd.slice 5 (Kd.int .u8)) w A1_2 l1_2.length l1_2) (hc1_2 : l1_2.length ≤ c1_2) (hr2 : Kd.C (Kd.slice 5 (Kd.int .u8)) w A2 l2.length l2) (hc2 : l2.length ≤ c2) (h : impl_Append.f k a0_0 a0_1 a0_2 a0_3 a0_4 a0_5 a1_0 a1_1 l1_2 l2 = some (r0, r1, r2, r3, r4)) :
  Calls Tryd.prog 23 #[.agg #[.int .i64 a0_0, .int .i64 a0_1, .int .i64 a0_2, .int .u64 a0_3, .int .u64 a0_4, .int .u64 a0_5], .agg #[.int .u64 a1_0, .int .u64 a1_1, .slice A1_2 l1_2.length c1_2], .slice A2 l2.length c2] w fun e w' =>
   ∃ v0 v1, e = .returned (.tuple #[.agg #[.int .u64 r0, .int .u64 r1, v0], v1, .bool r4]) ∧ Kd.S (Kd.slice 5 (Kd.int .u8)) 27 w' w.heap.size (fun _ => True) v0 r2 ∧ k60.R 60 w' w.heap.size (fun _ => True) v1 r3 ∧ Below w.heap.size w w' := by
 have hmf := fact_func
 unfold impl_Append.f at h
 obtain ⟨x, hx, h⟩ := Option.bind_eq_some_iff.mp h
 by_cases hn : rgNew a1_0 a1_1 x
 case neg => rw [if_neg hn] at h; exact absurd h (by simp)
 rw [if_pos hn] at h
 obtain ⟨hbe, hsz, he0, he1⟩ := hn
 obtain ⟨m0, rfl⟩ := Int.eq_ofNat_of_zero_le he0
 rw [Int.toNat_natCast] at h
 obtain ⟨y, hy, h⟩ := Option.bind_eq_some_iff.mp h
 obtain ⟨⟨m1, L1, vis1⟩, hf, h⟩ := Option.bind_eq_some_iff.mp h
 obtain ⟨z, hz, h⟩ := Option.bind_eq_some_iff.mp h
 obtain ⟨rfl, rfl, rfl, rfl, rfl⟩ : a1_0 = r0 ∧ (m1 : Int) = r1 ∧ z = r2 ∧ vis1 = r3 ∧ true = r4 := by simpa using h
 have HC1 := Aside0.mk hc1_2
 have HC2 := Aside0.mk hc2
 have HX := Aside0.mk hx
 have HY := Aside0.mk hy
 have HZ := Aside0.mk hz
 have HFO := Aside0.mk hf
 have HBE := Aside0.mk hbe
 have HSZ := Aside0.mk hsz
 have HT := Aside0.mk hT
 clear hx hy hz hf hbe hsz he0 h hT hc1_2 hc2
 obtain ⟨w3, hw3⟩ : ∃ w3, w3 = (((w.alloc (.cells #[.int .i64 a0_0, .int .i64 a0_1, .int .i64 a0_2, .int .u64 a0_3, .int .u64 a0_4, .int .u64 a0_5] 24)).alloc (.cells #[.int .u64 a1_0, .int .u64 (m0 : Int), .slice A1_2 l1_2.length c1_2] 39)).alloc (.cells #[.int .u64 0, .int .u64 0, .slice none 0 0] 39)).alloc (.cells #[.func (.func 52) #[.agg #[.int .i64 a0_0, .int .i64 a0_1, .int .i64 a0_2, .int .u64 a0_3, .int .u64 a0_4, .int .u64 a0_5]] #[]] 101) := ⟨_, rfl⟩
 obtain ⟨hb3, hs3, hk0, hk1, hk2, hk3⟩ := four_blocks w _ _ _ _ w3 hw3
 have HB3 := Aside0.mk hb3
 have HS3 := Aside0.mk hs3
 have HK2 := Aside0.mk hk2
 have HK3 := Aside0.mk hk3
 have HQ := Aside0.mk (HeldR.of hk1)
 have HR1 := Aside0.mk (Kd.C_below hr1_2 hb3)
 have HR2 := Aside0.mk (Kd.C_below hr2 hb3)
 obtain ⟨q0, q1, q2⟩ := HQ.out
 have HFH := Aside0.mk (isFn_func Tryd.func52 (by kernel_rfl) rfl (.agg #[.int .i64 a0_0, .int .i64 a0_1, .int .i64 a0_2, .int .u64 a0_3, .int .u64 a0_4, .int .u64 a0_5]) : IsFn Tryd.prog (.func (.func 52) #[.agg #[.int .i64 a0_0, .int .i64 a0_1, .int .i64 a0_2, .int .u64 a0_3, .int .u64 a0_4, .int .u64 a0_5]] #[]) 52 (.agg #[.int .i64 a0_0, .int .i64 a0_1, .int .i64 a0_2, .int .u64 a0_3, .int .u64 a0_4, .int .u64 a0_5]))
 clear hb3 hs3 hk0 hk1 hk2 hk3 hr1_2 hr2
 go_enter Tryd.func23, Tryd.ntmps23
 go_upto_region 2 with (fail)
 rw [← hw3]
 clear hw3
 have HGF := Aside0.mk (show w.heap.size ≤ w.heap.size + 1 + 1 + 1 by omega)
 have HGR := Aside0.mk (show w.heap.size ≤ w.heap.size + 1 + 1 by omega)
 have HGA := Aside0.mk (show w.heap.size + 1 < w3.heap.size by rw [HS3.out]; omega)
 have HW3 := Aside0.mk (show w.heap.size ≤ w3.heap.size by rw [HS3.out]; omega)
 generalize hgw : w.heap.size = gw at *
 have HGW := Aside0.mk hgw
 clear hgw HS3
 generalize gw + 1 + 1 + 1 = gf at *
 generalize gw + 1 + 1 = gr at *
 generalize gw + 1 = ga at *
 go_region_held3 (fun w' => w'.cell? ⟨ga, 0, none⟩ = some (.int .u64 a1_0) ∧ w'.cell? ⟨ga, 1, none⟩ = some (.int .u64 (m0 : Int)) ∧ w'.cell? ⟨ga, 2, none⟩ = some (.slice A1_2 l1_2.length c1_2)) (first | exact HS7.out | exact HS6.out | go_keep)
  (first
   | (go_at_call 46; (with_reducible refine (impl_texts.calls k A1_2 c1_2 l1_2 x _ ?side1 HC1.out HX.out).mono ?_); (case side1 => first | exact HR1.out | exact Kd.C_drew HR1.out | exact Kd.C_drewN HR1.out _); rintro e' w6 ⟨v6, rfl, hS6, hB6⟩; have hR6 := Kd.S_R hS6; obtain ⟨A6, c6, rfl⟩ := Kd.R_slice hR6; have hb6 : Below w3.heap.size w3 w6 := (by first | exact hB6 | exact below_step (below_drew (Below.refl _ _)) hB6 | exact below_step (pw_below_drewN (Below.refl _ _) _) hB6); have HB6 := Aside0.mk hb6; have HS6 := Aside0.mk (HQ.out.below hb6 HGA.out); have HX6 := Aside0.mk hR6; clear hS6 hB6 hb6 hR6)
   | (go_at_call 53; (with_reducible refine (compact_NewRange.good _ a1_0 (m0 : Int) A6 x.length c6 _ HBE.out HSZ.out).mono ?_); rintro e' w7 ⟨g7, rfl, hg7, hR7, hB7⟩; have HX7 := Aside0.mk (Kd.R_lower (by first | exact Kd.R_below HX6.out hB7 | exact Kd.R_below (Kd.R_drew HX6.out) hB7 | exact Kd.R_below (Kd.R_drewN HX6.out _) hB7) HW3.out : (Kd.slice 5 (Kd.int .u8)).R 27 w7 gw (fun _ => True) (.slice A6 x.length c6) x); have HB7 := Aside0.mk (by first | exact below_step HB6.out hB7 | exact below_step (below_drew HB6.out) hB7 | exact below_step (pw_below_drewN HB6.out _) hB7 : Below w3.heap.size w3 w7); have HS7 := Aside0.mk (HQ.out.below HB7.out HGA.out); have HR7 := Aside0.mk hR7; have HG7 := Aside0.mk (Nat.le_trans HW3.out (Nat.le_trans HB6.out.size (by first | exact hg7 | exact Nat.le_trans (Nat.le_refl _) hg7))); clear hB7 hR7 hg7))
 all_goals
  clear q0 q1 q2 HQ HS7 HS6 HX6 HGA
  have HW7 := Aside0.mk (Nat.le_trans HW3.out HB7.out.size)
  have HBg := Aside0.mk (show Below gw w w7 from (HB3.out.trans (HB7.out.mono HW3.out)))
  have HR27 := Aside0.mk (Kd.C_below HR2.out HB7.out)
  have HK27 := Aside0.mk (blk_below HK2.out HB7.out)
  have HK37 := Aside0.mk (blk_below HK3.out HB7.out)
  clear HB6
  go_wp2_with (first
   | ((with_reducible refine gate_dst (N := 12) rfl ?_); refine box_event ?hg (N := 12) ?hd (cs := #[.slice none 0 0]) (t := 42) ?hr ?_; (case hd => rfl); (case hg => rfl); (case hr => first | (go_simp; done) | (go_simp; rfl)); intro gb hgb w8 hbox hb; have HB8 := Aside0.mk hb; have HX8 := Aside0.mk hbox; have HGB := Aside0.mk (show gw ≤ gb by rw [hgb]; exact HW7.out); clear hb hbox hgb)
   | (go_at_call 46; (with_reducible refine (impl_texts.calls k A2 c2 l2 y _ ?side1 HC2.out HY.out).mono ?_); (case side1 => exact Kd.C_below HR27.out HB8.out); rintro e' w9 ⟨v9, rfl, hS9, hB9⟩; obtain ⟨A9, c9, rfl⟩ := Kd.S_slice hS9; have HS9 := Aside0.mk hS9; have HB9 := Aside0.mk hB9; clear hS9 hB9))
  have HB79 := Aside0.mk (HB8.out.trans (HB9.out.mono HB8.out.size))
  have HV9 := Aside0.mk (show Vs w9 gw gb [] from ⟨.slice none 0 0, blk_below HX8.out HB9.out, Kd.R_nil _ _ _ _ _⟩)
  have HG9 := Aside0.mk (RgB.below HR7.out HB79.out)
  have HX9 := Aside0.mk (Kd.R_below HX7.out HB79.out)
  have HW8 := Aside0.mk (Nat.le_trans HW7.out HB8.out.size)
  have HY9 := Aside0.mk (Kd.R_mono (ok' := fun k_ => some k_ ≠ (Value.slice A6 x.length c6).ownBlock) (Kd.R_lower (Kd.R_new' (Kd.S_R HS9.out) (Kd.R_lt (Kd.R_below HX7.out HB8.out))) HW8.out) (fun _ h_ => h_.2))
  have HK29 := Aside0.mk (blk_below HK27.out HB79.out)
  have HK39 := Aside0.mk (blk_below HK37.out HB79.out)
  have HBg9 := Aside0.mk (HBg.out.trans (HB79.out.mono HW7.out))
  have HW9 := Aside0.mk (Nat.le_trans HW8.out HB9.out.size)
  unfold RgB at HG9
  clear HB3 HR1 HR2 HX7 HR7 HS9 HR27 HK27 HK37 HBg HK2 HK3 HX8 HB9 HB8 HB79 HB7
  generalize Value.slice A6 x.length c6 = v6 at HG9 HX9 HY9
  go_loopg [11, 14, 38] (y.length + 1) (fun kq v11 v14 v38 w' => ∃ (i m : Nat) (L : List (List Int)) (vis : List S60) (v : Value), v11 = .nilIface ∧ v38 = .int .i64 (i : Int) ∧ Aside0 (kq = y.length - i + 1) ∧ Aside0 (i ≤ y.length) ∧ Aside0 (rgFold k a0_0 a0_1 a0_2 a0_3 a0_4 a0_5 a1_0 m L vis (y.drop i) = some (m1, L1, vis1))
   ∧ Aside0 (w'.heap[g7]? = some (.cells #[.pointer (some ⟨gf, 0, none⟩), .int .u64 a1_0, .int .u64 (m : Int), v] 157 (0, 0))) ∧ Aside0 ((Kd.slice 5 (Kd.int .u8)).R 27 w' gw (fun _ => True) v L) ∧ Aside0 (Vs w' gw gb vis) ∧ Aside0 (Below gw w w')
   ∧ Aside0 ((Kd.slice 5 (Kd.int .u8)).R 27 w' gw (fun k_ => some k_ ≠ v.ownBlock) (.slice A9 y.length c9) y)
   ∧ Aside0 (w'.heap[gf]? = some (.cells #[.func (.func 52) #[.agg #[.int .i64 a0_0, .int .i64 a0_1, .int .i64 a0_2, .int .u64 a0_3, .int .u64 a0_4, .int .u64 a0_5]] #[]] 101 (0, 0)))
   ∧ Aside0 (w'.heap[gr]? = some (.cells #[.int .u64 0, .int .u64 0, .slice none 0 0] 39 (0, 0))))
  case atStart => exact ⟨0, m0, x, [], v6, rfl, rfl, ⟨rfl⟩, ⟨Nat.zero_le _⟩, ⟨by rw [List.drop_zero]; exact HFO.out⟩, HG9, HX9, HV9, HBg9, HY9, HK39, HK29⟩
  case round =>
   clear HFO HG9 HX9 HV9 HBg9 HY9 HK39 HK29
   obtain ⟨i, m, L, vis, v, rfl, rfl, HQ, HI, HF, HG, HX, HV, HB, HY, HK3, HK2⟩ := hrel
   have hF := HF.out
   clear HF
   by_cases c1 : i < y.length
   ·rw [List.drop_eq_getElem_cons c1, rgFold] at hF
    obtain ⟨leaf, hlf⟩ : ∃ leaf, leaf = y[i] := ⟨_, rfl⟩
    rw [← hlf] at hF
    by_cases c2 : leaf.length < 140737488355328 ∧ vis.length < 1000000 ∧ m + 1 < 18446744073709551616
    case neg => rw [if_neg c2] at hF; exact absurd hF (by simp)
    rw [if_pos c2] at hF
    obtain ⟨r, hr, hF⟩ := Option.bind_eq_some_iff.mp hF
    obtain ⟨c2, c3, c4⟩ := c2
    have hwm : IntKind.u64.wrap ((m : Int) + 1) = ((m + 1 : Nat) : Int) := by rw [show (m : Int) + 1 = ((m + 1 : Nat) : Int) by omega]; exact IntWalk.u64_in _ ⟨by omega, by omega⟩
    have hYt := Kd.R_mono (ok' := fun _ => True) HY.out (fun _ _ => trivial)
    obtain ⟨gh, cg, eA, hBg, hgl, cells, hcl⟩ := row_form2 hYt (by omega)
    obtain ⟨rfl, rfl⟩ : A9 = some ⟨gh, 0, none⟩ ∧ c9 = cg := by injection eA with e1 e2 e3; exact ⟨e1, e3⟩
    obtain ⟨Ae, de, ecx, hE⟩ := row_elem2 hYt i c1
    rw [show y.getD i [] = leaf by rw [hlf]; simp [c1]] at ecx hE
    have HE := Aside0.mk hE
    have HF := Aside0.mk hF
    have HRR := Aside0.mk (show rgApp k a0_0 a0_1 a0_2 a0_3 a0_4 a0_5 a1_0 m (IntKind.u64.wrap ((m : Int) + 1)) L leaf [] (vis ++ [⟨⟨0, (m : Int)⟩, leaf⟩]) = some r by rw [hwm]; exact hr)
    have HWM := Aside0.mk hwm
    have HC2 := Aside0.mk c2
    have HC3 := Aside0.mk c3
    have j0 : (0 : Int) ≤ (i : Int) := by omega
    have j1 : (i : Int) < (y.length : Int) := by omega
    have HC1' := Aside0.mk c1
    clear hF hr hYt eA hBg hgl hcl hE c2 c3 c4 hlf hwm
    go_wp2_with (go_at_call 54; (with_reducible refine (compact_Range_Append.calls k a0_0 a0_1 a0_2 a0_3 a0_4 a0_5 gw g7 gf gb _ _ a1_0 m v L Ae de leaf vis r _ ?s1 HG.out HG7.out HK3.out HFH.out ?s2 HV.out ?s3 HX.out HE.out HC2.out HC3.out HRR.out).mono ?_); (case s1 => exact fun W hW => TabOK.below HT.out (by rw [HGW.out]; exact HB.out.trans hW)); (case s2 => exact vst_append gw gb HGB.out); (case s3 => rw [← HGW.out]; exact (HGW.out.symm ▸ HB.out : Below w.heap.size w wr).size); rintro e' w10 ⟨rfl, v10, h1, h2, h3, h4, h5, h6⟩; have K1 := Aside0.mk h1; have K2 := Aside0.mk h2; have K3 := Aside0.mk h3; have K4 := Aside0.mk h4; have K5 := Aside0.mk h5; have K6 := Aside0.mk h6; clear h1 h2 h3 h4 h5 h6)
    have hwi : wrap64 ((i : Int) + 1) = ((i + 1 : Nat) : Int) := by
     have := (Kd.R_reads' HY.out).2.2.2.1
     unfold wrap64
     omega
    go_roundg (y.length - (i + 1) + 1)
    case measure => have := HQ.out; have := HC1'.out; omega
    case rel =>
     refine ⟨i + 1, m + 1, r.1, r.2, v10, rfl, by rw [hwi], ⟨rfl⟩, ⟨HC1'.out⟩, HF, ⟨?_⟩, K2, K3, ⟨HB.out.trans K4.out⟩, ⟨leaves_kept K5.out HG.out HY.out K6.out⟩, ⟨blk_kept' K5.out HG.out HX.out HK3.out (by decide) (by decide) (by decide) (by decide)⟩, ⟨blk_kept' K5.out HG.out HX.out HK2.out (by decide) (by decide) (by decide) (by decide)⟩⟩
     have := K1.out
     rw [HWM.out] at this
     exact this
   ·have hi : i = y.length := by have := HI.out; omega
    subst hi
    rw [List.drop_length, rgFold] at hF
    obtain ⟨rfl, rfl, rfl⟩ : m = m1 ∧ L = L1 ∧ vis = vis1 := by simpa using hF
    clear hF
    go_upto_region 13 with (fail)
    obtain ⟨vs, hvb, hvR⟩ := HV.out
    obtain ⟨Av, cv, rfl⟩ := Kd.R_slice hvR
    obtain ⟨AL, cL, rfl⟩ := Kd.R_slice HX.out
    have HVB := Aside0.mk hvb
    have HVR := Aside0.mk hvR
    have qs : wr.cell? ⟨gb, 0, none⟩ = some (.slice Av vis.length cv) := (blk_cell hvb 0).trans rfl
    have hgr := HK2.out
    have hne : ¬ gr = gb := blk_ne hgr hvb (by decide)
    have HNE := Aside0.mk hne
    have HXC := Aside0.mk (Kd.R_reads' HX.out).2
    clear hvb hvR hgr
    go_region_held3 (fun w' => w'.cell? ⟨gb, 0, none⟩ = some (.slice Av vis.length cv)) (first | exact HS7.out | exact qs | (exact cell_far (cell_far (cell_far HS7.out HNE.out) HNE.out) HNE.out) | go_keep)
     (first
      | (go_at_call 57; (with_reducible refine (impl_fromRange.calls k g7 (.pointer (some ⟨gf, 0, none⟩)) a1_0 (m : Int) AL cL L z _ ?s1 ?s2 HXC.out.1 HZ.out).mono ?_); (case s1 => exact (show wr.drew.heap[g7]? = _ from HG.out)); (case s2 => exact Kd.C_drew HXC.out.2); rintro e' w7 ⟨v7, rfl, hS7, hB7⟩; obtain ⟨A7, c7, rfl⟩ := Kd.S_slice hS7; have hb7 := below_step (below_drew (Below.refl wr.heap.size wr)) hB7; have HB7 := Aside0.mk hb7; have HR7 := Aside0.mk hS7; have hk7 := blk_below HK2.out hb7; have HK7 := Aside0.mk hk7; have HS7 := Aside0.mk (show w7.cell? ⟨gb, 0, none⟩ = some (.slice Av vis.length cv) from (blk_cell (blk_below HVB.out hb7) 0).trans rfl); have fz0 := blk_frozen hk7 0; have fz1 := blk_frozen hk7 1; have fz2 := blk_frozen hk7 2; have cl0 : w7.cell? ⟨gr, 0, none⟩ = some (.int .u64 0) := (blk_cell hk7 0).trans rfl; have cl1 : w7.cell? ⟨gr, 1, none⟩ = some (.int .u64 0) := (blk_cell hk7 1).trans rfl; have cl2 : w7.cell? ⟨gr, 2, none⟩ = some (.slice none 0 0) := (blk_cell hk7 2).trans rfl; clear hS7 hB7 hb7 hk7))
    all_goals
     go_wp2
     have b0 := blk_put HK7.out 0 (.int .u64 a1_0) rfl
     have b1 := blk_put b0 1 (.int .u64 (m : Int)) rfl
     have b2 := blk_put b1 2 (.slice A7 z.length c7) rfl
     refine bodyPost_ret (results_list (rs := [.cell 6 39, .tmp 7, .tmp 8]) rfl (by simp) (.cell gr 39 #[.int .u64 a1_0, .int .u64 (m : Int), .slice A7 z.length c7] (0, 0) _ rfl b2 Tryd.underlying39 rfl (by kernel_rfl) (.tmp (.tmp .nil)))) rfl ?_
     have hgw := HGW.out
     subst hgw
     have hwr : w.heap.size ≤ wr.heap.size := HB.out.size
     exact ⟨_, _, rfl, Kd.S_lower (Kd.S_set (Kd.S_set (Kd.S_set HR7.out HK7.out (by decide) 0 _) b0 (by decide) 1 _) b1 (by decide) 2 _) hwr,
      Kd.R_set (Kd.R_set (Kd.R_set (Kd.R_below HVR.out HB7.out) HK7.out (by decide) 0 _) b0 (by decide) 1 _) b1 (by decide) 2 _,
      (((HB.out.trans (HB7.out.mono hwr)).setCell HGR.out _).setCell HGR.out _).setCell HGR.out _⟩


/-! ### spec_Named: function 58 -/
def spec_Named.l0 : Nat → List (S60) → List (S54) → Int → Int → Int → Int → List (List Int) → Option ((List (S60)))
 | 0, _, _, _, _, _, _, _ => none
 | k + 1, x3, x11, x12, x13, x145000, x145001, x145002 => if x13 < x12 then (if 0 ≤ x13 then (if x13 < (x11.length : Int) then (if x13 < (x145002.length : Int) then (if x3.length < 3518437208883 then (spec_Named.l0 k (x3 ++ [(⟨(⟨(rd_T54 x11 x13).f0, (rd_T54 x11 x13).f1⟩ : S54), rd_L1 x145002 x13⟩ : S60)]) x11 x12 (wrap64 (x13 + 1)) x145000 x145001 x145002) else (none)) else (none)) else (none)) else (none)) else (some x3)
def spec_Named.f (k : Nat) (a0_0 : Int) (a0_1 : Int) (l0_2 : List (List Int)) : Option ((List (S60))) := (spec_Nodes.f k a0_0 a0_1).bind fun t145 => (spec_Named.l0 k ([] : List (S60)) t145 (t145.length : Int) 0 a0_0 a0_1 l0_2)
theorem spec_Named.mono_l : ∀ k, (∀ y0 y1 y2 y3 y4 y5 y6, LeO (spec_Named.l0 k y0 y1 y2 y3 y4 y5 y6) (spec_Named.l0 (k + 1) y0 y1 y2 y3 y4 y5 y6))
 | 0 => fun _ _ _ _ _ _ _ r h => by simp [spec_Named.l0] at h
 | k + 1 => by
  have ih0 := spec_Named.mono_l k
  ·intro y0 y1 y2 y3 y4 y5 y6
   unfold spec_Named.l0
   repeat' first
   | (with_reducible exact ih0 _ _ _ _ _ _ _)
   | (with_reducible exact spec_Nodes.mono _ _ _)
   | (with_reducible exact LeO.refl _)
   | (with_reducible exact LeO.none _)
   | (with_reducible refine LeO.ite ?_ ?_)
   | (with_reducible refine LeO.bind ?_ (fun _ => ?_))
   | exact ih0 _ _ _ _ _ _ _
   | exact spec_Nodes.mono _ _ _
   | exact LeO.none _
   | refine LeO.ite ?_ ?_
   | refine LeO.bind ?_ (fun _ => ?_)
theorem spec_Named.mono : ∀ a0 a1 a2 k, LeO (spec_Named.f k a0 a1 a2) (spec_Named.f (k + 1) a0 a1 a2) := by
 intro a0 a1 a2 k
 have ih0 := spec_Named.mono_l k
 unfold spec_Named.f
 repeat' first
   | (with_reducible exact ih0 _ _ _ _ _ _ _)
   | (with_reducible exact spec_Nodes.mono _ _ _)
   | (with_reducible exact LeO.refl _)
   | (with_reducible exact LeO.none _)
   | (with_reducible refine LeO.ite ?_ ?_)
   | (with_reducible refine LeO.bind ?_ (fun _ => ?_))
   | exact ih0 _ _ _ _ _ _ _
   | exact spec_Nodes.mono _ _ _
   | exact LeO.none _
   | refine LeO.ite ?_ ?_
   | refine LeO.bind ?_ (fun _ => ?_)
def spec_Named.T5 : Bool × List (List Nat × List Nat) := (true, [([], []), ([], []), ([], []), ([2], [2]), ([], []), ([3, 4], [3, 4]), ([5], [5]), ([1, 6], [1, 6]), ([7], [7]), ([0, 8], [0, 8]), ([9, 9, 0, 1, 2, 3, 4, 5, 6, 7, 8, 9], [0, 9])])
def spec_Named.B5 : List Nat := [0, 0, 0, 4, 0, 28, 60, 126, 254, 511, 1023]
theorem spec_Named.tab5 : rtab .any (opsOf Tryd.f58 5) = spec_Named.T5 := by kernel_rfl
theorem spec_Named.bits5 : waitsOk spec_Named.T5.2 spec_Named.B5 = true := by kernel_rfl
set_option maxHeartbeats 8000000 in
set_option maxRecDepth 100000 in
theorem spec_Named.calls (k : Nat) (a0_0 : Int) (a0_1 : Int) (P0_2_ : Nat → Prop) (A0_2 : Option Addr) (c0_2 : Nat) (l0_2 : List (List Int)) (r : List (S60)) (w : World) (hs0_2 : Kd.V (Kd.slice 5 (Kd.int .u8)) 27 w w.heap.size (fun k_ => P0_2_ k_) (.slice A0_2 l0_2.length c0_2) l0_2) (h : spec_Named.f k a0_0 a0_1 l0_2 = some r) :
  Calls Tryd.prog 58 #[.agg #[.int .u64 a0_0, .int .u64 a0_1, .slice A0_2 l0_2.length c0_2]] w fun e w' => ∃ v0_ : Value, e = .returned (v0_) ∧ Kd.N k60 60 w' w.heap.size (fun k_ => (P0_2_ k_ ∨ w.heap.size ≤ k_)) v0_ r ∧ Below w.heap.size w w' := by
 have hu39 := Tryd.underlying39
 have hu57 := Tryd.underlying57
 have hu54 := Tryd.underlying54
 have hu60 := Tryd.underlying60
 have HO0_2 := Aside0.mk (show Kd.V (Kd.slice 5 (Kd.int .u8)) 27 w w.heap.size (fun k_ => (P0_2_ k_ ∨ w.heap.size ≤ k_)) (.slice A0_2 l0_2.length c0_2) l0_2 from Kd.V_mono hs0_2 (fun k_ hk => .inl hk))
 have HB := Aside0.mk (Below.refl w.heap.size w)
 have H : ((spec_Nodes.f k a0_0 a0_1).bind fun t145 => (spec_Named.l0 k ([] : List (S60)) t145 (t145.length : Int) 0 a0_0 a0_1 l0_2)) = some r := h
 clear h
 replace H := Option.bind_eq_some_iff.mp H
 obtain ⟨t145, A20, H⟩ := H
 replace H : (spec_Named.l0 k ([] : List (S60)) t145 (t145.length : Int) 0 a0_0 a0_1 l0_2) = some r := H
 have A2 := Aside0.mk A20
 clear A20
 have H' := Aside0.mk H
 clear H
 go_enter Tryd.func58, Tryd.ntmps58
 go_wp2_with (first | ((with_reducible refine gate_dst (N := 1) rfl ?_); refine box_event ?hg (N := 1) ?hd (cs := #[.int .u64 a0_0, .int .u64 a0_1, .slice A0_2 l0_2.length c0_2]) (t := 39) ?hr ?_; (case hd => rfl); (case hg => rfl); (case hr => first | (go_simp; done) | (go_simp; rfl)); intro gb144 hg w3 hbox hb; have n0_ := Aside0.mk (Kd.V_below (Kd.V_elderB (kV HO0_2.out) gb144 (Nat.le_of_eq hg.symm)) hb); have n1_ := Aside0.mk (below_step bB hb); have n2_ := Aside0.mk (hbox); have n3_ := Aside0.mk ((by rw [hg]; exact (below_size bB) : w.heap.size ≤ gb144)); have n4_ := Aside0.mk ((by rw [hg]; exact (below_size bB) : w.heap.size ≤ gb144)); clear HO0_2; clear HB; have HO0_2 := n0_; have HB := n1_; have BK144 := n2_; have GW144 := n3_; have GE144 := n4_; clear n0_ n1_ n2_ n3_ n4_; clear hb hbox hg; have hcz4_0 : w3.cell? ⟨gb144, 0, none⟩ = some (.int .u64 a0_0) := (blk_cell BK144.out 0).trans rfl; have hcz4_1 : w3.cell? ⟨gb144, 1, none⟩ = some (.int .u64 a0_1) := (blk_cell BK144.out 1).trans rfl; have hcz4_2 : w3.cell? ⟨gb144, 2, none⟩ = some (.slice A0_2 l0_2.length c0_2) := (blk_cell BK144.out 2).trans rfl; have hfz4_0 := blk_frozen BK144.out 0; have hfz4_1 := blk_frozen BK144.out 1; have hfz4_2 := blk_frozen BK144.out 2) | ((with_reducible refine gate_callee (f := 63) rfl ?_); refine goesL_ (some 11) rfl rfl Tryd.func63 (by kernel_rfl) rfl #[.agg #[.int .u64 a0_0, .int .u64 a0_1]] rfl aV ?_; (with_reducible refine (spec_Nodes.calls k a0_0 a0_1 t145 _ A2.out).mono ?_); rintro e w5 ⟨v146, rfl, ho0, hb⟩; refine ⟨_, rfl, ?_⟩; have n0_ := Aside0.mk (Kd.V_elder' (kV HO0_2.out) (Kd.R_base ho0) hb); have n1_ := Aside0.mk (Kd.R_lower (Kd.R_newM (M := fun k_ => (w.heap.size ≤ k_)) ho0 (below_size bB) (fun k_ h_ => h_)) (below_size bB)); have n2_ := Aside0.mk (blk_below (g := gb144) (o := .cells #[.int .u64 a0_0, .int .u64 a0_1, .slice A0_2 l0_2.length c0_2] 39 (0, 0)) (kB BK144.out) hb); have n3_ := Aside0.mk (below_step bB hb); clear HO0_2; clear BK144; clear HB; have HO0_2 := n0_; have HO147 := n1_; have BK144 := n2_; have HB := n3_; clear n0_ n1_ n2_ n3_; (try clear hb); (try clear hb2); (try clear hk); (try clear hi); (try clear ho0); obtain ⟨Ao6, co6, eo6⟩ := Kd.R_slice HO147.out; subst eo6))
 go_loopg [3, 13] k (fun kq v3 v13 w' => ∃ (x3_1 : List (S60)) (x13_1 : Int), v13 = .int .i64 x13_1 ∧ Aside0 (spec_Named.l0 kq x3_1 t145 (t145.length : Int) x13_1 a0_0 a0_1 l0_2 = some r) ∧ Aside0 (kq ≤ k) ∧ Aside0 (Kd.N k60 60 w' w.heap.size (fun k_ => (P0_2_ k_ ∨ w.heap.size ≤ k_) ∧ some k_ ≠ ((.slice Ao6 t145.length co6) : Value).ownBlock ∧ k_ ≠ gb144) v3 x3_1) ∧ Aside0 (Kd.R k54 54 w' w.heap.size (fun k_ => (w.heap.size ≤ k_)) (.slice Ao6 t145.length co6) t145) ∧ Aside0 (Kd.V (Kd.slice 5 (Kd.int .u8)) 27 w' w.heap.size (fun k_ => (P0_2_ k_ ∨ w.heap.size ≤ k_) ∧ some k_ ≠ (v3 : Value).ownBlock ∧ some k_ ≠ ((.slice Ao6 t145.length co6) : Value).ownBlock ∧ k_ ≠ gb144) (.slice A0_2 l0_2.length c0_2) l0_2) ∧ Aside0 (w'.heap[gb144]? = some (.cells #[.int .u64 a0_0, .int .u64 a0_1, (.slice A0_2 l0_2.length c0_2)] 39 (0, 0))) ∧ Aside0 (Below w.heap.size w w'))
 case atStart => exact ⟨(([] : List (S60))), (0), (by first | rfl | (simp; done) | (simp [*]; done)), H', ⟨Nat.le_refl _⟩, ⟨by first | exact Kd.S_nil _ _ _ _ _ | exact Kd.N_nil _ _ _ _ _ | exact Kd.V_nil _ _ _ _ _ | exact Kd.Q_nil _ _ _ _ _ | exact Kd.R_nil _ _ _ _ _⟩, ⟨by (with_reducible repeat (first | apply Kd.R_alloc | apply Kd.R_drewN | apply Kd.R_drew)); exact Kd.R_mono HO147.out (fun _ hk => hk.1)⟩, ⟨by (with_reducible repeat (first | apply Kd.V_alloc | apply Kd.V_drewN | apply Kd.V_drew)); exact Kd.V_mono HO0_2.out (fun _ hk => ⟨hk.1.1, ⟨(by simp [Value.ownBlock]), ⟨hk.2, hk.1.2⟩⟩⟩)⟩, ⟨by (with_reducible repeat (first | refine blk_drewN ?_ _ | refine blk_drew ?_ | refine blk_alloc ?_ _)); exact BK144.out⟩, ⟨bB⟩⟩
 case round =>
  clear H'
  try clear p2
  try clear c5
  try clear c6
  try clear hcz4_0
  try clear hcz4_1
  try clear hcz4_2
  try clear hfz4_0
  try clear hfz4_1
  try clear hfz4_2
  obtain ⟨x3_1, x13_1, rfl, HA, HK1, HO_3, HO_11, HO_145002, BK144, HB⟩ := hrel
  cases gk with
  | zero => exact absurd HA.out (by simp [spec_Named.l0])
  | succ k1 =>
   have H := HA.out
   clear HA
   simp only [spec_Named.l0] at H
   by_cases c7 : x13_1 < (t145.length : Int)
   ·rw [if_pos c7] at H
    have c7b0 : decide (x13_1 < (t145.length : Int)) = true := decide_eq_true c7
    clear c7
    by_cases c8 : 0 ≤ x13_1
    ·rw [if_pos c8] at H
     have c8b0 : decide (0 ≤ x13_1) = true := decide_eq_true c8
     clear c8
     by_cases c9 : x13_1 < (t145.length : Int)
     ·rw [if_pos c9] at H
      have c9b0 : decide (x13_1 < (t145.length : Int)) = true := decide_eq_true c9
      clear c9
      by_cases c10 : x13_1 < (l0_2.length : Int)
      ·rw [if_pos c10] at H
       have c10b0 : decide (x13_1 < (l0_2.length : Int)) = true := decide_eq_true c10
       clear c10
       by_cases c11 : x3_1.length < 3518437208883
       ·rw [if_pos c11] at H
        have LMc11 := Aside0.mk c11
        clear c11
        obtain ⟨y151, hy151⟩ : ∃ y_ : List (S60), y_ = (x3_1 ++ [(⟨(⟨(rd_T54 t145 x13_1).f0, (rd_T54 t145 x13_1).f1⟩ : S54), rd_L1 l0_2 x13_1⟩ : S60)]) := ⟨_, rfl⟩
        replace H : (spec_Named.l0 k1 y151 t145 (t145.length : Int) (wrap64 (x13_1 + 1)) a0_0 a0_1 l0_2) = some r := by first | (rw [hy151]; with_reducible exact H) | (have H2_ := (Option.bind_some _ _).symm.trans H; rw [hy151]; with_reducible exact H2_) | (have H2_ := (Option.bind_some _ _).symm.trans H; with_reducible exact H2_) | with_reducible exact H | (rw [hy151]; exact H) | exact H
        have Ny151 := Aside0.mk hy151
        clear hy151
        have H' := Aside0.mk H
        clear H
        have p148 : 0 ≤ (x13_1 : Int) := dA
        have q148 : x13_1 < (t145.length : Int) := dA
        obtain ⟨ad148, e148, hx148_0, hx148_1⟩ := at_T54 (Kd.R_reads' HO_11.out).2.2 x13_1 p148 q148
        cases e148
        replace p148 := eq_true p148
        replace q148 := eq_true q148
        try go_wp2_with (first | ((with_reducible refine gate_dst (N := 5) rfl ?_); refine box_event ?hg (N := 5) ?hd (cs := #[.int .u64 0, .int .u64 0]) (t := 54) ?hr ?_; (case hd => rfl); (case hg => rfl); (case hr => first | (go_simp; done) | (go_simp; rfl)); intro gb149 hg w12 hbox hb; have n0_ := Aside0.mk (Kd.N_below (Kd.N_elderB (by (with_reducible repeat (first | apply Kd.N_alloc | apply Kd.N_drewN | apply Kd.N_drew)); exact HO_3.out) gb149 (Nat.le_of_eq hg.symm)) hb); have n1_ := Aside0.mk (Kd.R_below (Kd.R_elderB (kR HO_11.out) gb149 (Nat.le_of_eq hg.symm)) hb); have n2_ := Aside0.mk (Kd.V_below (Kd.V_elderB (kV HO_145002.out) gb149 (Nat.le_of_eq hg.symm)) hb); have n3_ := Aside0.mk (blk_below (g := gb144) (o := .cells #[.int .u64 a0_0, .int .u64 a0_1, .slice A0_2 l0_2.length c0_2] 39 (0, 0)) (kB BK144.out) hb); have n4_ := Aside0.mk (below_step bB hb); have n5_ := Aside0.mk (hbox); have n6_ := Aside0.mk ((by rw [hg]; exact (below_size bB) : w.heap.size ≤ gb149)); have n7_ := Aside0.mk ((by rw [hg]; exact (below_size bB) : w.heap.size ≤ gb149)); have n8_ := Aside0.mk ((by rw [hg]; exact Nat.ne_of_lt (blk_lt (g := gb144) (o := .cells #[.int .u64 a0_0, .int .u64 a0_1, .slice A0_2 l0_2.length c0_2] 39 (0, 0)) (kB BK144.out)) : gb144 ≠ gb149)); have n9_ := Aside0.mk ((by rw [hg]; exact Nat.ne_of_gt (blk_lt (g := gb144) (o := .cells #[.int .u64 a0_0, .int .u64 a0_1, .slice A0_2 l0_2.length c0_2] 39 (0, 0)) (kB BK144.out)) : gb149 ≠ gb144)); clear HO_3; clear HO_11; clear HO_145002; clear BK144; clear HB; have HO_3 := n0_; have HO_11 := n1_; have HO_145002 := n2_; have BK144 := n3_; have HB := n4_; have BK149 := n5_; have GW149 := n6_; have GE149 := n7_; have NB144_149 := n8_; have NB149_144 := n9_; clear n0_ n1_ n2_ n3_ n4_ n5_ n6_ n7_ n8_ n9_; clear hb hbox hg; have hnb13 := NB149_144.out; have hnc13 := NB144_149.out; have hcz14_0 : w12.cell? ⟨gb149, 0, none⟩ = some (.int .u64 0) := (blk_cell BK149.out 0).trans rfl; have hcz14_1 : w12.cell? ⟨gb149, 1, none⟩ = some (.int .u64 0) := (blk_cell BK149.out 1).trans rfl; have hfz14_0 := blk_frozen BK149.out 0; have hfz14_1 := blk_frozen BK149.out 1))
        have n0_ : Aside0 (Kd.N k60 60 ((w12.setCell ⟨gb149, 0, none⟩ (.int .u64 ((rd_T54 t145 x13_1).f0))).setCell ⟨gb149, 1, none⟩ (.int .u64 ((rd_T54 t145 x13_1).f1))) w.heap.size (fun k_ => (P0_2_ k_ ∨ w.heap.size ≤ k_) ∧ some k_ ≠ (.slice (some ad148) t145.length co6 : Value).ownBlock ∧ k_ ≠ gb144 ∧ k_ ≠ gb149) u3 x3_1) := ⟨by (with_reducible repeat (first | apply Kd.N_alloc | apply Kd.N_drewN | apply Kd.N_drew)); exact Kd.N_mono (Kd.N_far (p := ⟨gb149, 1, none⟩) (Kd.N_far (p := ⟨gb149, 0, none⟩) (Kd.N_mono HO_3.out (fun k_ hk => (⟨hk, hk.2⟩ : _ ∧ k_ ≠ gb149))) (fun _ hk => hk.2) (.int .u64 ((rd_T54 t145 x13_1).f0))) (fun _ hk => hk.2) (.int .u64 ((rd_T54 t145 x13_1).f1))) (fun _ hk => ⟨hk.1.1.1, ⟨hk.1.1.2.1, ⟨hk.1.1.2.2, hk.1.2⟩⟩⟩)⟩
        have n1_ : Aside0 (Kd.R k54 54 ((w12.setCell ⟨gb149, 0, none⟩ (.int .u64 ((rd_T54 t145 x13_1).f0))).setCell ⟨gb149, 1, none⟩ (.int .u64 ((rd_T54 t145 x13_1).f1))) w.heap.size (fun k_ => (w.heap.size ≤ k_) ∧ k_ ≠ gb149) (.slice (some ad148) t145.length co6) t145) := ⟨by (with_reducible repeat (first | apply Kd.R_alloc | apply Kd.R_drewN | apply Kd.R_drew)); exact Kd.R_mono (Kd.R_far (p := ⟨gb149, 1, none⟩) (Kd.R_far (p := ⟨gb149, 0, none⟩) (Kd.R_mono HO_11.out (fun k_ hk => (⟨hk, hk.2⟩ : _ ∧ k_ ≠ gb149))) (fun _ hk => hk.2) (.int .u64 ((rd_T54 t145 x13_1).f0))) (fun _ hk => hk.2) (.int .u64 ((rd_T54 t145 x13_1).f1))) (fun _ hk => ⟨hk.1.1, hk.1.2⟩)⟩
        have n2_ : Aside0 (Kd.V (Kd.slice 5 (Kd.int .u8)) 27 ((w12.setCell ⟨gb149, 0, none⟩ (.int .u64 ((rd_T54 t145 x13_1).f0))).setCell ⟨gb149, 1, none⟩ (.int .u64 ((rd_T54 t145 x13_1).f1))) w.heap.size (fun k_ => (P0_2_ k_ ∨ w.heap.size ≤ k_) ∧ some k_ ≠ (u3 : Value).ownBlock ∧ some k_ ≠ (.slice (some ad148) t145.length co6 : Value).ownBlock ∧ k_ ≠ gb144 ∧ k_ ≠ gb149) (.slice A0_2 l0_2.length c0_2) l0_2) := ⟨by (with_reducible repeat (first | apply Kd.V_alloc | apply Kd.V_drewN | apply Kd.V_drew)); exact Kd.V_mono (Kd.V_far (p := ⟨gb149, 1, none⟩) (Kd.V_far (p := ⟨gb149, 0, none⟩) (Kd.V_mono HO_145002.out (fun k_ hk => (⟨hk, hk.2⟩ : _ ∧ k_ ≠ gb149))) (fun _ hk => hk.2) (.int .u64 ((rd_T54 t145 x13_1).f0))) (fun _ hk => hk.2) (.int .u64 ((rd_T54 t145 x13_1).f1))) (fun _ hk => ⟨hk.1.1.1, ⟨hk.1.1.2.1, ⟨hk.1.1.2.2.1, ⟨hk.1.1.2.2.2, hk.1.2⟩⟩⟩⟩)⟩
        have n3_ : Aside0 (((w12.setCell ⟨gb149, 0, none⟩ (.int .u64 ((rd_T54 t145 x13_1).f0))).setCell ⟨gb149, 1, none⟩ (.int .u64 ((rd_T54 t145 x13_1).f1))).heap[gb144]? = some (.cells #[.int .u64 a0_0, .int .u64 a0_1, .slice A0_2 l0_2.length c0_2] 39 (0, 0))) := ⟨by (with_reducible repeat (first | refine blk_drewN ?_ _ | refine blk_drew ?_ | refine blk_alloc ?_ _)); refine blk_far ?_ NB144_149.out _; (with_reducible repeat (first | refine blk_drewN ?_ _ | refine blk_drew ?_ | refine blk_alloc ?_ _)); refine blk_far ?_ NB144_149.out _; (with_reducible repeat (first | refine blk_drewN ?_ _ | refine blk_drew ?_ | refine blk_alloc ?_ _)); exact BK144.out⟩
        have n4_ : Aside0 (((w12.setCell ⟨gb149, 0, none⟩ (.int .u64 ((rd_T54 t145 x13_1).f0))).setCell ⟨gb149, 1, none⟩ (.int .u64 ((rd_T54 t145 x13_1).f1))).heap[gb149]? = some (.cells #[.int .u64 ((rd_T54 t145 x13_1).f0), .int .u64 ((rd_T54 t145 x13_1).f1)] 54 (0, 0))) := ⟨by (with_reducible repeat (first | refine blk_drewN ?_ _ | refine blk_drew ?_ | refine blk_alloc ?_ _)); refine blk_put (cs := #[.int .u64 ((rd_T54 t145 x13_1).f0), .int .u64 0]) ?_ 1 _ rfl; (with_reducible repeat (first | refine blk_drewN ?_ _ | refine blk_drew ?_ | refine blk_alloc ?_ _)); refine blk_put (cs := #[.int .u64 0, .int .u64 0]) ?_ 0 _ rfl; (with_reducible repeat (first | refine blk_drewN ?_ _ | refine blk_drew ?_ | refine blk_alloc ?_ _)); exact BK149.out⟩
        have n5_ : Aside0 (Below w.heap.size w ((w12.setCell ⟨gb149, 0, none⟩ (.int .u64 ((rd_T54 t145 x13_1).f0))).setCell ⟨gb149, 1, none⟩ (.int .u64 ((rd_T54 t145 x13_1).f1)))) := ⟨bB⟩
        (try clear HO_3)
        (try clear HO_11)
        (try clear HO_145002)
        (try clear BK144)
        (try clear BK149)
        (try clear HB)
        generalize ((w12.setCell ⟨gb149, 0, none⟩ (.int .u64 ((rd_T54 t145 x13_1).f0))).setCell ⟨gb149, 1, none⟩ (.int .u64 ((rd_T54 t145 x13_1).f1))) = w15 at n0_ n1_ n2_ n3_ n4_ n5_ ⊢
        have HO_3 := n0_
        have HO_11 := n1_
        have HO_145002 := n2_
        have BK144 := n3_
        have BK149 := n4_
        have HB := n5_
        clear n0_ n1_ n2_ n3_ n4_ n5_
        have n0_ := Aside0.mk (Kd.N_drew HO_3.out)
        have n1_ := Aside0.mk (Kd.R_drew HO_11.out)
        have n2_ := Aside0.mk (Kd.V_drew HO_145002.out)
        have n3_ := Aside0.mk (blk_drew BK144.out)
        have n4_ := Aside0.mk (blk_drew BK149.out)
        have n5_ := Aside0.mk (below_drew1 HB.out)
        clear HO_3
        clear HO_11
        clear HO_145002
        clear BK144
        clear BK149
        clear HB
        have HO_3 := n0_
        have HO_11 := n1_
        have HO_145002 := n2_
        have BK144 := n3_
        have BK149 := n4_
        have HB := n5_
        clear n0_ n1_ n2_ n3_ n4_ n5_
        have p150 : 0 ≤ (x13_1 : Int) := dA
        have q150 : x13_1 < (l0_2.length : Int) := dA
        obtain ⟨ad150, A150_0, c150_0, e150, hx150_0, hl150_0, hi150_0⟩ := at_L1 (Kd.V_reads' HO_145002.out).2.2 x13_1 p150 q150
        cases e150
        obtain ⟨ce150, hce150, hMe150, hcc150⟩ := Kd.V_get HO_145002.out [] x13_1 p150 (by first | exact q150 | exact dA | (have e_ := (Kd.V_reads' HO_145002.out).1; omega))
        obtain ⟨ua150_0, uc150_0, rfl, ul150_0, ge150_0⟩ := Kd.FK_slice_open hMe150
        have hv150_0 := hcc150 0 _ rfl
        rw [Nat.add_zero, show ((Kd.slice 5 (Kd.int .u8))).sz = 1 from rfl, Nat.mul_one] at hv150_0
        replace hv150_0 := Option.some.inj (hv150_0.symm.trans hx150_0)
        injection hv150_0 with hva_ hvn_ hvc_
        rw [hva_] at ge150_0
        rw [hvc_] at ul150_0
        have HL150_0 := Aside0.mk (show Kd.V (Kd.int .u8) 5 _ w.heap.size _ _ (rd_L1 l0_2 x13_1) from Kd.V_mk ul150_0 ge150_0)
        clear hva_ hvn_ hvc_ ge150_0 ul150_0
        clear hcc150 hce150
        have HR150_0 := Aside0.mk hi150_0
        have HC150_0 := Aside0.mk hl150_0
        clear hi150_0 hl150_0
        replace p150 := eq_true p150
        replace q150 := eq_true q150
        refine start_ (n := 11) (S := fun w' => w'.cell? ⟨gb149, 0, none⟩ = some (.int .u64 ((rd_T54 t145 x13_1).f0)) ∧ w'.cell? ⟨gb149, 1, none⟩ = some (.int .u64 ((rd_T54 t145 x13_1).f1)) ∧ w'.cell? ⟨gb144, 0, none⟩ = some (.int .u64 a0_0) ∧ w'.cell? ⟨gb144, 1, none⟩ = some (.int .u64 a0_1) ∧ w'.cell? ⟨gb144, 2, none⟩ = some (.slice (some ad150) l0_2.length c0_2) ∧ w'.cell? (ad150.add (x13_1).toNat) = some (.slice A150_0 (rd_L1 l0_2 x13_1).length c150_0)) (ds := [8, 9]) #[false, false, false, false, false, false, false, false, false, false, false] (by kernel_rfl) rfl rfl ⟨(blk_cell BK149.out 0).trans rfl, (blk_cell BK149.out 1).trans rfl, (blk_cell BK144.out 0).trans rfl, (blk_cell BK144.out 1).trans rfl, (blk_cell BK144.out 2).trans rfl, hx150_0⟩ (fun hHeld => ?_); refine with_tabW spec_Named.tab5 spec_Named.bits5 (fun HT_ HW_ => ?_)
        generalize w15.drew = w16 at HO_3 HO_11 HO_145002 BK144 BK149 HB HL150_0 HR150_0 hx150_0 hHeld ⊢
        refine pure_ (i := 0) (N := some 18) (v := ?_) (a' := ?_) #[true, false, false, false, false, false, false, false, false, false, false] rfl rfl (any_of HT_.out (by kernel_rfl)) (fun _ _ _ h => h) (Or.inl ⟨by rfl, ?_⟩) ?_ ?_
        rotate_left
        ·intro w'
         go_simp
         with_reducible rfl
        rotate_left
        ·simp only [Act.put, List.setIfInBounds_toArray, List.set_cons_zero, List.set_cons_succ, i64_w, i32_w]
         rfl
        refine pure_ (i := 2) (N := some 20) (v := ?_) (a' := ?_) #[true, false, true, false, false, false, false, false, false, false, false] rfl rfl (any_of HT_.out (by kernel_rfl)) (fun _ _ _ h => h) (Or.inl ⟨by rfl, ?_⟩) ?_ ?_
        rotate_left
        ·intro w'
         go_simp
         with_reducible rfl
        rotate_left
        ·simp only [Act.put, List.setIfInBounds_toArray, List.set_cons_zero, List.set_cons_succ, i64_w, i32_w]
         rfl
        refine pure_ (i := 4) (N := some 22) (v := ?_) (a' := ?_) #[true, false, true, false, true, false, false, false, false, false, false] rfl rfl (any_of HT_.out (by kernel_rfl)) (fun _ _ _ h => h) (Or.inl ⟨by rfl, ?_⟩) ?_ ?_
        rotate_left
        ·intro w'
         go_simp
         with_reducible rfl
        rotate_left
        ·simp only [Act.put, List.setIfInBounds_toArray, List.set_cons_zero, List.set_cons_succ, i64_w, i32_w]
         rfl
        refine take_ (i := 1) (N := some 19) (v := ?_) (a' := ?_) #[true, true, true, false, true, false, false, false, false, false, false] rfl rfl (take_ofW HT_.out HW_.out (by kernel_rfl)) (fun _ _ _ h => h) (Or.inl ⟨by rfl, ?_⟩) hHeld ?_ ?_
        rotate_left
        ·rintro w' ⟨s0, s1, s2, s3, s4, s5⟩
         go_simp
         with_reducible rfl
        rotate_left
        ·simp only [Act.put, List.setIfInBounds_toArray, List.set_cons_zero, List.set_cons_succ, i64_w, i32_w]
         rfl
        refine take_ (i := 3) (N := some 21) (v := ?_) (a' := ?_) #[true, true, true, true, true, false, false, false, false, false, false] rfl rfl (take_ofW HT_.out HW_.out (by kernel_rfl)) (fun _ _ _ h => h) (Or.inl ⟨by rfl, ?_⟩) hHeld ?_ ?_
        rotate_left
        ·rintro w' ⟨s0, s1, s2, s3, s4, s5⟩
         go_simp
         with_reducible rfl
        rotate_left
        ·simp only [Act.put, List.setIfInBounds_toArray, List.set_cons_zero, List.set_cons_succ, i64_w, i32_w]
         rfl
        refine pure_ (i := 5) (N := some 23) (v := ?_) (a' := ?_) #[true, true, true, true, true, true, false, false, false, false, false] rfl rfl (any_of HT_.out (by kernel_rfl)) (fun _ _ _ h => h) (Or.inl ⟨by rfl, ?_⟩) ?_ ?_
        rotate_left
        ·intro w'
         go_simp
         with_reducible rfl
        rotate_left
        ·simp only [Act.put, List.setIfInBounds_toArray, List.set_cons_zero, List.set_cons_succ, i64_w, i32_w]
         rfl
        refine take_ (i := 6) (N := some 24) (v := ?_) (a' := ?_) #[true, true, true, true, true, true, true, false, false, false, false] rfl rfl (take_ofW HT_.out HW_.out (by kernel_rfl)) (fun _ _ _ h => h) (Or.inl ⟨by rfl, ?_⟩) hHeld ?_ ?_
        rotate_left
        ·rintro w' ⟨s0, s1, s2, s3, s4, s5⟩
         go_simp
         with_reducible rfl
        rotate_left
        ·simp only [Act.put, List.setIfInBounds_toArray, List.set_cons_zero, List.set_cons_succ, i64_w, i32_w]
         rfl
        refine pure_ (i := 7) (N := some 25) (v := ?_) (a' := ?_) #[true, true, true, true, true, true, true, true, false, false, false] rfl rfl (any_of HT_.out (by kernel_rfl)) (fun _ _ _ h => h) (Or.inl ⟨by rfl, ?_⟩) ?_ ?_
        rotate_left
        ·intro w'
         go_simp
         with_reducible rfl
        rotate_left
        ·simp only [Act.put, List.setIfInBounds_toArray, List.set_cons_zero, List.set_cons_succ, i64_w, i32_w]
         rfl
        refine last_ (i := 8) (N := some 26) #[true, true, true, true, true, true, true, true, true, false, false] rfl rfl (one_of HT_.out (by kernel_rfl)) (by decide) (fun K hK => ?_)
        refine value_ (w1 := ?_) (v := ?_) (by rfl) rfl ?_ ?_
        rotate_left 2
        ·go_simp
         constructor
         ·rfl
         ·rfl
        refine hK.out _ _ ?_
        clear hK K
        refine norm_ (a' := ?_) ?_ ?_
        rotate_left
        ·show Act.put _ (some 26) _ = _
         simp only [Act.put, List.setIfInBounds_toArray, List.set_cons_zero, List.set_cons_succ, i64_w, i32_w]
         rfl
        refine last_ (i := 9) (N := some 27) #[true, true, true, true, true, true, true, true, true, true, false] rfl rfl (one_of HT_.out (by kernel_rfl)) (by decide) (fun K hK => ?_)
        refine Kd.N_append_step k60 (w0 := w) w.heap.size (by rfl) (.tmp 18) (.tmp 26) 42 60 (.agg #[(.int .u64 0), (.int .u64 0), (.slice none 0 0)]) 40 rfl Tryd.underlying42 info60 rfl (by decide) (by omega) u3 x3_1 (⟨(⟨(rd_T54 t145 x13_1).f0, (rd_T54 t145 x13_1).f1⟩ : S54), rd_L1 l0_2 x13_1⟩ : S60) [.int .u64 ((rd_T54 t145 x13_1).f0), .int .u64 ((rd_T54 t145 x13_1).f1), .slice A150_0 (rd_L1 l0_2 x13_1).length c150_0] (fun k_ => (P0_2_ k_ ∨ w.heap.size ≤ k_) ∧ some k_ ≠ (.slice (some ad148) t145.length co6 : Value).ownBlock ∧ k_ ≠ gb144 ∧ k_ ≠ gb149) (fun k_ => ((fun k_ => (P0_2_ k_ ∨ w.heap.size ≤ k_) ∧ some k_ ≠ (.slice (some ad148) t145.length co6 : Value).ownBlock ∧ k_ ≠ gb144 ∧ k_ ≠ gb149)) k_ ∧ some k_ ≠ (u3 : Value).ownBlock) rfl rfl ?aP (fun _ hk => hk) ?aF ?aO ?aB ?aS ?aL ?_
        (case aP => exact (k60_mkF _ _ (⟨(⟨(rd_T54 t145 x13_1).f0, (rd_T54 t145 x13_1).f1⟩ : S54), rd_L1 l0_2 x13_1⟩ : S60) (Kd.V_reads' (Kd.V_mono (ok' := (fun k_ => ((fun k_ => (P0_2_ k_ ∨ w.heap.size ≤ k_) ∧ some k_ ≠ (.slice (some ad148) t145.length co6 : Value).ownBlock ∧ k_ ≠ gb144 ∧ k_ ≠ gb149)) k_ ∧ some k_ ≠ (u3 : Value).ownBlock)) (HL150_0.out) (fun k_ hk => ⟨⟨hk.1, ⟨hk.2.2.1, ⟨hk.2.2.2.1, hk.2.2.2.2⟩⟩⟩, hk.2.1⟩))).2.1 (Kd.V_F (Kd.V_mono (ok' := (fun k_ => ((fun k_ => (P0_2_ k_ ∨ w.heap.size ≤ k_) ∧ some k_ ≠ (.slice (some ad148) t145.length co6 : Value).ownBlock ∧ k_ ≠ gb144 ∧ k_ ≠ gb149)) k_ ∧ some k_ ≠ (u3 : Value).ownBlock)) (HL150_0.out) (fun k_ hk => ⟨⟨hk.1, ⟨hk.2.2.1, ⟨hk.2.2.2.1, hk.2.2.2.2⟩⟩⟩, hk.2.1⟩)))))
        (case aB => exact bB)
        (case aF => exact (fun k_ hk => ⟨(.inr (Nat.le_trans (below_size bB) hk)), Kd.fresh' (Kd.R_lt (kR HO_11.out)) k_ hk, Kd.freshB (g := gb144) (o := .cells #[.int .u64 a0_0, .int .u64 a0_1, .slice (some ad150) l0_2.length c0_2] 39 (0, 0)) (kB BK144.out) k_ hk, Kd.freshB (g := gb149) (o := .cells #[.int .u64 ((rd_T54 t145 x13_1).f0), .int .u64 ((rd_T54 t145 x13_1).f1)] 54 (0, 0)) (kB BK149.out) k_ hk⟩))
        (case aO => exact (by (with_reducible repeat (first | apply Kd.N_alloc | apply Kd.N_drewN | apply Kd.N_drew)); exact HO_3.out))
        (case aS => exact (below_size bB))
        (case aL => have := LMc11.out; omega)
        intro v152 w17 ho hb hg hat
        rw [← Ny151.out] at ho
        have n0_ := Aside0.mk (Kd.R_over' (kR HO_11.out) (Kd.N_typed (by (with_reducible repeat (first | apply Kd.N_alloc | apply Kd.N_drewN | apply Kd.N_drew)); exact HO_3.out)) (by decide) hg)
        have n1_ := Aside0.mk (Kd.V_afterv (ok := (fun k_ => (P0_2_ k_ ∨ w.heap.size ≤ k_) ∧ some k_ ≠ (.slice (some ad148) t145.length co6 : Value).ownBlock ∧ k_ ≠ gb144 ∧ k_ ≠ gb149)) (by (with_reducible repeat (first | apply Kd.V_alloc | apply Kd.V_drewN | apply Kd.V_drew)); exact Kd.V_mono HO_145002.out (fun _ hk => ⟨⟨hk.1, ⟨hk.2.2.1, ⟨hk.2.2.2.1, hk.2.2.2.2⟩⟩⟩, hk.2.1⟩)) hg hat)
        have n2_ := Aside0.mk (blk_grown (g := gb144) (o := .cells #[.int .u64 a0_0, .int .u64 a0_1, .slice (some ad150) l0_2.length c0_2] 39 (0, 0)) (kB BK144.out) hg (Kd.N_ne HO_3.out BK144.out (by decide)))
        have n3_ := Aside0.mk (blk_grown (g := gb149) (o := .cells #[.int .u64 ((rd_T54 t145 x13_1).f0), .int .u64 ((rd_T54 t145 x13_1).f1)] 54 (0, 0)) (kB BK149.out) hg (Kd.N_ne HO_3.out BK149.out (by decide)))
        have n4_ := Aside0.mk (Kd.V_afterv (ok := (fun k_ => (P0_2_ k_ ∨ w.heap.size ≤ k_) ∧ some k_ ≠ (.slice (some ad148) t145.length co6 : Value).ownBlock ∧ k_ ≠ gb144 ∧ k_ ≠ gb149)) (by (with_reducible repeat (first | apply Kd.V_alloc | apply Kd.V_drewN | apply Kd.V_drew)); exact Kd.V_mono HL150_0.out (fun _ hk => ⟨⟨hk.1, ⟨hk.2.2.1, ⟨hk.2.2.2.1, hk.2.2.2.2⟩⟩⟩, hk.2.1⟩)) hg hat)
        have n5_ := Aside0.mk (hb)
        have n6_ := Aside0.mk (ho)
        clear HO_11
        clear HO_145002
        clear BK144
        clear BK149
        clear HL150_0
        clear HB
        clear HO_3
        have HO_11 := n0_
        have HO_145002 := n1_
        have BK144 := n2_
        have BK149 := n3_
        have HL150_0 := n4_
        have HB := n5_
        have HO153 := n6_
        clear n0_ n1_ n2_ n3_ n4_ n5_ n6_
        clear ho hb hg hat
        refine hK.out _ _ ?_
        clear hK K
        refine norm_ (a' := ?_) ?_ ?_
        rotate_left
        ·show Act.put _ (some 27) _ = _
         simp only [Act.put, List.setIfInBounds_toArray, List.set_cons_zero, List.set_cons_succ, i64_w, i32_w]
         rfl
        refine pure_ (i := 10) (N := some 3) (v := ?_) (a' := ?_) #[true, true, true, true, true, true, true, true, true, true, true] rfl rfl (any_of HT_.out (by kernel_rfl)) (fun _ _ _ h => h) (Or.inl ⟨by rfl, ?_⟩) ?_ ?_
        rotate_left
        ·intro w'
         go_simp
         with_reducible rfl
        rotate_left
        ·simp only [Act.put, List.setIfInBounds_toArray, List.set_cons_zero, List.set_cons_succ, i64_w, i32_w]
         rfl
        refine done_ (done_of HT_.out (by kernel_rfl)) ?_
        try go_wp2
        go_roundg k1
        case measure => have := HK1.out; omega
        case rel => exact ⟨(y151), (wrap64 (x13_1 + 1)), (by first | rfl | (simp; done) | (simp [*]; done)), H', ⟨by have := HK1.out; omega⟩, ⟨by (with_reducible repeat (first | apply Kd.N_alloc | apply Kd.N_drewN | apply Kd.N_drew)); exact Kd.N_mono HO153.out (fun _ hk => ⟨hk.1, ⟨hk.2.1, hk.2.2.1⟩⟩)⟩, ⟨by (with_reducible repeat (first | apply Kd.R_alloc | apply Kd.R_drewN | apply Kd.R_drew)); exact Kd.R_mono HO_11.out (fun _ hk => hk.1)⟩, ⟨by (with_reducible repeat (first | apply Kd.V_alloc | apply Kd.V_drewN | apply Kd.V_drew)); exact Kd.V_mono HO_145002.out (fun _ hk => ⟨hk.1.1, ⟨hk.2, ⟨hk.1.2.1, hk.1.2.2.1⟩⟩⟩)⟩, ⟨by (with_reducible repeat (first | refine blk_drewN ?_ _ | refine blk_drew ?_ | refine blk_alloc ?_ _)); exact BK144.out⟩, ⟨bB⟩⟩
       ·rw [if_neg c11] at H
        exact absurd H (by simp)
      ·rw [if_neg c10] at H
       exact absurd H (by simp)
     ·rw [if_neg c9] at H
      exact absurd H (by simp)
    ·rw [if_neg c8] at H
     exact absurd H (by simp)
   ·rw [if_neg c7] at H
    have c7b0 : decide (x13_1 < (t145.length : Int)) = false := decide_eq_false c7
    clear c7
    obtain rfl := Option.some.inj H
    go_wp2
    go_ret
    exact ⟨_, by first | rfl | (simp [errW_none, errW_some] <;> rfl) | (simp [*, errW_none, errW_some] <;> rfl), by (with_reducible repeat (first | apply Kd.N_alloc | apply Kd.N_drewN | apply Kd.N_drew)); exact Kd.N_mono HO_3.out (fun _ hk => hk.1), bB⟩

end Go.Proofs.YtkmdkmlgahfcpaaDoor.M

