-- Written by a program of ours (wip/xp) out of the translation; Lean checks it.
import Derived.Test.YtkmdkmlgahfcpaaDoorSq
import Derived.Test.YtkmdkmlgahfcpaaDoorMm1
import Derived.Test.YtkmdkmlgahfcpaaDoorMm5
import Derived.Test.YtkmdkmlgahfcpaaDoorMm7
import Derived.Test.YtkmdkmlgahfcpaaDoorMm8
namespace Go.Proofs.YtkmdkmlgahfcpaaDoor.M
open Go.RowKit Go.Proofs.YtkmdkmlgahfcpaaDoorW.PrintWords Go.Proofs.YtkmdkmlgahfcpaaDoorW.PrintLast Go.Proofs.YtkmdkmlgahfcpaaDoorW.PrintMore
attribute [local go_sem] max2_int min2_int max_two min_two max_three min_three max_four min_four   -- for this text's walks alone
set_option linter.unusedVariables false
set_option linter.unusedSimpArgs false

/-! ### spec_Appended: function 24 -/
def spec_Appended.l0 : Nat → List (List Int) → List (S60) → List (S60) → Int → Int → Int → Int → Int → Int → Int → Int → Int → Int → List (List Int) → Option (Int × Int × (List (List Int)) × (List (S60)))
 | 0, _, _, _, _, _, _, _, _, _, _, _, _, _, _ => none
 | k + 1, x2, x8, x9, x17, x18, x201000, x201001, x201002, x201003, x201004, x201005, x202000, x202001, x202002 => if x18 < x17 then (if 0 ≤ x18 then (if x18 < (x2.length : Int) then ((spec_pushed.f k x201000 x201001 x201002 x201003 x201004 x201005 x8 0 (IntKind.u64.wrap (x202001 + (IntKind.u64.wrap (x18)))) (rd_L1 x2 x18)).bind fun bt208 => (if x9.length < 3518437208883 then ((some (x9 ++ [(⟨(⟨0, IntKind.u64.wrap (x202001 + (IntKind.u64.wrap (x18)))⟩ : S54), rd_L1 x2 x18⟩ : S60)] : List (S60))).bind fun y214 => (if y214.length + bt208.2.length < 3518437208883 then (spec_Appended.l0 k x2 bt208.1 (y214 ++ bt208.2) x17 (wrap64 (x18 + 1)) x201000 x201001 x201002 x201003 x201004 x201005 x202000 x202001 x202002) else (none))) else (none))) else (none)) else (none)) else ((spec_hashes.f k x8).bind fun t220 => (some (x202000, IntKind.u64.wrap (x202001 + (IntKind.u64.wrap ((x2.length : Int)))), t220, x9)))
def spec_Appended.f (k : Nat) (a0_0 : Int) (a0_1 : Int) (a0_2 : Int) (a0_3 : Int) (a0_4 : Int) (a0_5 : Int) (a1_0 : Int) (a1_1 : Int) (l1_2 : List (List Int)) (l2 : List (List Int)) : Option (Int × Int × (List (List Int)) × (List (S60))) := (spec_Named.f k a1_0 a1_1 l1_2).bind fun t203 => (spec_Appended.l0 k l2 t203 ([] : List (S60)) (l2.length : Int) 0 a0_0 a0_1 a0_2 a0_3 a0_4 a0_5 a1_0 a1_1 l1_2)
theorem spec_Appended.mono_l : ∀ k, (∀ y0 y1 y2 y3 y4 y5 y6 y7 y8 y9 y10 y11 y12 y13, LeO (spec_Appended.l0 k y0 y1 y2 y3 y4 y5 y6 y7 y8 y9 y10 y11 y12 y13) (spec_Appended.l0 (k + 1) y0 y1 y2 y3 y4 y5 y6 y7 y8 y9 y10 y11 y12 y13))
 | 0 => fun _ _ _ _ _ _ _ _ _ _ _ _ _ _ r h => by simp [spec_Appended.l0] at h
 | k + 1 => by
  have ih0 := spec_Appended.mono_l k
  ·intro y0 y1 y2 y3 y4 y5 y6 y7 y8 y9 y10 y11 y12 y13
   unfold spec_Appended.l0
   repeat' first
   | (with_reducible exact ih0 _ _ _ _ _ _ _ _ _ _ _ _ _ _)
   | (with_reducible exact spec_Named.mono _ _ _ _)
   | (with_reducible exact spec_hashes.mono _ _)
   | (with_reducible exact spec_pushed.mono _ _ _ _ _ _ _ _ _ _ _)
   | (with_reducible exact LeO.refl _)
   | (with_reducible exact LeO.none _)
   | (with_reducible refine LeO.ite ?_ ?_)
   | (with_reducible refine LeO.bind ?_ (fun _ => ?_))
   | exact ih0 _ _ _ _ _ _ _ _ _ _ _ _ _ _
   | exact spec_Named.mono _ _ _ _
   | exact spec_hashes.mono _ _
   | exact spec_pushed.mono _ _ _ _ _ _ _ _ _ _ _
   | exact LeO.none _
   | refine LeO.ite ?_ ?_
   | refine LeO.bind ?_ (fun _ => ?_)
theorem spec_Appended.mono : ∀ a0 a1 a2 a3 a4 a5 a6 a7 a8 a9 k, LeO (spec_Appended.f k a0 a1 a2 a3 a4 a5 a6 a7 a8 a9) (spec_Appended.f (k + 1) a0 a1 a2 a3 a4 a5 a6 a7 a8 a9) := by
 intro a0 a1 a2 a3 a4 a5 a6 a7 a8 a9 k
 have ih0 := spec_Appended.mono_l k
 unfold spec_Appended.f
 repeat' first
   | (with_reducible exact ih0 _ _ _ _ _ _ _ _ _ _ _ _ _ _)
   | (with_reducible exact spec_Named.mono _ _ _ _)
   | (with_reducible exact spec_hashes.mono _ _)
   | (with_reducible exact spec_pushed.mono _ _ _ _ _ _ _ _ _ _ _)
   | (with_reducible exact LeO.refl _)
   | (with_reducible exact LeO.none _)
   | (with_reducible refine LeO.ite ?_ ?_)
   | (with_reducible refine LeO.bind ?_ (fun _ => ?_))
   | exact ih0 _ _ _ _ _ _ _ _ _ _ _ _ _ _
   | exact spec_Named.mono _ _ _ _
   | exact spec_hashes.mono _ _
   | exact spec_pushed.mono _ _ _ _ _ _ _ _ _ _ _
   | exact LeO.none _
   | refine LeO.ite ?_ ?_
   | refine LeO.bind ?_ (fun _ => ?_)
def spec_Appended.T10 : Bool × List (List Nat × List Nat) := (true, [([], []), ([0], [0]), ([], []), ([2], [2]), ([], []), ([4], [4]), ([5], [5]), ([3, 6], [3, 6]), ([], []), ([8], [8]), ([1, 7, 9], [1, 7, 9]), ([], []), ([10, 9, 0, 1, 2, 3, 4, 5, 6, 7, 8, 9, 10], [10]), ([11, 12, 0, 1, 2, 3, 4, 5, 6, 7, 8, 9, 10, 11, 12], [11])])
def spec_Appended.B10 : List Nat := [0, 1, 0, 4, 0, 16, 48, 124, 0, 256, 1023, 0, 2047, 8191]
theorem spec_Appended.tab10 : rtab .any (opsOf Tryd.f24 10) = spec_Appended.T10 := by kernel_rfl
theorem spec_Appended.bits10 : waitsOk spec_Appended.T10.2 spec_Appended.B10 = true := by kernel_rfl
set_option maxHeartbeats 8000000 in
set_option maxRecDepth 100000 in
theorem spec_Appended.calls (k : Nat) (a0_0 : Int) (a0_1 : Int) (a0_2 : Int) (a0_3 : Int) (a0_4 : Int) (a0_5 : Int) (a1_0 : Int) (a1_1 : Int) (P1_2_ : Nat → Prop) (A1_2 : Option Addr) (c1_2 : Nat) (l1_2 : List (List Int)) (P2_ : Nat → Prop) (A2 : Option Addr) (c2 : Nat) (l2 : List (List Int)) (r1 : Int) (r2 : Int) (r3 : List (List Int)) (r4 : List (S60)) (w : World) (hs1_2 : Kd.V (Kd.slice 5 (Kd.int .u8)) 27 w w.heap.size (fun k_ => P1_2_ k_) (.slice A1_2 l1_2.length c1_2) l1_2) (hs2 : Kd.V (Kd.slice 5 (Kd.int .u8)) 27 w w.heap.size (fun k_ => P2_ k_) (.slice A2 l2.length c2) l2) (h : spec_Appended.f k a0_0 a0_1 a0_2 a0_3 a0_4 a0_5 a1_0 a1_1 l1_2 l2 = some (r1, r2, r3, r4)) :
  Calls Tryd.prog 24 #[.agg #[.int .i64 a0_0, .int .i64 a0_1, .int .i64 a0_2, .int .u64 a0_3, .int .u64 a0_4, .int .u64 a0_5], .agg #[.int .u64 a1_0, .int .u64 a1_1, .slice A1_2 l1_2.length c1_2], .slice A2 l2.length c2] w fun e w' => ∃ v2_ v3_ : Value, e = .returned (.tuple #[.agg #[.int .u64 r1, .int .u64 r2, v2_], v3_]) ∧ Kd.N (Kd.slice 5 (Kd.int .u8)) 27 w' w.heap.size (fun k_ => ((P1_2_ k_ ∨ P2_ k_) ∨ w.heap.size ≤ k_) ∧ some k_ ≠ (v3_ : Value).ownBlock) v2_ r3 ∧ Kd.N k60 60 w' w.heap.size (fun k_ => ((P1_2_ k_ ∨ P2_ k_) ∨ w.heap.size ≤ k_) ∧ some k_ ≠ (v2_ : Value).ownBlock) v3_ r4 ∧ Below w.heap.size w w' := by
 have hu24 := Tryd.underlying24
 have hu39 := Tryd.underlying39
 have hu54 := Tryd.underlying54
 have hu60 := Tryd.underlying60
 have HO1_2 := Aside0.mk (show Kd.V (Kd.slice 5 (Kd.int .u8)) 27 w w.heap.size (fun k_ => ((P1_2_ k_ ∨ P2_ k_) ∨ w.heap.size ≤ k_)) (.slice A1_2 l1_2.length c1_2) l1_2 from Kd.V_mono hs1_2 (fun k_ hk => .inl (.inl hk)))
 have HO2 := Aside0.mk (show Kd.V (Kd.slice 5 (Kd.int .u8)) 27 w w.heap.size (fun k_ => ((P1_2_ k_ ∨ P2_ k_) ∨ w.heap.size ≤ k_)) (.slice A2 l2.length c2) l2 from Kd.V_mono hs2 (fun k_ hk => .inl (.inr hk)))
 have HB := Aside0.mk (Below.refl w.heap.size w)
 have H : ((spec_Named.f k a1_0 a1_1 l1_2).bind fun t203 => (spec_Appended.l0 k l2 t203 ([] : List (S60)) (l2.length : Int) 0 a0_0 a0_1 a0_2 a0_3 a0_4 a0_5 a1_0 a1_1 l1_2)) = some (r1, r2, r3, r4) := h
 clear h
 replace H := Option.bind_eq_some_iff.mp H
 obtain ⟨t203, A40, H⟩ := H
 replace H : (spec_Appended.l0 k l2 t203 ([] : List (S60)) (l2.length : Int) 0 a0_0 a0_1 a0_2 a0_3 a0_4 a0_5 a1_0 a1_1 l1_2) = some (r1, r2, r3, r4) := H
 have A4 := Aside0.mk A40
 clear A40
 have H' := Aside0.mk H
 clear H
 go_enter Tryd.func24, Tryd.ntmps24
 go_wp2_with (first | ((with_reducible refine gate_dst (N := 3) rfl ?_); refine box_event ?hg (N := 3) ?hd (cs := #[.int .i64 a0_0, .int .i64 a0_1, .int .i64 a0_2, .int .u64 a0_3, .int .u64 a0_4, .int .u64 a0_5]) (t := 24) ?hr ?_; (case hd => rfl); (case hg => rfl); (case hr => first | (go_simp; done) | (go_simp; rfl)); intro gb200 hg w5 hbox hb; have n0_ := Aside0.mk (Kd.V_below (Kd.V_elderB (kV HO1_2.out) gb200 (Nat.le_of_eq hg.symm)) hb); have n1_ := Aside0.mk (Kd.V_below (Kd.V_elderB (kV HO2.out) gb200 (Nat.le_of_eq hg.symm)) hb); have n2_ := Aside0.mk (below_step bB hb); have n3_ := Aside0.mk (hbox); have n4_ := Aside0.mk ((by rw [hg]; exact (below_size bB) : w.heap.size ≤ gb200)); have n5_ := Aside0.mk ((by rw [hg]; exact (below_size bB) : w.heap.size ≤ gb200)); clear HO1_2; clear HO2; clear HB; have HO1_2 := n0_; have HO2 := n1_; have HB := n2_; have BK200 := n3_; have GW200 := n4_; have GE200 := n5_; clear n0_ n1_ n2_ n3_ n4_ n5_; clear hb hbox hg) | ((with_reducible refine gate_dst (N := 4) rfl ?_); refine box_event ?hg (N := 4) ?hd (cs := #[.int .u64 a1_0, .int .u64 a1_1, .slice A1_2 l1_2.length c1_2]) (t := 39) ?hr ?_; (case hd => rfl); (case hg => rfl); (case hr => first | (go_simp; done) | (go_simp; rfl)); intro gb201 hg w6 hbox hb; have n0_ := Aside0.mk (Kd.V_below (Kd.V_elderB (kV HO1_2.out) gb201 (Nat.le_of_eq hg.symm)) hb); have n1_ := Aside0.mk (Kd.V_below (Kd.V_elderB (kV HO2.out) gb201 (Nat.le_of_eq hg.symm)) hb); have n2_ := Aside0.mk (blk_below (g := gb200) (o := .cells #[.int .i64 a0_0, .int .i64 a0_1, .int .i64 a0_2, .int .u64 a0_3, .int .u64 a0_4, .int .u64 a0_5] 24 (0, 0)) (kB BK200.out) hb); have n3_ := Aside0.mk (below_step bB hb); have n4_ := Aside0.mk (hbox); have n5_ := Aside0.mk ((by rw [hg]; exact (below_size bB) : w.heap.size ≤ gb201)); have n6_ := Aside0.mk ((by rw [hg]; exact (below_size bB) : w.heap.size ≤ gb201)); have n7_ := Aside0.mk ((by rw [hg]; exact Nat.ne_of_lt (blk_lt (g := gb200) (o := .cells #[.int .i64 a0_0, .int .i64 a0_1, .int .i64 a0_2, .int .u64 a0_3, .int .u64 a0_4, .int .u64 a0_5] 24 (0, 0)) (kB BK200.out)) : gb200 ≠ gb201)); have n8_ := Aside0.mk ((by rw [hg]; exact Nat.ne_of_gt (blk_lt (g := gb200) (o := .cells #[.int .i64 a0_0, .int .i64 a0_1, .int .i64 a0_2, .int .u64 a0_3, .int .u64 a0_4, .int .u64 a0_5] 24 (0, 0)) (kB BK200.out)) : gb201 ≠ gb200)); clear HO1_2; clear HO2; clear BK200; clear HB; have HO1_2 := n0_; have HO2 := n1_; have BK200 := n2_; have HB := n3_; have BK201 := n4_; have GW201 := n5_; have GE201 := n6_; have NB200_201 := n7_; have NB201_200 := n8_; clear n0_ n1_ n2_ n3_ n4_ n5_ n6_ n7_ n8_; clear hb hbox hg) | ((with_reducible refine gate_dst (N := 6) rfl ?_); refine box_event ?hg (N := 6) ?hd (cs := #[.int .u64 0, .int .u64 0, .slice none 0 0]) (t := 39) ?hr ?_; (case hd => rfl); (case hg => rfl); (case hr => first | (go_simp; done) | (go_simp; rfl)); intro gb202 hg w7 hbox hb; have n0_ := Aside0.mk (Kd.V_below (Kd.V_elderB (kV HO1_2.out) gb202 (Nat.le_of_eq hg.symm)) hb); have n1_ := Aside0.mk (Kd.V_below (Kd.V_elderB (kV HO2.out) gb202 (Nat.le_of_eq hg.symm)) hb); have n2_ := Aside0.mk (blk_below (g := gb200) (o := .cells #[.int .i64 a0_0, .int .i64 a0_1, .int .i64 a0_2, .int .u64 a0_3, .int .u64 a0_4, .int .u64 a0_5] 24 (0, 0)) (kB BK200.out) hb); have n3_ := Aside0.mk (blk_below (g := gb201) (o := .cells #[.int .u64 a1_0, .int .u64 a1_1, .slice A1_2 l1_2.length c1_2] 39 (0, 0)) (kB BK201.out) hb); have n4_ := Aside0.mk (below_step bB hb); have n5_ := Aside0.mk (hbox); have n6_ := Aside0.mk ((by rw [hg]; exact (below_size bB) : w.heap.size ≤ gb202)); have n7_ := Aside0.mk ((by rw [hg]; exact (below_size bB) : w.heap.size ≤ gb202)); have n8_ := Aside0.mk ((by rw [hg]; exact Nat.ne_of_lt (blk_lt (g := gb200) (o := .cells #[.int .i64 a0_0, .int .i64 a0_1, .int .i64 a0_2, .int .u64 a0_3, .int .u64 a0_4, .int .u64 a0_5] 24 (0, 0)) (kB BK200.out)) : gb200 ≠ gb202)); have n9_ := Aside0.mk ((by rw [hg]; exact Nat.ne_of_gt (blk_lt (g := gb200) (o := .cells #[.int .i64 a0_0, .int .i64 a0_1, .int .i64 a0_2, .int .u64 a0_3, .int .u64 a0_4, .int .u64 a0_5] 24 (0, 0)) (kB BK200.out)) : gb202 ≠ gb200)); have n10_ := Aside0.mk ((by rw [hg]; exact Nat.ne_of_lt (blk_lt (g := gb201) (o := .cells #[.int .u64 a1_0, .int .u64 a1_1, .slice A1_2 l1_2.length c1_2] 39 (0, 0)) (kB BK201.out)) : gb201 ≠ gb202)); have n11_ := Aside0.mk ((by rw [hg]; exact Nat.ne_of_gt (blk_lt (g := gb201) (o := .cells #[.int .u64 a1_0, .int .u64 a1_1, .slice A1_2 l1_2.length c1_2] 39 (0, 0)) (kB BK201.out)) : gb202 ≠ gb201)); clear HO1_2; clear HO2; clear BK200; clear BK201; clear HB; have HO1_2 := n0_; have HO2 := n1_; have BK200 := n2_; have BK201 := n3_; have HB := n4_; have BK202 := n5_; have GW202 := n6_; have GE202 := n7_; have NB200_202 := n8_; have NB202_200 := n9_; have NB201_202 := n10_; have NB202_201 := n11_; clear n0_ n1_ n2_ n3_ n4_ n5_ n6_ n7_ n8_ n9_ n10_ n11_; clear hb hbox hg; have hnb8 := NB201_200.out; have hnc8 := NB200_201.out; have hnb9 := NB201_202.out; have hnc9 := NB202_201.out; have hcz10_0 : w7.cell? ⟨gb201, 0, none⟩ = some (.int .u64 a1_0) := (blk_cell BK201.out 0).trans rfl; have hcz10_1 : w7.cell? ⟨gb201, 1, none⟩ = some (.int .u64 a1_1) := (blk_cell BK201.out 1).trans rfl; have hcz10_2 : w7.cell? ⟨gb201, 2, none⟩ = some (.slice A1_2 l1_2.length c1_2) := (blk_cell BK201.out 2).trans rfl; have hfz10_0 := blk_frozen BK201.out 0; have hfz10_1 := blk_frozen BK201.out 1; have hfz10_2 := blk_frozen BK201.out 2) | ((with_reducible refine gate_callee (f := 58) rfl ?_); refine goesL_ (some 15) rfl rfl Tryd.func58 (by kernel_rfl) rfl #[.agg #[.int .u64 a1_0, .int .u64 a1_1, .slice A1_2 l1_2.length c1_2]] rfl aV ?_; (with_reducible refine (spec_Named.calls k a1_0 a1_1 (fun k_ => (((((P1_2_ k_ ∨ P2_ k_) ∨ w.heap.size ≤ k_) ∧ k_ ≠ gb200) ∧ k_ ≠ gb201) ∧ k_ ≠ gb202)) _ _ l1_2 t203 _ ?side1 A4.out).mono ?_); (case side1 => first | exact HO1_2.out | exact Kd.V_mono HO1_2.out (fun k_ h_ => by simp only [and_assoc] at h_ ⊢; exact h_)); rintro e w11 ⟨v204, rfl, ho0, hb⟩; refine ⟨_, rfl, ?_⟩; have n0_ := Aside0.mk (Kd.V_elder' (kV HO1_2.out) (Kd.N_base ho0) hb); have n1_ := Aside0.mk (Kd.V_elder' (kV HO2.out) (Kd.N_base ho0) hb); have n2_ := Aside0.mk (Kd.N_lower (Kd.N_mono (ok' := fun k_ => ((P1_2_ k_ ∨ P2_ k_) ∨ w.heap.size ≤ k_) ∧ k_ ≠ gb200 ∧ k_ ≠ gb201 ∧ k_ ≠ gb202) ho0 (fun k_ hk_ => ⟨Or.elim hk_ (fun hs_ => hs_.1.1.1) (fun hn_ => (.inr (Nat.le_trans (below_size bB) hn_))), Or.elim hk_ (fun hs_ => hs_.1.1.2) (fun hn_ => (Kd.freshB (g := gb200) (o := .cells #[.int .i64 a0_0, .int .i64 a0_1, .int .i64 a0_2, .int .u64 a0_3, .int .u64 a0_4, .int .u64 a0_5] 24 (0, 0)) (kB BK200.out) k_ hn_)), Or.elim hk_ (fun hs_ => hs_.1.2) (fun hn_ => (Kd.freshB (g := gb201) (o := .cells #[.int .u64 a1_0, .int .u64 a1_1, .slice A1_2 l1_2.length c1_2] 39 (0, 0)) (kB BK201.out) k_ hn_)), Or.elim hk_ (fun hs_ => hs_.2) (fun hn_ => (Kd.freshB (g := gb202) (o := .cells #[.int .u64 0, .int .u64 0, .slice none 0 0] 39 (0, 0)) (kB BK202.out) k_ hn_))⟩)) (below_size bB)); have n3_ := Aside0.mk (blk_below (g := gb200) (o := .cells #[.int .i64 a0_0, .int .i64 a0_1, .int .i64 a0_2, .int .u64 a0_3, .int .u64 a0_4, .int .u64 a0_5] 24 (0, 0)) (kB BK200.out) hb); have n4_ := Aside0.mk (blk_below (g := gb201) (o := .cells #[.int .u64 a1_0, .int .u64 a1_1, .slice A1_2 l1_2.length c1_2] 39 (0, 0)) (kB BK201.out) hb); have n5_ := Aside0.mk (blk_below (g := gb202) (o := .cells #[.int .u64 0, .int .u64 0, .slice none 0 0] 39 (0, 0)) (kB BK202.out) hb); have n6_ := Aside0.mk (below_step bB hb); clear HO1_2; clear HO2; clear BK200; clear BK201; clear BK202; clear HB; have HO1_2 := n0_; have HO2 := n1_; have HO205 := n2_; have BK200 := n3_; have BK201 := n4_; have BK202 := n5_; have HB := n6_; clear n0_ n1_ n2_ n3_ n4_ n5_ n6_; (try clear hb); (try clear hb2); (try clear hk); (try clear hi); (try clear ho0)))
 go_loopg [8, 9, 18] k (fun kq v8 v9 v18 w' => ∃ (x8_1 : List (S60)) (x9_1 : List (S60)) (x18_1 : Int), v18 = .int .i64 x18_1 ∧ Aside0 (spec_Appended.l0 kq l2 x8_1 x9_1 (l2.length : Int) x18_1 a0_0 a0_1 a0_2 a0_3 a0_4 a0_5 a1_0 a1_1 l1_2 = some (r1, r2, r3, r4)) ∧ Aside0 (kq ≤ k) ∧ Aside0 (Kd.V (Kd.slice 5 (Kd.int .u8)) 27 w' w.heap.size (fun k_ => ((P1_2_ k_ ∨ P2_ k_) ∨ w.heap.size ≤ k_) ∧ some k_ ≠ (v8 : Value).ownBlock ∧ some k_ ≠ (v9 : Value).ownBlock ∧ k_ ≠ gb200 ∧ k_ ≠ gb201 ∧ k_ ≠ gb202) (.slice A2 l2.length c2) l2) ∧ Aside0 (Kd.N k60 60 w' w.heap.size (fun k_ => ((P1_2_ k_ ∨ P2_ k_) ∨ w.heap.size ≤ k_) ∧ some k_ ≠ (v9 : Value).ownBlock ∧ k_ ≠ gb200 ∧ k_ ≠ gb201 ∧ k_ ≠ gb202) v8 x8_1) ∧ Aside0 (Kd.N k60 60 w' w.heap.size (fun k_ => ((P1_2_ k_ ∨ P2_ k_) ∨ w.heap.size ≤ k_) ∧ some k_ ≠ (v8 : Value).ownBlock ∧ k_ ≠ gb200 ∧ k_ ≠ gb201 ∧ k_ ≠ gb202) v9 x9_1) ∧ Aside0 (Kd.V (Kd.slice 5 (Kd.int .u8)) 27 w' w.heap.size (fun k_ => ((P1_2_ k_ ∨ P2_ k_) ∨ w.heap.size ≤ k_) ∧ some k_ ≠ (v8 : Value).ownBlock ∧ some k_ ≠ (v9 : Value).ownBlock ∧ k_ ≠ gb200 ∧ k_ ≠ gb201 ∧ k_ ≠ gb202) (.slice A1_2 l1_2.length c1_2) l1_2) ∧ Aside0 (w'.heap[gb200]? = some (.cells #[.int .i64 a0_0, .int .i64 a0_1, .int .i64 a0_2, .int .u64 a0_3, .int .u64 a0_4, .int .u64 a0_5] 24 (0, 0))) ∧ Aside0 (w'.heap[gb201]? = some (.cells #[.int .u64 a1_0, .int .u64 a1_1, (.slice A1_2 l1_2.length c1_2)] 39 (0, 0))) ∧ Aside0 (w'.heap[gb202]? = some (.cells #[.int .u64 0, .int .u64 0, (.slice none 0 0)] 39 (0, 0))) ∧ Aside0 (Below w.heap.size w w'))
 case atStart => exact ⟨(t203), (([] : List (S60))), (0), (by first | rfl | (simp; done) | (simp [*]; done)), H', ⟨Nat.le_refl _⟩, ⟨by (with_reducible repeat (first | apply Kd.V_alloc | apply Kd.V_drewN | apply Kd.V_drew)); exact Kd.V_mono HO2.out (fun _ hk => ⟨hk.1.1.1.1, ⟨hk.2, ⟨(by simp [Value.ownBlock]), ⟨hk.1.1.1.2, ⟨hk.1.1.2, hk.1.2⟩⟩⟩⟩⟩)⟩, ⟨by (with_reducible repeat (first | apply Kd.N_alloc | apply Kd.N_drewN | apply Kd.N_drew)); exact Kd.N_mono HO205.out (fun _ hk => ⟨hk.1, ⟨(by simp [Value.ownBlock]), ⟨hk.2.1, ⟨hk.2.2.1, hk.2.2.2⟩⟩⟩⟩)⟩, ⟨by first | exact Kd.S_nil _ _ _ _ _ | exact Kd.N_nil _ _ _ _ _ | exact Kd.V_nil _ _ _ _ _ | exact Kd.Q_nil _ _ _ _ _ | exact Kd.R_nil _ _ _ _ _⟩, ⟨by (with_reducible repeat (first | apply Kd.V_alloc | apply Kd.V_drewN | apply Kd.V_drew)); exact Kd.V_mono HO1_2.out (fun _ hk => ⟨hk.1.1.1.1, ⟨hk.2, ⟨(by simp [Value.ownBlock]), ⟨hk.1.1.1.2, ⟨hk.1.1.2, hk.1.2⟩⟩⟩⟩⟩)⟩, ⟨by (with_reducible repeat (first | refine blk_drewN ?_ _ | refine blk_drew ?_ | refine blk_alloc ?_ _)); exact BK200.out⟩, ⟨by (with_reducible repeat (first | refine blk_drewN ?_ _ | refine blk_drew ?_ | refine blk_alloc ?_ _)); exact BK201.out⟩, ⟨by (with_reducible repeat (first | refine blk_drewN ?_ _ | refine blk_drew ?_ | refine blk_alloc ?_ _)); exact BK202.out⟩, ⟨bB⟩⟩
 case round =>
  clear H'
  try clear c1
  try clear c2
  try clear p2
  try clear c5
  try clear c8
  try clear c9
  try clear hcz10_0
  try clear hcz10_1
  try clear hcz10_2
  try clear hfz10_0
  try clear hfz10_1
  try clear hfz10_2
  obtain ⟨x8_1, x9_1, x18_1, rfl, HA, HK1, HO_2, HO_8, HO_9, HO_202002, BK200, BK201, BK202, HB⟩ := hrel
  cases gk with
  | zero => exact absurd HA.out (by simp [spec_Appended.l0])
  | succ k1 =>
   have H := HA.out
   clear HA
   simp only [spec_Appended.l0] at H
   by_cases c12 : x18_1 < (l2.length : Int)
   ·rw [if_pos c12] at H
    have c12b0 : decide (x18_1 < (l2.length : Int)) = true := decide_eq_true c12
    clear c12
    by_cases c13 : 0 ≤ x18_1
    ·rw [if_pos c13] at H
     have c13b0 : decide (0 ≤ x18_1) = true := decide_eq_true c13
     clear c13
     by_cases c14 : x18_1 < (l2.length : Int)
     ·rw [if_pos c14] at H
      have c14b0 : decide (x18_1 < (l2.length : Int)) = true := decide_eq_true c14
      clear c14
      replace H := Option.bind_eq_some_iff.mp H
      obtain ⟨⟨t208, t211⟩, A150, H⟩ := H
      replace H : (if x9_1.length < 3518437208883 then ((some (x9_1 ++ [(⟨(⟨0, IntKind.u64.wrap (a1_1 + (IntKind.u64.wrap (x18_1)))⟩ : S54), rd_L1 l2 x18_1⟩ : S60)] : List (S60))).bind fun y214 => (if y214.length + t211.length < 3518437208883 then (spec_Appended.l0 k1 l2 t208 (y214 ++ t211) (l2.length : Int) (wrap64 (x18_1 + 1)) a0_0 a0_1 a0_2 a0_3 a0_4 a0_5 a1_0 a1_1 l1_2) else (none))) else (none)) = some (r1, r2, r3, r4) := H
      have A15 := Aside0.mk A150
      clear A150
      by_cases c16 : x9_1.length < 3518437208883
      ·rw [if_pos c16] at H
       have LMc16 := Aside0.mk c16
       clear c16
       obtain ⟨y214, hy214⟩ : ∃ y_ : List (S60), y_ = (x9_1 ++ [(⟨(⟨0, IntKind.u64.wrap (a1_1 + (IntKind.u64.wrap (x18_1)))⟩ : S54), rd_L1 l2 x18_1⟩ : S60)]) := ⟨_, rfl⟩
       replace H : (if y214.length + t211.length < 3518437208883 then (spec_Appended.l0 k1 l2 t208 (y214 ++ t211) (l2.length : Int) (wrap64 (x18_1 + 1)) a0_0 a0_1 a0_2 a0_3 a0_4 a0_5 a1_0 a1_1 l1_2) else (none)) = some (r1, r2, r3, r4) := by first | (rw [hy214]; with_reducible exact H) | (have H2_ := (Option.bind_some _ _).symm.trans H; rw [hy214]; with_reducible exact H2_) | (have H2_ := (Option.bind_some _ _).symm.trans H; with_reducible exact H2_) | with_reducible exact H | (rw [hy214]; exact H) | exact H
       have Ny214 := Aside0.mk hy214
       clear hy214
       by_cases c17 : y214.length + t211.length < 3518437208883
       ·rw [if_pos c17] at H
        have LMc17 := Aside0.mk c17
        clear c17
        obtain ⟨y217, hy217⟩ : ∃ y_ : List (S60), y_ = (y214 ++ t211) := ⟨_, rfl⟩
        replace H : (spec_Appended.l0 k1 l2 t208 y217 (l2.length : Int) (wrap64 (x18_1 + 1)) a0_0 a0_1 a0_2 a0_3 a0_4 a0_5 a1_0 a1_1 l1_2) = some (r1, r2, r3, r4) := by first | (rw [hy217]; with_reducible exact H) | (have H2_ := (Option.bind_some _ _).symm.trans H; rw [hy217]; with_reducible exact H2_) | (have H2_ := (Option.bind_some _ _).symm.trans H; with_reducible exact H2_) | with_reducible exact H | (rw [hy217]; exact H) | exact H
        have Ny217 := Aside0.mk hy217
        clear hy217
        have H' := Aside0.mk H
        clear H
        have p206 : 0 ≤ (x18_1 : Int) := dA
        have q206 : x18_1 < (l2.length : Int) := dA
        obtain ⟨ad206, A206_0, c206_0, e206, hx206_0, hl206_0, hi206_0⟩ := at_L1 (Kd.V_reads' HO_2.out).2.2 x18_1 p206 q206
        cases e206
        obtain ⟨ce206, hce206, hMe206, hcc206⟩ := Kd.V_get HO_2.out [] x18_1 p206 (by first | exact q206 | exact dA | (have e_ := (Kd.V_reads' HO_2.out).1; omega))
        obtain ⟨ua206_0, uc206_0, rfl, ul206_0, ge206_0⟩ := Kd.FK_slice_open hMe206
        have hv206_0 := hcc206 0 _ rfl
        rw [Nat.add_zero, show ((Kd.slice 5 (Kd.int .u8))).sz = 1 from rfl, Nat.mul_one] at hv206_0
        replace hv206_0 := Option.some.inj (hv206_0.symm.trans hx206_0)
        injection hv206_0 with hva_ hvn_ hvc_
        rw [hva_] at ge206_0
        rw [hvc_] at ul206_0
        have HL206_0 := Aside0.mk (show Kd.V (Kd.int .u8) 5 _ w.heap.size _ _ (rd_L1 l2 x18_1) from Kd.V_mk ul206_0 ge206_0)
        clear hva_ hvn_ hvc_ ge206_0 ul206_0
        clear hcc206 hce206
        have HR206_0 := Aside0.mk hi206_0
        have HC206_0 := Aside0.mk hl206_0
        clear hi206_0 hl206_0
        replace p206 := eq_true p206
        replace q206 := eq_true q206
        have hnb18 := NB201_200.out
        have hnc18 := NB200_201.out
        have hnb19 := NB201_202.out
        have hnc19 := NB202_201.out
        have hcz20_0 : wr.cell? ⟨gb201, 0, none⟩ = some (.int .u64 a1_0) := (blk_cell BK201.out 0).trans rfl
        have hcz20_1 : wr.cell? ⟨gb201, 1, none⟩ = some (.int .u64 a1_1) := (blk_cell BK201.out 1).trans rfl
        have hcz20_2 : wr.cell? ⟨gb201, 2, none⟩ = some (.slice A1_2 l1_2.length c1_2) := (blk_cell BK201.out 2).trans rfl
        have hfz20_0 := blk_frozen BK201.out 0
        have hfz20_1 := blk_frozen BK201.out 1
        have hfz20_2 := blk_frozen BK201.out 2
        go_wp2_with (first | ((with_reducible refine gate_dst (N := 13) rfl ?_); refine box_event ?hg (N := 13) ?hd (cs := #[.int .u64 0, .int .u64 0, .slice none 0 0]) (t := 60) ?hr ?_; (case hd => rfl); (case hg => rfl); (case hr => first | (go_simp; done) | (go_simp; rfl)); intro gb207 hg w21 hbox hb; have n0_ := Aside0.mk (Kd.V_below (Kd.V_elderB (kV HO_2.out) gb207 (Nat.le_of_eq hg.symm)) hb); have n1_ := Aside0.mk (Kd.N_below (Kd.N_elderB (by (with_reducible repeat (first | apply Kd.N_alloc | apply Kd.N_drewN | apply Kd.N_drew)); exact HO_8.out) gb207 (Nat.le_of_eq hg.symm)) hb); have n2_ := Aside0.mk (Kd.N_below (Kd.N_elderB (by (with_reducible repeat (first | apply Kd.N_alloc | apply Kd.N_drewN | apply Kd.N_drew)); exact HO_9.out) gb207 (Nat.le_of_eq hg.symm)) hb); have n3_ := Aside0.mk (Kd.V_below (Kd.V_elderB (kV HO_202002.out) gb207 (Nat.le_of_eq hg.symm)) hb); have n4_ := Aside0.mk (Kd.V_below (Kd.V_elderB (kV HL206_0.out) gb207 (Nat.le_of_eq hg.symm)) hb); have n5_ := Aside0.mk (blk_below (g := gb200) (o := .cells #[.int .i64 a0_0, .int .i64 a0_1, .int .i64 a0_2, .int .u64 a0_3, .int .u64 a0_4, .int .u64 a0_5] 24 (0, 0)) (kB BK200.out) hb); have n6_ := Aside0.mk (blk_below (g := gb201) (o := .cells #[.int .u64 a1_0, .int .u64 a1_1, .slice A1_2 l1_2.length c1_2] 39 (0, 0)) (kB BK201.out) hb); have n7_ := Aside0.mk (blk_below (g := gb202) (o := .cells #[.int .u64 0, .int .u64 0, .slice none 0 0] 39 (0, 0)) (kB BK202.out) hb); have n8_ := Aside0.mk (Kd.C_below (by repeat (first | (with_reducible exact HR206_0.out) | (with_reducible refine Kd.C_alloc ?_ _) | (with_reducible refine Kd.C_drewN ?_ _) | (with_reducible refine Kd.C_drew ?_) | exact HR206_0.out)) hb); have n9_ := Aside0.mk (below_step bB hb); have n10_ := Aside0.mk (hbox); have n11_ := Aside0.mk ((by rw [hg]; exact (below_size bB) : w.heap.size ≤ gb207)); have n12_ := Aside0.mk ((by rw [hg]; exact (below_size bB) : w.heap.size ≤ gb207)); have n13_ := Aside0.mk ((by rw [hg]; exact Nat.ne_of_lt (blk_lt (g := gb200) (o := .cells #[.int .i64 a0_0, .int .i64 a0_1, .int .i64 a0_2, .int .u64 a0_3, .int .u64 a0_4, .int .u64 a0_5] 24 (0, 0)) (kB BK200.out)) : gb200 ≠ gb207)); have n14_ := Aside0.mk ((by rw [hg]; exact Nat.ne_of_gt (blk_lt (g := gb200) (o := .cells #[.int .i64 a0_0, .int .i64 a0_1, .int .i64 a0_2, .int .u64 a0_3, .int .u64 a0_4, .int .u64 a0_5] 24 (0, 0)) (kB BK200.out)) : gb207 ≠ gb200)); have n15_ := Aside0.mk ((by rw [hg]; exact Nat.ne_of_lt (blk_lt (g := gb201) (o := .cells #[.int .u64 a1_0, .int .u64 a1_1, .slice A1_2 l1_2.length c1_2] 39 (0, 0)) (kB BK201.out)) : gb201 ≠ gb207)); have n16_ := Aside0.mk ((by rw [hg]; exact Nat.ne_of_gt (blk_lt (g := gb201) (o := .cells #[.int .u64 a1_0, .int .u64 a1_1, .slice A1_2 l1_2.length c1_2] 39 (0, 0)) (kB BK201.out)) : gb207 ≠ gb201)); have n17_ := Aside0.mk ((by rw [hg]; exact Nat.ne_of_lt (blk_lt (g := gb202) (o := .cells #[.int .u64 0, .int .u64 0, .slice none 0 0] 39 (0, 0)) (kB BK202.out)) : gb202 ≠ gb207)); have n18_ := Aside0.mk ((by rw [hg]; exact Nat.ne_of_gt (blk_lt (g := gb202) (o := .cells #[.int .u64 0, .int .u64 0, .slice none 0 0] 39 (0, 0)) (kB BK202.out)) : gb207 ≠ gb202)); clear HO_2; clear HO_8; clear HO_9; clear HO_202002; clear HL206_0; clear BK200; clear BK201; clear BK202; clear HR206_0; clear HB; have HO_2 := n0_; have HO_8 := n1_; have HO_9 := n2_; have HO_202002 := n3_; have HL206_0 := n4_; have BK200 := n5_; have BK201 := n6_; have BK202 := n7_; have HR206_0 := n8_; have HB := n9_; have BK207 := n10_; have GW207 := n11_; have GE207 := n12_; have NB200_207 := n13_; have NB207_200 := n14_; have NB201_207 := n15_; have NB207_201 := n16_; have NB202_207 := n17_; have NB207_202 := n18_; clear n0_ n1_ n2_ n3_ n4_ n5_ n6_ n7_ n8_ n9_ n10_ n11_ n12_ n13_ n14_ n15_ n16_ n17_ n18_; clear hb hbox hg; have hnb22 := NB207_200.out; have hnc22 := NB200_207.out; have hnb23 := NB207_201.out; have hnc23 := NB201_207.out; have hnb24 := NB207_202.out; have hnc24 := NB202_207.out; have hcz25_0 : w21.cell? ⟨gb207, 0, none⟩ = some (.int .u64 0) := (blk_cell BK207.out 0).trans rfl; have hcz25_1 : w21.cell? ⟨gb207, 1, none⟩ = some (.int .u64 0) := (blk_cell BK207.out 1).trans rfl; have hcz25_2 : w21.cell? ⟨gb207, 2, none⟩ = some (.slice none 0 0) := (blk_cell BK207.out 2).trans rfl; have hfz25_0 := blk_frozen BK207.out 0; have hfz25_1 := blk_frozen BK207.out 1; have hfz25_2 := blk_frozen BK207.out 2) | ((with_reducible refine gate_store (t := 60) (p := 13) rfl ?_); refine store_event (t := 60) (p := 13) (v := ?vo_w26) (w1 := (((w21.setCell ⟨gb207, 0, none⟩ (.int .u64 0)).setCell ⟨gb207, 1, none⟩ (.int .u64 (IntKind.u64.wrap (a1_1 + (IntKind.u64.wrap (x18_1)))))).setCell ⟨gb207, 2, none⟩ (.slice A206_0 (rd_L1 l2 x18_1).length c206_0))) ?hg ?ho ?hn ?hr ?_; (case ho => rfl); (case hg => rfl); (case hn => rfl); (case hr => first | (go_simp; done) | (go_simp; rfl)); intro w26 hw; have n0_ : Aside0 (Kd.V (Kd.slice 5 (Kd.int .u8)) 27 w26 w.heap.size (fun k_ => ((P1_2_ k_ ∨ P2_ k_) ∨ w.heap.size ≤ k_) ∧ some k_ ≠ (u8 : Value).ownBlock ∧ some k_ ≠ (u9 : Value).ownBlock ∧ k_ ≠ gb200 ∧ k_ ≠ gb201 ∧ k_ ≠ gb202 ∧ k_ ≠ gb207) (.slice (some ad206) l2.length c2) l2) := ⟨(by rw [hw]; exact (by (with_reducible repeat (first | apply Kd.V_alloc | apply Kd.V_drewN | apply Kd.V_drew)); exact Kd.V_mono (Kd.V_far (p := ⟨gb207, 2, none⟩) (Kd.V_far (p := ⟨gb207, 1, none⟩) (Kd.V_far (p := ⟨gb207, 0, none⟩) (Kd.V_mono HO_2.out (fun k_ hk => (⟨hk, hk.2⟩ : _ ∧ k_ ≠ gb207))) (fun _ hk => hk.2) (.int .u64 0)) (fun _ hk => hk.2) (.int .u64 (IntKind.u64.wrap (a1_1 + (IntKind.u64.wrap (x18_1)))))) (fun _ hk => hk.2) (.slice A206_0 (rd_L1 l2 x18_1).length c206_0)) (fun _ hk => ⟨hk.1.1.1, ⟨hk.1.1.2.1, ⟨hk.1.1.2.2.1, ⟨hk.1.1.2.2.2.1, ⟨hk.1.1.2.2.2.2.1, ⟨hk.1.1.2.2.2.2.2, hk.1.2⟩⟩⟩⟩⟩⟩)))⟩; have n1_ : Aside0 (Kd.N k60 60 w26 w.heap.size (fun k_ => ((P1_2_ k_ ∨ P2_ k_) ∨ w.heap.size ≤ k_) ∧ some k_ ≠ (u9 : Value).ownBlock ∧ k_ ≠ gb200 ∧ k_ ≠ gb201 ∧ k_ ≠ gb202 ∧ k_ ≠ gb207) u8 x8_1) := ⟨(by rw [hw]; exact (by (with_reducible repeat (first | apply Kd.N_alloc | apply Kd.N_drewN | apply Kd.N_drew)); exact Kd.N_mono (Kd.N_far (p := ⟨gb207, 2, none⟩) (Kd.N_far (p := ⟨gb207, 1, none⟩) (Kd.N_far (p := ⟨gb207, 0, none⟩) (Kd.N_mono HO_8.out (fun k_ hk => (⟨hk, hk.2⟩ : _ ∧ k_ ≠ gb207))) (fun _ hk => hk.2) (.int .u64 0)) (fun _ hk => hk.2) (.int .u64 (IntKind.u64.wrap (a1_1 + (IntKind.u64.wrap (x18_1)))))) (fun _ hk => hk.2) (.slice A206_0 (rd_L1 l2 x18_1).length c206_0)) (fun _ hk => ⟨hk.1.1.1, ⟨hk.1.1.2.1, ⟨hk.1.1.2.2.1, ⟨hk.1.1.2.2.2.1, ⟨hk.1.1.2.2.2.2, hk.1.2⟩⟩⟩⟩⟩)))⟩; have n2_ : Aside0 (Kd.N k60 60 w26 w.heap.size (fun k_ => ((P1_2_ k_ ∨ P2_ k_) ∨ w.heap.size ≤ k_) ∧ some k_ ≠ (u8 : Value).ownBlock ∧ k_ ≠ gb200 ∧ k_ ≠ gb201 ∧ k_ ≠ gb202 ∧ k_ ≠ gb207) u9 x9_1) := ⟨(by rw [hw]; exact (by (with_reducible repeat (first | apply Kd.N_alloc | apply Kd.N_drewN | apply Kd.N_drew)); exact Kd.N_mono (Kd.N_far (p := ⟨gb207, 2, none⟩) (Kd.N_far (p := ⟨gb207, 1, none⟩) (Kd.N_far (p := ⟨gb207, 0, none⟩) (Kd.N_mono HO_9.out (fun k_ hk => (⟨hk, hk.2⟩ : _ ∧ k_ ≠ gb207))) (fun _ hk => hk.2) (.int .u64 0)) (fun _ hk => hk.2) (.int .u64 (IntKind.u64.wrap (a1_1 + (IntKind.u64.wrap (x18_1)))))) (fun _ hk => hk.2) (.slice A206_0 (rd_L1 l2 x18_1).length c206_0)) (fun _ hk => ⟨hk.1.1.1, ⟨hk.1.1.2.1, ⟨hk.1.1.2.2.1, ⟨hk.1.1.2.2.2.1, ⟨hk.1.1.2.2.2.2, hk.1.2⟩⟩⟩⟩⟩)))⟩; have n3_ : Aside0 (Kd.V (Kd.slice 5 (Kd.int .u8)) 27 w26 w.heap.size (fun k_ => ((P1_2_ k_ ∨ P2_ k_) ∨ w.heap.size ≤ k_) ∧ some k_ ≠ (u8 : Value).ownBlock ∧ some k_ ≠ (u9 : Value).ownBlock ∧ k_ ≠ gb200 ∧ k_ ≠ gb201 ∧ k_ ≠ gb202 ∧ k_ ≠ gb207) (.slice A1_2 l1_2.length c1_2) l1_2) := ⟨(by rw [hw]; exact (by (with_reducible repeat (first | apply Kd.V_alloc | apply Kd.V_drewN | apply Kd.V_drew)); exact Kd.V_mono (Kd.V_far (p := ⟨gb207, 2, none⟩) (Kd.V_far (p := ⟨gb207, 1, none⟩) (Kd.V_far (p := ⟨gb207, 0, none⟩) (Kd.V_mono HO_202002.out (fun k_ hk => (⟨hk, hk.2⟩ : _ ∧ k_ ≠ gb207))) (fun _ hk => hk.2) (.int .u64 0)) (fun _ hk => hk.2) (.int .u64 (IntKind.u64.wrap (a1_1 + (IntKind.u64.wrap (x18_1)))))) (fun _ hk => hk.2) (.slice A206_0 (rd_L1 l2 x18_1).length c206_0)) (fun _ hk => ⟨hk.1.1.1, ⟨hk.1.1.2.1, ⟨hk.1.1.2.2.1, ⟨hk.1.1.2.2.2.1, ⟨hk.1.1.2.2.2.2.1, ⟨hk.1.1.2.2.2.2.2, hk.1.2⟩⟩⟩⟩⟩⟩)))⟩; have n4_ : Aside0 (Kd.V (Kd.int .u8) 5 w26 w.heap.size (fun k_ => ((P1_2_ k_ ∨ P2_ k_) ∨ w.heap.size ≤ k_) ∧ some k_ ≠ (u8 : Value).ownBlock ∧ some k_ ≠ (u9 : Value).ownBlock ∧ k_ ≠ gb200 ∧ k_ ≠ gb201 ∧ k_ ≠ gb202 ∧ k_ ≠ gb207) (.slice A206_0 (rd_L1 l2 x18_1).length c206_0) (rd_L1 l2 x18_1)) := ⟨(by rw [hw]; exact (by (with_reducible repeat (first | apply Kd.V_alloc | apply Kd.V_drewN | apply Kd.V_drew)); exact Kd.V_mono (Kd.V_far (p := ⟨gb207, 2, none⟩) (Kd.V_far (p := ⟨gb207, 1, none⟩) (Kd.V_far (p := ⟨gb207, 0, none⟩) (Kd.V_mono HL206_0.out (fun k_ hk => (⟨hk, hk.2⟩ : _ ∧ k_ ≠ gb207))) (fun _ hk => hk.2) (.int .u64 0)) (fun _ hk => hk.2) (.int .u64 (IntKind.u64.wrap (a1_1 + (IntKind.u64.wrap (x18_1)))))) (fun _ hk => hk.2) (.slice A206_0 (rd_L1 l2 x18_1).length c206_0)) (fun _ hk => ⟨hk.1.1.1, ⟨hk.1.1.2.1, ⟨hk.1.1.2.2.1, ⟨hk.1.1.2.2.2.1, ⟨hk.1.1.2.2.2.2.1, ⟨hk.1.1.2.2.2.2.2, hk.1.2⟩⟩⟩⟩⟩⟩)))⟩; have n5_ : Aside0 (w26.heap[gb200]? = some (.cells #[.int .i64 a0_0, .int .i64 a0_1, .int .i64 a0_2, .int .u64 a0_3, .int .u64 a0_4, .int .u64 a0_5] 24 (0, 0))) := ⟨(by rw [hw]; exact (by (with_reducible repeat (first | refine blk_drewN ?_ _ | refine blk_drew ?_ | refine blk_alloc ?_ _)); refine blk_far ?_ NB200_207.out _; (with_reducible repeat (first | refine blk_drewN ?_ _ | refine blk_drew ?_ | refine blk_alloc ?_ _)); refine blk_far ?_ NB200_207.out _; (with_reducible repeat (first | refine blk_drewN ?_ _ | refine blk_drew ?_ | refine blk_alloc ?_ _)); refine blk_far ?_ NB200_207.out _; (with_reducible repeat (first | refine blk_drewN ?_ _ | refine blk_drew ?_ | refine blk_alloc ?_ _)); exact BK200.out))⟩; have n6_ : Aside0 (w26.heap[gb201]? = some (.cells #[.int .u64 a1_0, .int .u64 a1_1, .slice A1_2 l1_2.length c1_2] 39 (0, 0))) := ⟨(by rw [hw]; exact (by (with_reducible repeat (first | refine blk_drewN ?_ _ | refine blk_drew ?_ | refine blk_alloc ?_ _)); refine blk_far ?_ NB201_207.out _; (with_reducible repeat (first | refine blk_drewN ?_ _ | refine blk_drew ?_ | refine blk_alloc ?_ _)); refine blk_far ?_ NB201_207.out _; (with_reducible repeat (first | refine blk_drewN ?_ _ | refine blk_drew ?_ | refine blk_alloc ?_ _)); refine blk_far ?_ NB201_207.out _; (with_reducible repeat (first | refine blk_drewN ?_ _ | refine blk_drew ?_ | refine blk_alloc ?_ _)); exact BK201.out))⟩; have n7_ : Aside0 (w26.heap[gb202]? = some (.cells #[.int .u64 0, .int .u64 0, .slice none 0 0] 39 (0, 0))) := ⟨(by rw [hw]; exact (by (with_reducible repeat (first | refine blk_drewN ?_ _ | refine blk_drew ?_ | refine blk_alloc ?_ _)); refine blk_far ?_ NB202_207.out _; (with_reducible repeat (first | refine blk_drewN ?_ _ | refine blk_drew ?_ | refine blk_alloc ?_ _)); refine blk_far ?_ NB202_207.out _; (with_reducible repeat (first | refine blk_drewN ?_ _ | refine blk_drew ?_ | refine blk_alloc ?_ _)); refine blk_far ?_ NB202_207.out _; (with_reducible repeat (first | refine blk_drewN ?_ _ | refine blk_drew ?_ | refine blk_alloc ?_ _)); exact BK202.out))⟩; have n8_ : Aside0 (w26.heap[gb207]? = some (.cells #[.int .u64 0, .int .u64 (IntKind.u64.wrap (a1_1 + (IntKind.u64.wrap (x18_1)))), .slice A206_0 (rd_L1 l2 x18_1).length c206_0] 60 (0, 0))) := ⟨(by rw [hw]; exact (by (with_reducible repeat (first | refine blk_drewN ?_ _ | refine blk_drew ?_ | refine blk_alloc ?_ _)); refine blk_put (cs := #[.int .u64 0, .int .u64 (IntKind.u64.wrap (a1_1 + (IntKind.u64.wrap (x18_1)))), .slice none 0 0]) ?_ 2 _ rfl; (with_reducible repeat (first | refine blk_drewN ?_ _ | refine blk_drew ?_ | refine blk_alloc ?_ _)); refine blk_put (cs := #[.int .u64 0, .int .u64 0, .slice none 0 0]) ?_ 1 _ rfl; (with_reducible repeat (first | refine blk_drewN ?_ _ | refine blk_drew ?_ | refine blk_alloc ?_ _)); refine blk_put (cs := #[.int .u64 0, .int .u64 0, .slice none 0 0]) ?_ 0 _ rfl; (with_reducible repeat (first | refine blk_drewN ?_ _ | refine blk_drew ?_ | refine blk_alloc ?_ _)); exact BK207.out))⟩; have n9_ : Aside0 (Below w.heap.size w w26) := ⟨(by rw [hw]; exact bB)⟩; clear hw; clear HO_2; clear HO_8; clear HO_9; clear HO_202002; clear HL206_0; clear BK200; clear BK201; clear BK202; clear BK207; clear HB; have HO_2 := n0_; have HO_8 := n1_; have HO_9 := n2_; have HO_202002 := n3_; have HL206_0 := n4_; have BK200 := n5_; have BK201 := n6_; have BK202 := n7_; have BK207 := n8_; have HB := n9_; clear n0_ n1_ n2_ n3_ n4_ n5_ n6_ n7_ n8_ n9_; have hnb27 := NB200_202.out; have hnc27 := NB202_200.out; have hcz28_0 : w26.cell? ⟨gb200, 0, none⟩ = some (.int .i64 a0_0) := (blk_cell BK200.out 0).trans rfl; have hcz28_1 : w26.cell? ⟨gb200, 1, none⟩ = some (.int .i64 a0_1) := (blk_cell BK200.out 1).trans rfl; have hcz28_2 : w26.cell? ⟨gb200, 2, none⟩ = some (.int .i64 a0_2) := (blk_cell BK200.out 2).trans rfl; have hcz28_3 : w26.cell? ⟨gb200, 3, none⟩ = some (.int .u64 a0_3) := (blk_cell BK200.out 3).trans rfl; have hcz28_4 : w26.cell? ⟨gb200, 4, none⟩ = some (.int .u64 a0_4) := (blk_cell BK200.out 4).trans rfl; have hcz28_5 : w26.cell? ⟨gb200, 5, none⟩ = some (.int .u64 a0_5) := (blk_cell BK200.out 5).trans rfl; have hfz28_0 := blk_frozen BK200.out 0; have hfz28_1 := blk_frozen BK200.out 1; have hfz28_2 := blk_frozen BK200.out 2; have hfz28_3 := blk_frozen BK200.out 3; have hfz28_4 := blk_frozen BK200.out 4; have hfz28_5 := blk_frozen BK200.out 5; have hcz29_0 : w26.cell? ⟨gb207, 0, none⟩ = some (.int .u64 0) := (blk_cell BK207.out 0).trans rfl; have hcz29_1 : w26.cell? ⟨gb207, 1, none⟩ = some (.int .u64 (IntKind.u64.wrap (a1_1 + (IntKind.u64.wrap (x18_1))))) := (blk_cell BK207.out 1).trans rfl; have hcz29_2 : w26.cell? ⟨gb207, 2, none⟩ = some (.slice A206_0 (rd_L1 l2 x18_1).length c206_0) := (blk_cell BK207.out 2).trans rfl; have hfz29_0 := blk_frozen BK207.out 0; have hfz29_1 := blk_frozen BK207.out 1; have hfz29_2 := blk_frozen BK207.out 2; obtain ⟨Ao30, co30, eo30⟩ := Kd.N_slice HO_8.out; subst eo30) | ((with_reducible refine gate_callee (f := 59) rfl ?_); refine goesL_ (some 35) rfl rfl Tryd.func59 (by kernel_rfl) rfl #[.agg #[.int .i64 a0_0, .int .i64 a0_1, .int .i64 a0_2, .int .u64 a0_3, .int .u64 a0_4, .int .u64 a0_5], .slice Ao30 x8_1.length co30, .agg #[.int .u64 0, .int .u64 (IntKind.u64.wrap (a1_1 + (IntKind.u64.wrap (x18_1)))), .slice A206_0 (rd_L1 l2 x18_1).length c206_0]] rfl aV ?_; (with_reducible refine (spec_pushed.calls k1 a0_0 a0_1 a0_2 a0_3 a0_4 a0_5 (fun k_ => (((P1_2_ k_ ∨ P2_ k_) ∨ w.heap.size ≤ k_) ∧ (some k_ ≠ (u9 : Value).ownBlock ∧ (k_ ≠ gb200 ∧ (k_ ≠ gb201 ∧ (k_ ≠ gb202 ∧ k_ ≠ gb207)))))) _ _ x8_1 0 (IntKind.u64.wrap (a1_1 + (IntKind.u64.wrap (x18_1)))) (fun k_ => (((P1_2_ k_ ∨ P2_ k_) ∨ w.heap.size ≤ k_) ∧ (some k_ ≠ (.slice Ao30 x8_1.length co30 : Value).ownBlock ∧ (some k_ ≠ (u9 : Value).ownBlock ∧ (k_ ≠ gb200 ∧ (k_ ≠ gb201 ∧ (k_ ≠ gb202 ∧ k_ ≠ gb207))))))) _ _ (rd_L1 l2 x18_1) t208 t211 _ ?side1 ?side2 A15.out).mono ?_); (case side1 => first | exact Kd.N_V (HO_8.out) | exact Kd.V_mono Kd.N_V (HO_8.out) (fun k_ h_ => by simp only [and_assoc] at h_ ⊢; exact h_)); (case side2 => first | exact HL206_0.out | exact Kd.V_mono HL206_0.out (fun k_ h_ => by simp only [and_assoc] at h_ ⊢; exact h_)); rintro e w31 ⟨v209, v212, rfl, ho0, ho1, hb⟩; refine ⟨_, rfl, ?_⟩; have n0_ := Aside0.mk (Kd.V_mono (Kd.V_told (Kd.V_told (Kd.V_old (kV HO_2.out) hb) (Kd.N_base ho0)) (Kd.N_base ho1)) (fun _ h_ => h_.1)); have n1_ := Aside0.mk (Kd.N_mono (Kd.N_told (Kd.N_told (Kd.N_old (by (with_reducible repeat (first | apply Kd.N_alloc | apply Kd.N_drewN | apply Kd.N_drew)); exact HO_8.out) hb) (Kd.N_base ho0)) (Kd.N_base ho1)) (fun _ h_ => h_.1)); have n2_ := Aside0.mk (Kd.N_mono (Kd.N_told (Kd.N_told (Kd.N_old (by (with_reducible repeat (first | apply Kd.N_alloc | apply Kd.N_drewN | apply Kd.N_drew)); exact HO_9.out) hb) (Kd.N_base ho0)) (Kd.N_base ho1)) (fun _ h_ => h_.1)); have n3_ := Aside0.mk (Kd.V_mono (Kd.V_told (Kd.V_told (Kd.V_old (kV HO_202002.out) hb) (Kd.N_base ho0)) (Kd.N_base ho1)) (fun _ h_ => h_.1)); have n4_ := Aside0.mk (Kd.V_mono (Kd.V_told (Kd.V_told (Kd.V_old (kV HL206_0.out) hb) (Kd.N_base ho0)) (Kd.N_base ho1)) (fun _ h_ => h_.1)); have n5_ := Aside0.mk (Kd.N_lower (Kd.N_mono (ok' := fun k_ => ((P1_2_ k_ ∨ P2_ k_) ∨ w.heap.size ≤ k_) ∧ some k_ ≠ (v212 : Value).ownBlock ∧ some k_ ≠ (u9 : Value).ownBlock ∧ k_ ≠ gb200 ∧ k_ ≠ gb201 ∧ k_ ≠ gb202 ∧ k_ ≠ gb207) ho0 (fun k_ hk_ => ⟨Or.elim hk_.1 (fun hs_ => Or.elim hs_ (fun hs_ => hs_.1) (fun hs_ => hs_.1)) (fun hn_ => (.inr (Nat.le_trans (below_size bB) hn_))), hk_.2, Or.elim hk_.1 (fun hs_ => Or.elim hs_ (fun hs_ => hs_.2.1) (fun hs_ => hs_.2.2.1)) (fun hn_ => (Kd.fresh' (Kd.N_lt (by (with_reducible repeat (first | apply Kd.N_alloc | apply Kd.N_drewN | apply Kd.N_drew)); exact HO_9.out)) k_ hn_)), Or.elim hk_.1 (fun hs_ => Or.elim hs_ (fun hs_ => hs_.2.2.1) (fun hs_ => hs_.2.2.2.1)) (fun hn_ => (Kd.freshB (g := gb200) (o := .cells #[.int .i64 a0_0, .int .i64 a0_1, .int .i64 a0_2, .int .u64 a0_3, .int .u64 a0_4, .int .u64 a0_5] 24 (0, 0)) (kB BK200.out) k_ hn_)), Or.elim hk_.1 (fun hs_ => Or.elim hs_ (fun hs_ => hs_.2.2.2.1) (fun hs_ => hs_.2.2.2.2.1)) (fun hn_ => (Kd.freshB (g := gb201) (o := .cells #[.int .u64 a1_0, .int .u64 a1_1, .slice A1_2 l1_2.length c1_2] 39 (0, 0)) (kB BK201.out) k_ hn_)), Or.elim hk_.1 (fun hs_ => Or.elim hs_ (fun hs_ => hs_.2.2.2.2.1) (fun hs_ => hs_.2.2.2.2.2.1)) (fun hn_ => (Kd.freshB (g := gb202) (o := .cells #[.int .u64 0, .int .u64 0, .slice none 0 0] 39 (0, 0)) (kB BK202.out) k_ hn_)), Or.elim hk_.1 (fun hs_ => Or.elim hs_ (fun hs_ => hs_.2.2.2.2.2) (fun hs_ => hs_.2.2.2.2.2.2)) (fun hn_ => (Kd.freshB (g := gb207) (o := .cells #[.int .u64 0, .int .u64 (IntKind.u64.wrap (a1_1 + (IntKind.u64.wrap (x18_1)))), .slice A206_0 (rd_L1 l2 x18_1).length c206_0] 60 (0, 0)) (kB BK207.out) k_ hn_))⟩)) (below_size bB)); have n6_ := Aside0.mk (Kd.N_lower (Kd.N_mono (ok' := fun k_ => ((P1_2_ k_ ∨ P2_ k_) ∨ w.heap.size ≤ k_) ∧ some k_ ≠ (v209 : Value).ownBlock ∧ some k_ ≠ (u9 : Value).ownBlock ∧ k_ ≠ gb200 ∧ k_ ≠ gb201 ∧ k_ ≠ gb202 ∧ k_ ≠ gb207) ho1 (fun k_ hk_ => ⟨Or.elim hk_.1 (fun hs_ => Or.elim hs_ (fun hs_ => hs_.1) (fun hs_ => hs_.1)) (fun hn_ => (.inr (Nat.le_trans (below_size bB) hn_))), hk_.2, Or.elim hk_.1 (fun hs_ => Or.elim hs_ (fun hs_ => hs_.2.1) (fun hs_ => hs_.2.2.1)) (fun hn_ => (Kd.fresh' (Kd.N_lt (by (with_reducible repeat (first | apply Kd.N_alloc | apply Kd.N_drewN | apply Kd.N_drew)); exact HO_9.out)) k_ hn_)), Or.elim hk_.1 (fun hs_ => Or.elim hs_ (fun hs_ => hs_.2.2.1) (fun hs_ => hs_.2.2.2.1)) (fun hn_ => (Kd.freshB (g := gb200) (o := .cells #[.int .i64 a0_0, .int .i64 a0_1, .int .i64 a0_2, .int .u64 a0_3, .int .u64 a0_4, .int .u64 a0_5] 24 (0, 0)) (kB BK200.out) k_ hn_)), Or.elim hk_.1 (fun hs_ => Or.elim hs_ (fun hs_ => hs_.2.2.2.1) (fun hs_ => hs_.2.2.2.2.1)) (fun hn_ => (Kd.freshB (g := gb201) (o := .cells #[.int .u64 a1_0, .int .u64 a1_1, .slice A1_2 l1_2.length c1_2] 39 (0, 0)) (kB BK201.out) k_ hn_)), Or.elim hk_.1 (fun hs_ => Or.elim hs_ (fun hs_ => hs_.2.2.2.2.1) (fun hs_ => hs_.2.2.2.2.2.1)) (fun hn_ => (Kd.freshB (g := gb202) (o := .cells #[.int .u64 0, .int .u64 0, .slice none 0 0] 39 (0, 0)) (kB BK202.out) k_ hn_)), Or.elim hk_.1 (fun hs_ => Or.elim hs_ (fun hs_ => hs_.2.2.2.2.2) (fun hs_ => hs_.2.2.2.2.2.2)) (fun hn_ => (Kd.freshB (g := gb207) (o := .cells #[.int .u64 0, .int .u64 (IntKind.u64.wrap (a1_1 + (IntKind.u64.wrap (x18_1)))), .slice A206_0 (rd_L1 l2 x18_1).length c206_0] 60 (0, 0)) (kB BK207.out) k_ hn_))⟩)) (below_size bB)); have n7_ := Aside0.mk (blk_below (g := gb200) (o := .cells #[.int .i64 a0_0, .int .i64 a0_1, .int .i64 a0_2, .int .u64 a0_3, .int .u64 a0_4, .int .u64 a0_5] 24 (0, 0)) (kB BK200.out) hb); have n8_ := Aside0.mk (blk_below (g := gb201) (o := .cells #[.int .u64 a1_0, .int .u64 a1_1, .slice A1_2 l1_2.length c1_2] 39 (0, 0)) (kB BK201.out) hb); have n9_ := Aside0.mk (blk_below (g := gb202) (o := .cells #[.int .u64 0, .int .u64 0, .slice none 0 0] 39 (0, 0)) (kB BK202.out) hb); have n10_ := Aside0.mk (Kd.C_below (Kd.V_reads' HL206_0.out).2.2 hb); have n11_ := Aside0.mk (blk_below (g := gb207) (o := .cells #[.int .u64 0, .int .u64 (IntKind.u64.wrap (a1_1 + (IntKind.u64.wrap (x18_1)))), .slice A206_0 (rd_L1 l2 x18_1).length c206_0] 60 (0, 0)) (kB BK207.out) hb); have n12_ := Aside0.mk (below_step bB hb); clear HO_2; clear HO_8; clear HO_9; clear HO_202002; clear HL206_0; clear BK200; clear BK201; clear BK202; clear HR206_0; clear BK207; clear HB; have HO_2 := n0_; have HO_8 := n1_; have HO_9 := n2_; have HO_202002 := n3_; have HL206_0 := n4_; have HO210 := n5_; have HO213 := n6_; have BK200 := n7_; have BK201 := n8_; have BK202 := n9_; have HR206_0 := n10_; have BK207 := n11_; have HB := n12_; clear n0_ n1_ n2_ n3_ n4_ n5_ n6_ n7_ n8_ n9_ n10_ n11_ n12_; (try clear hb); (try clear hb2); (try clear hk); (try clear hi); (try clear ho0); (try clear ho1); have hcz32_0 : w31.cell? ⟨gb207, 0, none⟩ = some (.int .u64 0) := (blk_cell BK207.out 0).trans rfl; have hcz32_1 : w31.cell? ⟨gb207, 1, none⟩ = some (.int .u64 (IntKind.u64.wrap (a1_1 + (IntKind.u64.wrap (x18_1))))) := (blk_cell BK207.out 1).trans rfl; have hcz32_2 : w31.cell? ⟨gb207, 2, none⟩ = some (.slice A206_0 (rd_L1 l2 x18_1).length c206_0) := (blk_cell BK207.out 2).trans rfl; have hfz32_0 := blk_frozen BK207.out 0; have hfz32_1 := blk_frozen BK207.out 1; have hfz32_2 := blk_frozen BK207.out 2) | ((with_reducible refine gate_builtin (b := .append) (xs := #[.tmp 38, .tmp 40]) rfl ?_); at_builtin; refine Kd.N_append k60 (w0 := w) w.heap.size rfl (.tmp 38) (.tmp 40) 42 60 (.agg #[(.int .u64 0), (.int .u64 0), (.slice none 0 0)]) 40 rfl Tryd.underlying42 info60 rfl (by decide) (by omega) u9 x9_1 (⟨(⟨0, IntKind.u64.wrap (a1_1 + (IntKind.u64.wrap (x18_1)))⟩ : S54), rd_L1 l2 x18_1⟩ : S60) [.int .u64 0, .int .u64 (IntKind.u64.wrap (a1_1 + (IntKind.u64.wrap (x18_1)))), .slice A206_0 (rd_L1 l2 x18_1).length c206_0] (fun k_ => ((P1_2_ k_ ∨ P2_ k_) ∨ w.heap.size ≤ k_) ∧ some k_ ≠ (.slice Ao30 x8_1.length co30 : Value).ownBlock ∧ some k_ ≠ (v209 : Value).ownBlock ∧ some k_ ≠ (v212 : Value).ownBlock ∧ k_ ≠ gb200 ∧ k_ ≠ gb201 ∧ k_ ≠ gb202 ∧ k_ ≠ gb207) (fun k_ => ((fun k_ => ((P1_2_ k_ ∨ P2_ k_) ∨ w.heap.size ≤ k_) ∧ some k_ ≠ (.slice Ao30 x8_1.length co30 : Value).ownBlock ∧ some k_ ≠ (v209 : Value).ownBlock ∧ some k_ ≠ (v212 : Value).ownBlock ∧ k_ ≠ gb200 ∧ k_ ≠ gb201 ∧ k_ ≠ gb202 ∧ k_ ≠ gb207)) k_ ∧ some k_ ≠ (u9 : Value).ownBlock) rfl rfl ?aP (fun _ hk => hk) ?aF ?aO ?aB ?aS ?aL ?_; (case aP => exact (k60_mkF _ _ (⟨(⟨0, IntKind.u64.wrap (a1_1 + (IntKind.u64.wrap (x18_1)))⟩ : S54), rd_L1 l2 x18_1⟩ : S60) (Kd.V_reads' (Kd.V_mono (ok' := (fun k_ => ((fun k_ => ((P1_2_ k_ ∨ P2_ k_) ∨ w.heap.size ≤ k_) ∧ some k_ ≠ (.slice Ao30 x8_1.length co30 : Value).ownBlock ∧ some k_ ≠ (v209 : Value).ownBlock ∧ some k_ ≠ (v212 : Value).ownBlock ∧ k_ ≠ gb200 ∧ k_ ≠ gb201 ∧ k_ ≠ gb202 ∧ k_ ≠ gb207)) k_ ∧ some k_ ≠ (u9 : Value).ownBlock)) (HL206_0.out) (fun k_ hk => ⟨⟨hk.1.1.1, ⟨hk.1.1.2.1, ⟨hk.1.2, ⟨hk.2, ⟨hk.1.1.2.2.2.1, ⟨hk.1.1.2.2.2.2.1, ⟨hk.1.1.2.2.2.2.2.1, hk.1.1.2.2.2.2.2.2⟩⟩⟩⟩⟩⟩⟩, hk.1.1.2.2.1⟩))).2.1 (Kd.V_F (Kd.V_mono (ok' := (fun k_ => ((fun k_ => ((P1_2_ k_ ∨ P2_ k_) ∨ w.heap.size ≤ k_) ∧ some k_ ≠ (.slice Ao30 x8_1.length co30 : Value).ownBlock ∧ some k_ ≠ (v209 : Value).ownBlock ∧ some k_ ≠ (v212 : Value).ownBlock ∧ k_ ≠ gb200 ∧ k_ ≠ gb201 ∧ k_ ≠ gb202 ∧ k_ ≠ gb207)) k_ ∧ some k_ ≠ (u9 : Value).ownBlock)) (HL206_0.out) (fun k_ hk => ⟨⟨hk.1.1.1, ⟨hk.1.1.2.1, ⟨hk.1.2, ⟨hk.2, ⟨hk.1.1.2.2.2.1, ⟨hk.1.1.2.2.2.2.1, ⟨hk.1.1.2.2.2.2.2.1, hk.1.1.2.2.2.2.2.2⟩⟩⟩⟩⟩⟩⟩, hk.1.1.2.2.1⟩))))); (case aB => exact bB); (case aF => exact (fun k_ hk => ⟨(.inr (Nat.le_trans (below_size bB) hk)), Kd.fresh' (Kd.N_lt (by (with_reducible repeat (first | apply Kd.N_alloc | apply Kd.N_drewN | apply Kd.N_drew)); exact HO_8.out)) k_ hk, Kd.fresh' (Kd.N_lt (by (with_reducible repeat (first | apply Kd.N_alloc | apply Kd.N_drewN | apply Kd.N_drew)); exact HO210.out)) k_ hk, Kd.fresh' (Kd.N_lt (by (with_reducible repeat (first | apply Kd.N_alloc | apply Kd.N_drewN | apply Kd.N_drew)); exact HO213.out)) k_ hk, Kd.freshB (g := gb200) (o := .cells #[.int .i64 a0_0, .int .i64 a0_1, .int .i64 a0_2, .int .u64 a0_3, .int .u64 a0_4, .int .u64 a0_5] 24 (0, 0)) (kB BK200.out) k_ hk, Kd.freshB (g := gb201) (o := .cells #[.int .u64 a1_0, .int .u64 a1_1, .slice A1_2 l1_2.length c1_2] 39 (0, 0)) (kB BK201.out) k_ hk, Kd.freshB (g := gb202) (o := .cells #[.int .u64 0, .int .u64 0, .slice none 0 0] 39 (0, 0)) (kB BK202.out) k_ hk, Kd.freshB (g := gb207) (o := .cells #[.int .u64 0, .int .u64 (IntKind.u64.wrap (a1_1 + (IntKind.u64.wrap (x18_1)))), .slice A206_0 (rd_L1 l2 x18_1).length c206_0] 60 (0, 0)) (kB BK207.out) k_ hk⟩)); (case aO => exact (by (with_reducible repeat (first | apply Kd.N_alloc | apply Kd.N_drewN | apply Kd.N_drew)); exact Kd.N_mono HO_9.out (fun _ hk => ⟨hk.1.1.1, ⟨hk.1.1.2.1, ⟨hk.1.2, ⟨hk.2, ⟨hk.1.1.2.2.1, ⟨hk.1.1.2.2.2.1, ⟨hk.1.1.2.2.2.2.1, hk.1.1.2.2.2.2.2⟩⟩⟩⟩⟩⟩⟩))); (case aS => exact (below_size bB)); (case aL => have := LMc16.out; omega); intro v215 w33 ho hb hg hat; rw [← Ny214.out] at ho; have n0_ := Aside0.mk (Kd.V_afterv (ok := (fun k_ => ((P1_2_ k_ ∨ P2_ k_) ∨ w.heap.size ≤ k_) ∧ some k_ ≠ (.slice Ao30 x8_1.length co30 : Value).ownBlock ∧ some k_ ≠ (v209 : Value).ownBlock ∧ some k_ ≠ (v212 : Value).ownBlock ∧ k_ ≠ gb200 ∧ k_ ≠ gb201 ∧ k_ ≠ gb202 ∧ k_ ≠ gb207)) (by (with_reducible repeat (first | apply Kd.V_alloc | apply Kd.V_drewN | apply Kd.V_drew)); exact Kd.V_mono HO_2.out (fun _ hk => ⟨⟨hk.1.1.1, ⟨hk.1.1.2.1, ⟨hk.1.2, ⟨hk.2, ⟨hk.1.1.2.2.2.1, ⟨hk.1.1.2.2.2.2.1, ⟨hk.1.1.2.2.2.2.2.1, hk.1.1.2.2.2.2.2.2⟩⟩⟩⟩⟩⟩⟩, hk.1.1.2.2.1⟩)) hg hat); have n1_ := Aside0.mk (Kd.N_afterv (ok := (fun k_ => ((P1_2_ k_ ∨ P2_ k_) ∨ w.heap.size ≤ k_) ∧ some k_ ≠ (v209 : Value).ownBlock ∧ some k_ ≠ (v212 : Value).ownBlock ∧ k_ ≠ gb200 ∧ k_ ≠ gb201 ∧ k_ ≠ gb202 ∧ k_ ≠ gb207)) (by (with_reducible repeat (first | apply Kd.N_alloc | apply Kd.N_drewN | apply Kd.N_drew)); exact Kd.N_mono HO_8.out (fun _ hk => ⟨⟨hk.1.1.1, ⟨hk.1.2, ⟨hk.2, ⟨hk.1.1.2.2.1, ⟨hk.1.1.2.2.2.1, ⟨hk.1.1.2.2.2.2.1, hk.1.1.2.2.2.2.2⟩⟩⟩⟩⟩⟩, hk.1.1.2.1⟩)) hg hat); have n2_ := Aside0.mk (Kd.V_afterv (ok := (fun k_ => ((P1_2_ k_ ∨ P2_ k_) ∨ w.heap.size ≤ k_) ∧ some k_ ≠ (.slice Ao30 x8_1.length co30 : Value).ownBlock ∧ some k_ ≠ (v209 : Value).ownBlock ∧ some k_ ≠ (v212 : Value).ownBlock ∧ k_ ≠ gb200 ∧ k_ ≠ gb201 ∧ k_ ≠ gb202 ∧ k_ ≠ gb207)) (by (with_reducible repeat (first | apply Kd.V_alloc | apply Kd.V_drewN | apply Kd.V_drew)); exact Kd.V_mono HO_202002.out (fun _ hk => ⟨⟨hk.1.1.1, ⟨hk.1.1.2.1, ⟨hk.1.2, ⟨hk.2, ⟨hk.1.1.2.2.2.1, ⟨hk.1.1.2.2.2.2.1, ⟨hk.1.1.2.2.2.2.2.1, hk.1.1.2.2.2.2.2.2⟩⟩⟩⟩⟩⟩⟩, hk.1.1.2.2.1⟩)) hg hat); have n3_ := Aside0.mk (blk_grown (g := gb200) (o := .cells #[.int .i64 a0_0, .int .i64 a0_1, .int .i64 a0_2, .int .u64 a0_3, .int .u64 a0_4, .int .u64 a0_5] 24 (0, 0)) (kB BK200.out) hg (Kd.N_ne HO_9.out BK200.out (by decide))); have n4_ := Aside0.mk (blk_grown (g := gb201) (o := .cells #[.int .u64 a1_0, .int .u64 a1_1, .slice A1_2 l1_2.length c1_2] 39 (0, 0)) (kB BK201.out) hg (Kd.N_ne HO_9.out BK201.out (by decide))); have n5_ := Aside0.mk (blk_grown (g := gb202) (o := .cells #[.int .u64 0, .int .u64 0, .slice none 0 0] 39 (0, 0)) (kB BK202.out) hg (Kd.N_ne HO_9.out BK202.out (by decide))); have n6_ := Aside0.mk (Kd.V_afterv (ok := (fun k_ => ((P1_2_ k_ ∨ P2_ k_) ∨ w.heap.size ≤ k_) ∧ some k_ ≠ (.slice Ao30 x8_1.length co30 : Value).ownBlock ∧ some k_ ≠ (v209 : Value).ownBlock ∧ some k_ ≠ (v212 : Value).ownBlock ∧ k_ ≠ gb200 ∧ k_ ≠ gb201 ∧ k_ ≠ gb202 ∧ k_ ≠ gb207)) (by (with_reducible repeat (first | apply Kd.V_alloc | apply Kd.V_drewN | apply Kd.V_drew)); exact Kd.V_mono HL206_0.out (fun _ hk => ⟨⟨hk.1.1.1, ⟨hk.1.1.2.1, ⟨hk.1.2, ⟨hk.2, ⟨hk.1.1.2.2.2.1, ⟨hk.1.1.2.2.2.2.1, ⟨hk.1.1.2.2.2.2.2.1, hk.1.1.2.2.2.2.2.2⟩⟩⟩⟩⟩⟩⟩, hk.1.1.2.2.1⟩)) hg hat); have n7_ := Aside0.mk (blk_grown (g := gb207) (o := .cells #[.int .u64 0, .int .u64 (IntKind.u64.wrap (a1_1 + (IntKind.u64.wrap (x18_1)))), .slice A206_0 (rd_L1 l2 x18_1).length c206_0] 60 (0, 0)) (kB BK207.out) hg (Kd.N_away HO_9.out (fun _ hk => hk.1.1.2.2.2.2.2))); have n8_ := Aside0.mk (Kd.N_afterv (ok := (fun k_ => ((P1_2_ k_ ∨ P2_ k_) ∨ w.heap.size ≤ k_) ∧ some k_ ≠ (v212 : Value).ownBlock ∧ k_ ≠ gb200 ∧ k_ ≠ gb201 ∧ k_ ≠ gb202 ∧ k_ ≠ gb207)) (by (with_reducible repeat (first | apply Kd.N_alloc | apply Kd.N_drewN | apply Kd.N_drew)); exact Kd.N_mono HO210.out (fun _ hk => ⟨⟨hk.1, ⟨hk.2.1, ⟨hk.2.2.2.1, ⟨hk.2.2.2.2.1, ⟨hk.2.2.2.2.2.1, hk.2.2.2.2.2.2⟩⟩⟩⟩⟩, hk.2.2.1⟩)) hg hat); have n9_ := Aside0.mk (Kd.N_afterv (ok := (fun k_ => ((P1_2_ k_ ∨ P2_ k_) ∨ w.heap.size ≤ k_) ∧ some k_ ≠ (v209 : Value).ownBlock ∧ k_ ≠ gb200 ∧ k_ ≠ gb201 ∧ k_ ≠ gb202 ∧ k_ ≠ gb207)) (by (with_reducible repeat (first | apply Kd.N_alloc | apply Kd.N_drewN | apply Kd.N_drew)); exact Kd.N_mono HO213.out (fun _ hk => ⟨⟨hk.1, ⟨hk.2.1, ⟨hk.2.2.2.1, ⟨hk.2.2.2.2.1, ⟨hk.2.2.2.2.2.1, hk.2.2.2.2.2.2⟩⟩⟩⟩⟩, hk.2.2.1⟩)) hg hat); have n10_ := Aside0.mk (hb); have n11_ := Aside0.mk (ho); clear HO_2; clear HO_8; clear HO_202002; clear BK200; clear BK201; clear BK202; clear HL206_0; clear BK207; clear HO210; clear HO213; clear HB; clear HO_9; have HO_2 := n0_; have HO_8 := n1_; have HO_202002 := n2_; have BK200 := n3_; have BK201 := n4_; have BK202 := n5_; have HL206_0 := n6_; have BK207 := n7_; have HO210 := n8_; have HO213 := n9_; have HB := n10_; have HO216 := n11_; clear n0_ n1_ n2_ n3_ n4_ n5_ n6_ n7_ n8_ n9_ n10_ n11_; clear ho hb hg hat; obtain ⟨Ao35, co35, eo35⟩ := Kd.N_slice HO213.out; subst eo35) | ((with_reducible refine gate_builtin (b := .append) (xs := #[.tmp 41, .tmp 42]) rfl ?_); at_builtin; refine Kd.N_append_rows k60 (w0 := w) w.heap.size rfl (.tmp 41) (.tmp 42) 42 60 (.agg #[(.int .u64 0), (.int .u64 0), (.slice none 0 0)]) 40 rfl Tryd.underlying42 info60 rfl (by decide) (by omega) v215 y214 t211 _ _ _ (fun k_ => ((P1_2_ k_ ∨ P2_ k_) ∨ w.heap.size ≤ k_) ∧ some k_ ≠ (v209 : Value).ownBlock ∧ k_ ≠ gb200 ∧ k_ ≠ gb201 ∧ k_ ≠ gb202 ∧ k_ ≠ gb207) (fun k_ => ((fun k_ => ((P1_2_ k_ ∨ P2_ k_) ∨ w.heap.size ≤ k_) ∧ some k_ ≠ (v209 : Value).ownBlock ∧ k_ ≠ gb200 ∧ k_ ≠ gb201 ∧ k_ ≠ gb202 ∧ k_ ≠ gb207)) k_ ∧ some k_ ≠ (v215 : Value).ownBlock) rfl rfl ?aO ?aR (fun _ hk => hk) ?aF ?aB ?aS ?aL ?_; (case aR => exact (by skip; exact Kd.N_F (Kd.N_mono (ok' := (fun k_ => ((fun k_ => ((P1_2_ k_ ∨ P2_ k_) ∨ w.heap.size ≤ k_) ∧ some k_ ≠ (v209 : Value).ownBlock ∧ k_ ≠ gb200 ∧ k_ ≠ gb201 ∧ k_ ≠ gb202 ∧ k_ ≠ gb207)) k_ ∧ some k_ ≠ (v215 : Value).ownBlock)) (HO213.out) (fun k_ hk => ⟨⟨hk.1.1, ⟨hk.1.2.1, ⟨hk.1.2.2.1, ⟨hk.1.2.2.2.1, ⟨hk.1.2.2.2.2.1, hk.1.2.2.2.2.2⟩⟩⟩⟩⟩, hk.2⟩)))); (case aB => exact bB); (case aF => exact (fun k_ hk => ⟨(.inr (Nat.le_trans (below_size bB) hk)), Kd.fresh' (Kd.N_lt (by (with_reducible repeat (first | apply Kd.N_alloc | apply Kd.N_drewN | apply Kd.N_drew)); exact HO210.out)) k_ hk, Kd.freshB (g := gb200) (o := .cells #[.int .i64 a0_0, .int .i64 a0_1, .int .i64 a0_2, .int .u64 a0_3, .int .u64 a0_4, .int .u64 a0_5] 24 (0, 0)) (kB BK200.out) k_ hk, Kd.freshB (g := gb201) (o := .cells #[.int .u64 a1_0, .int .u64 a1_1, .slice A1_2 l1_2.length c1_2] 39 (0, 0)) (kB BK201.out) k_ hk, Kd.freshB (g := gb202) (o := .cells #[.int .u64 0, .int .u64 0, .slice none 0 0] 39 (0, 0)) (kB BK202.out) k_ hk, Kd.freshB (g := gb207) (o := .cells #[.int .u64 0, .int .u64 (IntKind.u64.wrap (a1_1 + (IntKind.u64.wrap (x18_1)))), .slice A206_0 (rd_L1 l2 x18_1).length c206_0] 60 (0, 0)) (kB BK207.out) k_ hk⟩)); (case aO => exact (by (with_reducible repeat (first | apply Kd.N_alloc | apply Kd.N_drewN | apply Kd.N_drew)); exact Kd.N_mono HO216.out (fun _ hk => ⟨hk.1, ⟨hk.2.2.1, ⟨hk.2.2.2.2.1, ⟨hk.2.2.2.2.2.1, ⟨hk.2.2.2.2.2.2.1, hk.2.2.2.2.2.2.2⟩⟩⟩⟩⟩))); (case aS => exact (below_size bB)); (case aL => have := LMc17.out; omega); intro v218 w34 ho hb hg hat; rw [← Ny217.out] at ho; have n0_ := Aside0.mk (Kd.V_afterv (ok := (fun k_ => ((P1_2_ k_ ∨ P2_ k_) ∨ w.heap.size ≤ k_) ∧ some k_ ≠ (.slice Ao30 x8_1.length co30 : Value).ownBlock ∧ some k_ ≠ (v209 : Value).ownBlock ∧ some k_ ≠ (.slice Ao35 t211.length co35 : Value).ownBlock ∧ k_ ≠ gb200 ∧ k_ ≠ gb201 ∧ k_ ≠ gb202 ∧ k_ ≠ gb207)) (kV HO_2.out) hg hat); have n1_ := Aside0.mk (Kd.N_afterv (ok := (fun k_ => ((P1_2_ k_ ∨ P2_ k_) ∨ w.heap.size ≤ k_) ∧ some k_ ≠ (v209 : Value).ownBlock ∧ some k_ ≠ (.slice Ao35 t211.length co35 : Value).ownBlock ∧ k_ ≠ gb200 ∧ k_ ≠ gb201 ∧ k_ ≠ gb202 ∧ k_ ≠ gb207)) (by (with_reducible repeat (first | apply Kd.N_alloc | apply Kd.N_drewN | apply Kd.N_drew)); exact HO_8.out) hg hat); have n2_ := Aside0.mk (Kd.V_afterv (ok := (fun k_ => ((P1_2_ k_ ∨ P2_ k_) ∨ w.heap.size ≤ k_) ∧ some k_ ≠ (.slice Ao30 x8_1.length co30 : Value).ownBlock ∧ some k_ ≠ (v209 : Value).ownBlock ∧ some k_ ≠ (.slice Ao35 t211.length co35 : Value).ownBlock ∧ k_ ≠ gb200 ∧ k_ ≠ gb201 ∧ k_ ≠ gb202 ∧ k_ ≠ gb207)) (kV HO_202002.out) hg hat); have n3_ := Aside0.mk (blk_grown (g := gb200) (o := .cells #[.int .i64 a0_0, .int .i64 a0_1, .int .i64 a0_2, .int .u64 a0_3, .int .u64 a0_4, .int .u64 a0_5] 24 (0, 0)) (kB BK200.out) hg (Kd.N_ne HO216.out BK200.out (by decide))); have n4_ := Aside0.mk (blk_grown (g := gb201) (o := .cells #[.int .u64 a1_0, .int .u64 a1_1, .slice A1_2 l1_2.length c1_2] 39 (0, 0)) (kB BK201.out) hg (Kd.N_ne HO216.out BK201.out (by decide))); have n5_ := Aside0.mk (blk_grown (g := gb202) (o := .cells #[.int .u64 0, .int .u64 0, .slice none 0 0] 39 (0, 0)) (kB BK202.out) hg (Kd.N_ne HO216.out BK202.out (by decide))); have n6_ := Aside0.mk (Kd.V_afterv (ok := (fun k_ => ((P1_2_ k_ ∨ P2_ k_) ∨ w.heap.size ≤ k_) ∧ some k_ ≠ (.slice Ao30 x8_1.length co30 : Value).ownBlock ∧ some k_ ≠ (v209 : Value).ownBlock ∧ some k_ ≠ (.slice Ao35 t211.length co35 : Value).ownBlock ∧ k_ ≠ gb200 ∧ k_ ≠ gb201 ∧ k_ ≠ gb202 ∧ k_ ≠ gb207)) (kV HL206_0.out) hg hat); have n7_ := Aside0.mk (blk_grown (g := gb207) (o := .cells #[.int .u64 0, .int .u64 (IntKind.u64.wrap (a1_1 + (IntKind.u64.wrap (x18_1)))), .slice A206_0 (rd_L1 l2 x18_1).length c206_0] 60 (0, 0)) (kB BK207.out) hg (Kd.N_away HO216.out (fun _ hk => hk.2.2.2.2.2.2.2))); have n8_ := Aside0.mk (Kd.N_afterv (ok := (fun k_ => ((P1_2_ k_ ∨ P2_ k_) ∨ w.heap.size ≤ k_) ∧ some k_ ≠ (.slice Ao35 t211.length co35 : Value).ownBlock ∧ k_ ≠ gb200 ∧ k_ ≠ gb201 ∧ k_ ≠ gb202 ∧ k_ ≠ gb207)) (by (with_reducible repeat (first | apply Kd.N_alloc | apply Kd.N_drewN | apply Kd.N_drew)); exact HO210.out) hg hat); have n9_ := Aside0.mk (Kd.N_afterv (ok := (fun k_ => ((P1_2_ k_ ∨ P2_ k_) ∨ w.heap.size ≤ k_) ∧ some k_ ≠ (v209 : Value).ownBlock ∧ k_ ≠ gb200 ∧ k_ ≠ gb201 ∧ k_ ≠ gb202 ∧ k_ ≠ gb207)) (by (with_reducible repeat (first | apply Kd.N_alloc | apply Kd.N_drewN | apply Kd.N_drew)); exact HO213.out) hg hat); have n10_ := Aside0.mk (hb); have n11_ := Aside0.mk (ho); clear HO_2; clear HO_8; clear HO_202002; clear BK200; clear BK201; clear BK202; clear HL206_0; clear BK207; clear HO210; clear HO213; clear HB; clear HO216; have HO_2 := n0_; have HO_8 := n1_; have HO_202002 := n2_; have BK200 := n3_; have BK201 := n4_; have BK202 := n5_; have HL206_0 := n6_; have BK207 := n7_; have HO210 := n8_; have HO213 := n9_; have HB := n10_; have HO219 := n11_; clear n0_ n1_ n2_ n3_ n4_ n5_ n6_ n7_ n8_ n9_ n10_ n11_; clear ho hb hg hat))
        go_roundg k1
        case measure => have := HK1.out; omega
        case rel => exact ⟨(t208), (y217), (wrap64 (x18_1 + 1)), (by first | rfl | (simp; done) | (simp [*]; done)), H', ⟨by have := HK1.out; omega⟩, ⟨by (with_reducible repeat (first | apply Kd.V_alloc | apply Kd.V_drewN | apply Kd.V_drew)); exact Kd.V_mono HO_2.out (fun _ hk => ⟨hk.1.1, ⟨hk.1.2.2.1, ⟨hk.2, ⟨hk.1.2.2.2.2.1, ⟨hk.1.2.2.2.2.2.1, hk.1.2.2.2.2.2.2.1⟩⟩⟩⟩⟩)⟩, ⟨by (with_reducible repeat (first | apply Kd.N_alloc | apply Kd.N_drewN | apply Kd.N_drew)); exact Kd.N_mono HO210.out (fun _ hk => ⟨hk.1.1, ⟨hk.2, ⟨hk.1.2.2.1, ⟨hk.1.2.2.2.1, hk.1.2.2.2.2.1⟩⟩⟩⟩)⟩, ⟨by (with_reducible repeat (first | apply Kd.N_alloc | apply Kd.N_drewN | apply Kd.N_drew)); exact Kd.N_mono HO219.out (fun _ hk => ⟨hk.1, ⟨hk.2.1, ⟨hk.2.2.1, ⟨hk.2.2.2.1, hk.2.2.2.2.1⟩⟩⟩⟩)⟩, ⟨by (with_reducible repeat (first | apply Kd.V_alloc | apply Kd.V_drewN | apply Kd.V_drew)); exact Kd.V_mono HO_202002.out (fun _ hk => ⟨hk.1.1, ⟨hk.1.2.2.1, ⟨hk.2, ⟨hk.1.2.2.2.2.1, ⟨hk.1.2.2.2.2.2.1, hk.1.2.2.2.2.2.2.1⟩⟩⟩⟩⟩)⟩, ⟨by (with_reducible repeat (first | refine blk_drewN ?_ _ | refine blk_drew ?_ | refine blk_alloc ?_ _)); exact BK200.out⟩, ⟨by (with_reducible repeat (first | refine blk_drewN ?_ _ | refine blk_drew ?_ | refine blk_alloc ?_ _)); exact BK201.out⟩, ⟨by (with_reducible repeat (first | refine blk_drewN ?_ _ | refine blk_drew ?_ | refine blk_alloc ?_ _)); exact BK202.out⟩, ⟨bB⟩⟩
       ·rw [if_neg c17] at H
        exact absurd H (by simp)
      ·rw [if_neg c16] at H
       exact absurd H (by simp)
     ·rw [if_neg c14] at H
      exact absurd H (by simp)
    ·rw [if_neg c13] at H
     exact absurd H (by simp)
   ·rw [if_neg c12] at H
    have c12b0 : decide (x18_1 < (l2.length : Int)) = false := decide_eq_false c12
    clear c12
    replace H := Option.bind_eq_some_iff.mp H
    obtain ⟨t220, A360, H⟩ := H
    replace H : (some (a1_0, IntKind.u64.wrap (a1_1 + (IntKind.u64.wrap ((l2.length : Int)))), t220, x9_1)) = some (r1, r2, r3, r4) := H
    have A36 := Aside0.mk A360
    clear A360
    simp only [Option.some.injEq, Prod.mk.injEq] at H
    obtain ⟨rfl, rfl, rfl, rfl⟩ := H
    try go_wp2
    have n0_ := Aside0.mk (Kd.V_drew HO_2.out)
    have n1_ := Aside0.mk (Kd.N_drew HO_8.out)
    have n2_ := Aside0.mk (Kd.N_drew HO_9.out)
    have n3_ := Aside0.mk (Kd.V_drew HO_202002.out)
    have n4_ := Aside0.mk (blk_drew BK200.out)
    have n5_ := Aside0.mk (blk_drew BK201.out)
    have n6_ := Aside0.mk (blk_drew BK202.out)
    have n7_ := Aside0.mk (below_drew1 HB.out)
    clear HO_2
    clear HO_8
    clear HO_9
    clear HO_202002
    clear BK200
    clear BK201
    clear BK202
    clear HB
    have HO_2 := n0_
    have HO_8 := n1_
    have HO_9 := n2_
    have HO_202002 := n3_
    have BK200 := n4_
    have BK201 := n5_
    have BK202 := n6_
    have HB := n7_
    clear n0_ n1_ n2_ n3_ n4_ n5_ n6_ n7_
    obtain ⟨Ao38, co38, eo38⟩ := Kd.N_slice HO_8.out
    (first | subst eo38 | (injection eo38 with f1_ f2_ f3_; have f4_ := f1_.symm; have f5_ := f3_.symm; clear f1_ f2_ f3_; subst f4_; subst f5_))
    refine start_ (n := 14) (S := fun w' => w'.cell? ⟨gb201, 0, none⟩ = some (.int .u64 a1_0) ∧ w'.cell? ⟨gb201, 1, none⟩ = some (.int .u64 a1_1) ∧ w'.cell? ⟨gb201, 2, none⟩ = some (.slice A1_2 l1_2.length c1_2)) (ds := []) #[false, false, false, false, false, false, false, false, false, false, false, false, false, false] (by kernel_rfl) rfl rfl ⟨(blk_cell BK201.out 0).trans rfl, (blk_cell BK201.out 1).trans rfl, (blk_cell BK201.out 2).trans rfl⟩ (fun hHeld => ?_); refine with_tabW spec_Appended.tab10 spec_Appended.bits10 (fun HT_ HW_ => ?_)
    generalize wr.drew = w37 at HO_2 HO_8 HO_9 HO_202002 BK200 BK201 BK202 HB hHeld ⊢
    refine pure_ (i := 0) (N := some 45) (v := ?_) (a' := ?_) #[true, false, false, false, false, false, false, false, false, false, false, false, false, false] rfl rfl (any_of HT_.out (by kernel_rfl)) (fun _ _ _ h => h) (Or.inl ⟨by rfl, ?_⟩) ?_ ?_
    rotate_left
    ·intro w'
     go_simp
     with_reducible rfl
    rotate_left
    ·simp only [Act.put, List.setIfInBounds_toArray, List.set_cons_zero, List.set_cons_succ, i64_w, i32_w]
     rfl
    refine pure_ (i := 2) (N := some 47) (v := ?_) (a' := ?_) #[true, false, true, false, false, false, false, false, false, false, false, false, false, false] rfl rfl (any_of HT_.out (by kernel_rfl)) (fun _ _ _ h => h) (Or.inl ⟨by rfl, ?_⟩) ?_ ?_
    rotate_left
    ·intro w'
     go_simp
     with_reducible rfl
    rotate_left
    ·simp only [Act.put, List.setIfInBounds_toArray, List.set_cons_zero, List.set_cons_succ, i64_w, i32_w]
     rfl
    refine pure_ (i := 4) (N := some 49) (v := ?_) (a' := ?_) #[true, false, true, false, true, false, false, false, false, false, false, false, false, false] rfl rfl (any_of HT_.out (by kernel_rfl)) (fun _ _ _ h => h) (Or.inl ⟨by rfl, ?_⟩) ?_ ?_
    rotate_left
    ·intro w'
     go_simp
     with_reducible rfl
    rotate_left
    ·simp only [Act.put, List.setIfInBounds_toArray, List.set_cons_zero, List.set_cons_succ, i64_w, i32_w]
     rfl
    refine pure_ (i := 5) (N := some 50) (v := ?_) (a' := ?_) #[true, false, true, false, true, true, false, false, false, false, false, false, false, false] rfl rfl (any_of HT_.out (by kernel_rfl)) (fun _ _ _ h => h) (Or.inl ⟨by rfl, ?_⟩) ?_ ?_
    rotate_left
    ·intro w'
     go_simp
     with_reducible rfl
    rotate_left
    ·simp only [Act.put, List.setIfInBounds_toArray, List.set_cons_zero, List.set_cons_succ, i64_w, i32_w]
     rfl
    refine pure_ (i := 6) (N := some 51) (v := ?_) (a' := ?_) #[true, false, true, false, true, true, true, false, false, false, false, false, false, false] rfl rfl (any_of HT_.out (by kernel_rfl)) (fun _ _ _ h => h) (Or.inl ⟨by rfl, ?_⟩) ?_ ?_
    rotate_left
    ·intro w'
     go_simp
     with_reducible rfl
    rotate_left
    ·simp only [Act.put, List.setIfInBounds_toArray, List.set_cons_zero, List.set_cons_succ, i64_w, i32_w]
     rfl
    refine pure_ (i := 8) (N := some 53) (v := ?_) (a' := ?_) #[true, false, true, false, true, true, true, false, true, false, false, false, false, false] rfl rfl (any_of HT_.out (by kernel_rfl)) (fun _ _ _ h => h) (Or.inl ⟨by rfl, ?_⟩) ?_ ?_
    rotate_left
    ·intro w'
     go_simp
     with_reducible rfl
    rotate_left
    ·simp only [Act.put, List.setIfInBounds_toArray, List.set_cons_zero, List.set_cons_succ, i64_w, i32_w]
     rfl
    refine pure_ (i := 11) (N := some 56) (v := ?_) (a' := ?_) #[true, false, true, false, true, true, true, false, true, false, false, true, false, false] rfl rfl (any_of HT_.out (by kernel_rfl)) (fun _ _ _ h => h) (Or.inl ⟨by rfl, ?_⟩) ?_ ?_
    rotate_left
    ·intro w'
     go_simp
     with_reducible rfl
    rotate_left
    ·simp only [Act.put, List.setIfInBounds_toArray, List.set_cons_zero, List.set_cons_succ, i64_w, i32_w]
     rfl
    refine take_ (i := 1) (N := some 46) (v := ?_) (a' := ?_) #[true, true, true, false, true, true, true, false, true, false, false, true, false, false] rfl rfl (take_ofW HT_.out HW_.out (by kernel_rfl)) (fun _ _ _ h => h) (Or.inl ⟨by rfl, ?_⟩) hHeld ?_ ?_
    rotate_left
    ·rintro w' ⟨s0, s1, s2⟩
     go_simp
     with_reducible rfl
    rotate_left
    ·simp only [Act.put, List.setIfInBounds_toArray, List.set_cons_zero, List.set_cons_succ, i64_w, i32_w]
     rfl
    refine take_ (i := 3) (N := some 48) (v := ?_) (a' := ?_) #[true, true, true, true, true, true, true, false, true, false, false, true, false, false] rfl rfl (take_ofW HT_.out HW_.out (by kernel_rfl)) (fun _ _ _ h => h) (Or.inl ⟨by rfl, ?_⟩) hHeld ?_ ?_
    rotate_left
    ·rintro w' ⟨s0, s1, s2⟩
     go_simp
     with_reducible rfl
    rotate_left
    ·simp only [Act.put, List.setIfInBounds_toArray, List.set_cons_zero, List.set_cons_succ, i64_w, i32_w]
     rfl
    refine pure_ (i := 7) (N := some 52) (v := ?_) (a' := ?_) #[true, true, true, true, true, true, true, true, true, false, false, true, false, false] rfl rfl (any_of HT_.out (by kernel_rfl)) (fun _ _ _ h => h) (Or.inl ⟨by rfl, ?_⟩) ?_ ?_
    rotate_left
    ·intro w'
     go_simp
     with_reducible rfl
    rotate_left
    ·simp only [Act.put, List.setIfInBounds_toArray, List.set_cons_zero, List.set_cons_succ, i64_w, i32_w]
     rfl
    refine one_ (i := 9) (N := some 54) #[true, true, true, true, true, true, true, true, true, true, false, true, false, false] rfl rfl (one_of HT_.out (by kernel_rfl)) (by decide) (fun K hK => ?_)
    refine goes_ Tryd.func60 (by kernel_rfl) rfl #[.slice Ao38 x8_1.length co38] (by rfl) rfl rfl aV ?_
    with_reducible refine (spec_hashes.calls k1 (fun k_ => (((P1_2_ k_ ∨ P2_ k_) ∨ w.heap.size ≤ k_) ∧ (some k_ ≠ (u9 : Value).ownBlock ∧ (k_ ≠ gb200 ∧ (k_ ≠ gb201 ∧ k_ ≠ gb202))))) _ _ x8_1 t220 _ ?side1 A36.out).mono ?_
    (case side1 => first | exact Kd.N_V (HO_8.out) | exact Kd.V_mono Kd.N_V (HO_8.out) (fun k_ h_ => by simp only [and_assoc] at h_ ⊢; exact h_))
    rintro e w39 ⟨v221, rfl, ho0, hb⟩
    refine ⟨_, rfl, ?_⟩
    have n0_ := Aside0.mk (Kd.V_elder' (kV HO_2.out) (Kd.N_base ho0) hb)
    have n1_ := Aside0.mk (Kd.N_elder' (by (with_reducible repeat (first | apply Kd.N_alloc | apply Kd.N_drewN | apply Kd.N_drew)); exact HO_8.out) (Kd.N_base ho0) hb)
    have n2_ := Aside0.mk (Kd.N_elder' (by (with_reducible repeat (first | apply Kd.N_alloc | apply Kd.N_drewN | apply Kd.N_drew)); exact HO_9.out) (Kd.N_base ho0) hb)
    have n3_ := Aside0.mk (Kd.V_elder' (kV HO_202002.out) (Kd.N_base ho0) hb)
    have n4_ := Aside0.mk (Kd.N_lower (Kd.N_mono (ok' := fun k_ => ((P1_2_ k_ ∨ P2_ k_) ∨ w.heap.size ≤ k_) ∧ some k_ ≠ (u9 : Value).ownBlock ∧ k_ ≠ gb200 ∧ k_ ≠ gb201 ∧ k_ ≠ gb202) ho0 (fun k_ hk_ => ⟨Or.elim hk_ (fun hs_ => hs_.1) (fun hn_ => (.inr (Nat.le_trans (below_size bB) hn_))), Or.elim hk_ (fun hs_ => hs_.2.1) (fun hn_ => (Kd.fresh' (Kd.N_lt (by (with_reducible repeat (first | apply Kd.N_alloc | apply Kd.N_drewN | apply Kd.N_drew)); exact HO_9.out)) k_ hn_)), Or.elim hk_ (fun hs_ => hs_.2.2.1) (fun hn_ => (Kd.freshB (g := gb200) (o := .cells #[.int .i64 a0_0, .int .i64 a0_1, .int .i64 a0_2, .int .u64 a0_3, .int .u64 a0_4, .int .u64 a0_5] 24 (0, 0)) (kB BK200.out) k_ hn_)), Or.elim hk_ (fun hs_ => hs_.2.2.2.1) (fun hn_ => (Kd.freshB (g := gb201) (o := .cells #[.int .u64 a1_0, .int .u64 a1_1, .slice A1_2 l1_2.length c1_2] 39 (0, 0)) (kB BK201.out) k_ hn_)), Or.elim hk_ (fun hs_ => hs_.2.2.2.2) (fun hn_ => (Kd.freshB (g := gb202) (o := .cells #[.int .u64 0, .int .u64 0, .slice none 0 0] 39 (0, 0)) (kB BK202.out) k_ hn_))⟩)) (below_size bB))
    have n5_ := Aside0.mk (blk_below (g := gb200) (o := .cells #[.int .i64 a0_0, .int .i64 a0_1, .int .i64 a0_2, .int .u64 a0_3, .int .u64 a0_4, .int .u64 a0_5] 24 (0, 0)) (kB BK200.out) hb)
    have n6_ := Aside0.mk (blk_below (g := gb201) (o := .cells #[.int .u64 a1_0, .int .u64 a1_1, .slice A1_2 l1_2.length c1_2] 39 (0, 0)) (kB BK201.out) hb)
    have n7_ := Aside0.mk (blk_below (g := gb202) (o := .cells #[.int .u64 0, .int .u64 0, .slice none 0 0] 39 (0, 0)) (kB BK202.out) hb)
    have n8_ := Aside0.mk (below_step bB hb)
    clear HO_2
    clear HO_8
    clear HO_9
    clear HO_202002
    clear BK200
    clear BK201
    clear BK202
    clear HB
    have HO_2 := n0_
    have HO_8 := n1_
    have HO_9 := n2_
    have HO_202002 := n3_
    have HO222 := n4_
    have BK200 := n5_
    have BK201 := n6_
    have BK202 := n7_
    have HB := n8_
    clear n0_ n1_ n2_ n3_ n4_ n5_ n6_ n7_ n8_
    (try clear hb)
    (try clear hb2)
    (try clear hk)
    (try clear hi)
    (try clear ho0)
    obtain ⟨Ao40, co40, eo40⟩ := Kd.N_slice HO222.out
    (first | subst eo40 | (injection eo40 with f1_ f2_ f3_; have f4_ := f1_.symm; have f5_ := f3_.symm; clear f1_ f2_ f3_; subst f4_; subst f5_))
    refine hK.out _ _ ⟨(blk_cell BK201.out 0).trans rfl, (blk_cell BK201.out 1).trans rfl, (blk_cell BK201.out 2).trans rfl⟩ (fun hHeld => ?_)
    clear hK K
    refine norm_ (a' := ?_) ?_ ?_
    rotate_left
    ·show Act.put _ (some 54) _ = _
     simp only [Act.put, List.setIfInBounds_toArray, List.set_cons_zero, List.set_cons_succ, i64_w, i32_w]
     rfl
    refine pure_ (i := 10) (N := some 55) (v := ?_) (a' := ?_) #[true, true, true, true, true, true, true, true, true, true, true, true, false, false] rfl rfl (any_of HT_.out (by kernel_rfl)) (fun _ _ _ h => h) (Or.inl ⟨by rfl, ?_⟩) ?_ ?_
    rotate_left
    ·intro w'
     go_simp
     with_reducible rfl
    rotate_left
    ·simp only [Act.put, List.setIfInBounds_toArray, List.set_cons_zero, List.set_cons_succ, i64_w, i32_w]
     rfl
    refine one_ (i := 12) (N := none) #[true, true, true, true, true, true, true, true, true, true, true, true, true, false] rfl rfl (one_of HT_.out (by kernel_rfl)) (by decide) (fun K hK => ?_)
    have hs41 : w39.cell? ⟨gb202, 0, none⟩ = some (.int .u64 0) := (blk_cell BK202.out 0).trans rfl
    have hfs41 := blk_frozen BK202.out 0
    have hns41_0 := NB200_202.out
    have hns41_1 := NB201_202.out
    have hms41_0 := NB202_200.out
    have hms41_1 := NB202_201.out
    have hs42 : w39.cell? ⟨gb202, 1, none⟩ = some (.int .u64 0) := (blk_cell BK202.out 1).trans rfl
    have hfs42 := blk_frozen BK202.out 1
    have hns42_0 := NB200_202.out
    have hns42_1 := NB201_202.out
    have hms42_0 := NB202_200.out
    have hms42_1 := NB202_201.out
    have hs43 : w39.cell? ⟨gb202, 2, none⟩ = some (.slice none 0 0) := (blk_cell BK202.out 2).trans rfl
    have hfs43 := blk_frozen BK202.out 2
    have hns43_0 := NB200_202.out
    have hns43_1 := NB201_202.out
    have hms43_0 := NB202_200.out
    have hms43_1 := NB202_201.out
    refine skip_ (w1 := ?_) (by rfl) rfl ?_ ?_
    rotate_left
    ·go_simp
     rfl
    refine hK.out _ _ ⟨((cell_far (p := ⟨gb202, _, none⟩) NB201_202.out _).trans (((cell_far (p := ⟨gb202, _, none⟩) NB201_202.out _).trans (((cell_far (p := ⟨gb202, _, none⟩) NB201_202.out _).trans (hHeld.1)))))), ((cell_far (p := ⟨gb202, _, none⟩) NB201_202.out _).trans (((cell_far (p := ⟨gb202, _, none⟩) NB201_202.out _).trans (((cell_far (p := ⟨gb202, _, none⟩) NB201_202.out _).trans (hHeld.2.1)))))), ((cell_far (p := ⟨gb202, _, none⟩) NB201_202.out _).trans (((cell_far (p := ⟨gb202, _, none⟩) NB201_202.out _).trans (((cell_far (p := ⟨gb202, _, none⟩) NB201_202.out _).trans (hHeld.2.2))))))⟩ (fun hHeld => ?_)
    clear hK K
    refine pure_ (i := 13) (N := some 7) (v := ?_) (a' := ?_) #[true, true, true, true, true, true, true, true, true, true, true, true, true, true] rfl rfl (any_of HT_.out (by kernel_rfl)) (fun _ _ _ h => h) (Or.inl ⟨by rfl, ?_⟩) ?_ ?_
    rotate_left
    ·intro w'
     go_simp
     with_reducible rfl
    rotate_left
    ·simp only [Act.put, List.setIfInBounds_toArray, List.set_cons_zero, List.set_cons_succ, i64_w, i32_w]
     rfl
    refine done_ (done_of HT_.out (by kernel_rfl)) ?_
    try go_wp2
    refine bodyPost_ret (results_ct rfl _ _ gb202 39 #[.int .u64 a1_0, .int .u64 (IntKind.u64.wrap (a1_1 + (IntKind.u64.wrap ((l2.length : Int))))), .slice Ao40 t220.length co40] (0, 0) _ rfl (by (with_reducible repeat (first | refine blk_drewN ?_ _ | refine blk_drew ?_ | refine blk_alloc ?_ _)); refine blk_put (cs := #[.int .u64 a1_0, .int .u64 (IntKind.u64.wrap (a1_1 + (IntKind.u64.wrap ((l2.length : Int))))), .slice none 0 0]) ?_ 2 _ rfl; (with_reducible repeat (first | refine blk_drewN ?_ _ | refine blk_drew ?_ | refine blk_alloc ?_ _)); refine blk_put (cs := #[.int .u64 a1_0, .int .u64 0, .slice none 0 0]) ?_ 1 _ rfl; (with_reducible repeat (first | refine blk_drewN ?_ _ | refine blk_drew ?_ | refine blk_alloc ?_ _)); refine blk_put (cs := #[.int .u64 0, .int .u64 0, .slice none 0 0]) ?_ 0 _ rfl; (with_reducible repeat (first | refine blk_drewN ?_ _ | refine blk_drew ?_ | refine blk_alloc ?_ _)); exact BK202.out) Tryd.underlying39 rfl (by kernel_rfl)) rfl ?_
    exact ⟨_, _, by first | rfl | (simp [errW_none, errW_some] <;> rfl) | (simp [*, errW_none, errW_some] <;> rfl), by (with_reducible repeat (first | apply Kd.N_alloc | apply Kd.N_drewN | apply Kd.N_drew)); exact Kd.N_mono (Kd.N_far (p := ⟨gb202, 2, none⟩) (Kd.N_far (p := ⟨gb202, 1, none⟩) (Kd.N_far (p := ⟨gb202, 0, none⟩) (Kd.N_mono HO222.out (fun k_ hk => (⟨hk, hk.2.2.2.2⟩ : _ ∧ k_ ≠ gb202))) (fun _ hk => hk.2) (.int .u64 a1_0)) (fun _ hk => hk.2) (.int .u64 (IntKind.u64.wrap (a1_1 + (IntKind.u64.wrap ((l2.length : Int))))))) (fun _ hk => hk.2) (.slice Ao40 t220.length co40)) (fun _ hk => ⟨hk.1.1, hk.1.2.1⟩), by (with_reducible repeat (first | apply Kd.N_alloc | apply Kd.N_drewN | apply Kd.N_drew)); exact Kd.N_mono (Kd.N_far (p := ⟨gb202, 2, none⟩) (Kd.N_far (p := ⟨gb202, 1, none⟩) (Kd.N_far (p := ⟨gb202, 0, none⟩) (Kd.N_mono HO_9.out (fun k_ hk => (⟨hk, hk.1.2.2.2.2⟩ : _ ∧ k_ ≠ gb202))) (fun _ hk => hk.2) (.int .u64 a1_0)) (fun _ hk => hk.2) (.int .u64 (IntKind.u64.wrap (a1_1 + (IntKind.u64.wrap ((l2.length : Int))))))) (fun _ hk => hk.2) (.slice Ao40 t220.length co40)) (fun _ hk => ⟨hk.1.1.1, hk.1.2⟩), bB⟩

end Go.Proofs.YtkmdkmlgahfcpaaDoor.M

