-- Written by a program of ours (wip/xp) out of the translation; Lean checks it.
import Derived.Test.YtkmdkmlgahfcpaaDoorSq
import Derived.Test.YtkmdkmlgahfcpaaDoorMm1
import Derived.Test.YtkmdkmlgahfcpaaDoorMm6
import Derived.Test.YtkmdkmlgahfcpaaDoorMm7
namespace Go.Proofs.YtkmdkmlgahfcpaaDoor.M
open Go.RowKit Go.Proofs.YtkmdkmlgahfcpaaDoorW.PrintWords Go.Proofs.YtkmdkmlgahfcpaaDoorW.PrintLast Go.Proofs.YtkmdkmlgahfcpaaDoorW.PrintMore
attribute [local go_sem] max2_int min2_int max_two min_two max_three min_three max_four min_four   -- for this text's walks alone
set_option linter.unusedVariables false
set_option linter.unusedSimpArgs false

/-! ### spec_rootsIn: function 88 -/
def spec_rootsIn.f : Nat → Int → Int → Int → Int → Int → Int → Int → Int → Int → Bool → List (List Int) → List Int → Option (List Int × List Int)
 | 0, _, _, _, _, _, _, _, _, _, _, _, _ => none
 | k + 1, a0_0, a0_1, a0_2, a0_3, a0_4, a0_5, a1, a2_0, a2_1, a3, l4, l5 => if a1 = a2_1 then (if a3 = true then (some (l5, l5)) else (if 0 < (l4.length : Int) then (some (rd_L1 l4 0, rd_L1 l4 0)) else (none))) else ((spec_split.f k (IntKind.u64.wrap (a2_1 - a2_0))).bind fun t264 => (if a1 ≤ (IntKind.u64.wrap (a2_0 + t264)) then (if 0 ≤ (wrap64 ((l4.length : Int) - 1)) then (if (wrap64 ((l4.length : Int) - 1)) ≤ (l4.length : Int) then ((spec_rootsIn.f k a0_0 a0_1 a0_2 a0_3 a0_4 a0_5 a1 a2_0 (IntKind.u64.wrap (a2_0 + t264)) a3 (l4.take ((wrap64 ((l4.length : Int) - 1)) : Int).toNat) l5).bind fun bt270 => (if (wrap64 ((l4.length : Int) - 1)) < (l4.length : Int) then ((spec_HashChildren.f k a0_0 a0_1 a0_2 a0_3 a0_4 a0_5 bt270.2 (rd_L1 l4 (wrap64 ((l4.length : Int) - 1)))).bind fun t277 => (some (bt270.1, t277))) else (none))) else (none)) else (none)) else (if 0 ≤ (wrap64 ((l4.length : Int) - 1)) then (if (wrap64 ((l4.length : Int) - 1)) ≤ (l4.length : Int) then ((spec_rootsIn.f k a0_0 a0_1 a0_2 a0_3 a0_4 a0_5 a1 (IntKind.u64.wrap (a2_0 + t264)) a2_1 false (l4.take ((wrap64 ((l4.length : Int) - 1)) : Int).toNat) l5).bind fun bt285 => (if (wrap64 ((l4.length : Int) - 1)) < (l4.length : Int) then ((spec_HashChildren.f k a0_0 a0_1 a0_2 a0_3 a0_4 a0_5 (rd_L1 l4 (wrap64 ((l4.length : Int) - 1))) bt285.1).bind fun t292 => ((spec_HashChildren.f k a0_0 a0_1 a0_2 a0_3 a0_4 a0_5 (rd_L1 l4 (wrap64 ((l4.length : Int) - 1))) bt285.2).bind fun t296 => (some (t292, t296)))) else (none))) else (none)) else (none))))
theorem spec_rootsIn.mono_l : ∀ k, (∀ y0 y1 y2 y3 y4 y5 y6 y7 y8 y9 y10 y11, LeO (spec_rootsIn.f k y0 y1 y2 y3 y4 y5 y6 y7 y8 y9 y10 y11) (spec_rootsIn.f (k + 1) y0 y1 y2 y3 y4 y5 y6 y7 y8 y9 y10 y11))
 | 0 => fun _ _ _ _ _ _ _ _ _ _ _ _ r h => by simp [spec_rootsIn.f] at h
 | k + 1 => by
  have ih0 := spec_rootsIn.mono_l k
  ·intro y0 y1 y2 y3 y4 y5 y6 y7 y8 y9 y10 y11
   unfold spec_rootsIn.f
   repeat' first
   | (with_reducible exact ih0 _ _ _ _ _ _ _ _ _ _ _ _)
   | (with_reducible exact spec_HashChildren.mono _ _ _ _ _ _ _ _ _)
   | (with_reducible exact spec_split.mono _ _)
   | (with_reducible exact LeO.refl _)
   | (with_reducible exact LeO.none _)
   | (with_reducible refine LeO.ite ?_ ?_)
   | (with_reducible refine LeO.bind ?_ (fun _ => ?_))
   | exact ih0 _ _ _ _ _ _ _ _ _ _ _ _
   | exact spec_HashChildren.mono _ _ _ _ _ _ _ _ _
   | exact spec_split.mono _ _
   | exact LeO.none _
   | refine LeO.ite ?_ ?_
   | refine LeO.bind ?_ (fun _ => ?_)
theorem spec_rootsIn.mono : ∀ a0 a1 a2 a3 a4 a5 a6 a7 a8 a9 a10 a11 k, LeO (spec_rootsIn.f k a0 a1 a2 a3 a4 a5 a6 a7 a8 a9 a10 a11) (spec_rootsIn.f (k + 1) a0 a1 a2 a3 a4 a5 a6 a7 a8 a9 a10 a11) := by
 intro a0 a1 a2 a3 a4 a5 a6 a7 a8 a9 a10 a11 k
 have ih0 := spec_rootsIn.mono_l k
 exact ih0 a0 a1 a2 a3 a4 a5 a6 a7 a8 a9 a10 a11
def spec_rootsIn.T4 : Bool × List (List Nat × List Nat) := (true, [([], []), ([0], [0]), ([1], [1]), ([], []), ([3], [3]), ([4], [4]), ([2, 0, 1, 2], [2]), ([5, 6, 0, 1, 2, 3, 4, 5, 6], [5])])
def spec_rootsIn.B4 : List Nat := [0, 1, 3, 0, 8, 24, 7, 127]
theorem spec_rootsIn.tab4 : rtab .any (opsOf Tryd.f88 4) = spec_rootsIn.T4 := by kernel_rfl
theorem spec_rootsIn.bits4 : waitsOk spec_rootsIn.T4.2 spec_rootsIn.B4 = true := by kernel_rfl
def spec_rootsIn.T5 : Bool × List (List Nat × List Nat) := (true, [([], []), ([0], [0]), ([], []), ([2], [2]), ([], []), ([4], [4]), ([3, 5], [3, 5]), ([6], [6]), ([1, 7], [1, 7]), ([], []), ([9], [9]), ([10], [10]), ([8, 7, 0, 1, 2, 3, 4, 5, 6, 7, 8], [8]), ([11, 12, 0, 1, 2, 3, 4, 5, 6, 7, 8, 9, 10, 11, 12], [11])])
def spec_rootsIn.B5 : List Nat := [0, 1, 0, 4, 0, 16, 60, 124, 255, 0, 512, 1536, 511, 8191]
theorem spec_rootsIn.tab5 : rtab .any (opsOf Tryd.f88 5) = spec_rootsIn.T5 := by kernel_rfl
theorem spec_rootsIn.bits5 : waitsOk spec_rootsIn.T5.2 spec_rootsIn.B5 = true := by kernel_rfl
def spec_rootsIn.T7 : Bool × List (List Nat × List Nat) := (true, [([], []), ([], []), ([], []), ([2], [2]), ([], []), ([3, 4], [3, 4]), ([], []), ([], []), ([], []), ([7, 8], [7, 8]), ([], []), ([0, 1, 5, 6, 9, 10], [0, 1, 5, 6, 9, 10]), ([11], [11]), ([12], [12]), ([12], [12]), ([13, 11, 0, 1, 2, 3, 4, 5, 6, 7, 8, 9, 10, 11, 12, 13], [13]), ([14, 15, 0, 1, 2, 3, 4, 5, 6, 7, 8, 9, 10, 11, 12, 13, 14, 15], [14])])
def spec_rootsIn.B7 : List Nat := [0, 0, 0, 4, 0, 28, 0, 0, 0, 384, 0, 2047, 4095, 8191, 8191, 16383, 65535]
theorem spec_rootsIn.tab7 : rtab .any (opsOf Tryd.f88 7) = spec_rootsIn.T7 := by kernel_rfl
theorem spec_rootsIn.bits7 : waitsOk spec_rootsIn.T7.2 spec_rootsIn.B7 = true := by kernel_rfl
def spec_rootsIn.T8 : Bool × List (List Nat × List Nat) := (true, [([], []), ([], []), ([], []), ([], []), ([], []), ([3, 4], [3, 4]), ([5], [5]), ([1, 2, 6], [1, 2, 6]), ([0, 7, 0], [0]), ([7, 8, 0, 1, 2, 3, 4, 5, 6, 7, 8], [2, 7])])
def spec_rootsIn.B8 : List Nat := [0, 0, 0, 0, 0, 24, 56, 126, 255, 511]
theorem spec_rootsIn.tab8 : rtab .any (opsOf Tryd.f88 8) = spec_rootsIn.T8 := by kernel_rfl
theorem spec_rootsIn.bits8 : waitsOk spec_rootsIn.T8.2 spec_rootsIn.B8 = true := by kernel_rfl
def spec_rootsIn.T9 : Bool × List (List Nat × List Nat) := (true, [([], []), ([], []), ([], []), ([], []), ([3], [3]), ([2, 4], [2, 4]), ([], []), ([], []), ([6, 7], [6, 7]), ([], []), ([0, 1, 5, 8, 9], [0, 1, 5, 8, 9]), ([10], [10]), ([11], [11]), ([11], [11]), ([12, 10, 0, 1, 2, 3, 4, 5, 6, 7, 8, 9, 10, 11, 12], [12]), ([13, 14, 0, 1, 2, 3, 4, 5, 6, 7, 8, 9, 10, 11, 12, 13, 14], [13])])
def spec_rootsIn.B9 : List Nat := [0, 0, 0, 0, 8, 28, 0, 0, 192, 0, 1023, 2047, 4095, 4095, 8191, 32767]
theorem spec_rootsIn.tab9 : rtab .any (opsOf Tryd.f88 9) = spec_rootsIn.T9 := by kernel_rfl
theorem spec_rootsIn.bits9 : waitsOk spec_rootsIn.T9.2 spec_rootsIn.B9 = true := by kernel_rfl
def spec_rootsIn.T10 : Bool × List (List Nat × List Nat) := (true, [([], []), ([], []), ([], []), ([1, 2], [1, 2]), ([3], [3]), ([], []), ([0, 4, 5], [0, 4, 5]), ([], []), ([], []), ([], []), ([8, 9], [8, 9]), ([10], [10]), ([], []), ([7, 11, 12, 6], [7, 11, 12]), ([6, 13, 0, 1, 2, 3, 4, 5, 6], [5, 6]), ([13, 14, 0, 1, 2, 3, 4, 5, 6, 7, 8, 9, 10, 11, 12, 13, 14], [12, 13])])
def spec_rootsIn.B10 : List Nat := [0, 0, 0, 6, 14, 0, 63, 0, 0, 0, 768, 1792, 0, 8191, 16383, 32767]
theorem spec_rootsIn.tab10 : rtab .any (opsOf Tryd.f88 10) = spec_rootsIn.T10 := by kernel_rfl
theorem spec_rootsIn.bits10 : waitsOk spec_rootsIn.T10.2 spec_rootsIn.B10 = true := by kernel_rfl
set_option maxHeartbeats 8000000 in
set_option maxRecDepth 100000 in
theorem spec_rootsIn.calls (k : Nat) : ∀ (a0_0 : Int) (a0_1 : Int) (a0_2 : Int) (a0_3 : Int) (a0_4 : Int) (a0_5 : Int) (a1 : Int) (a2_0 : Int) (a2_1 : Int) (a3 : Bool) (P4_ : Nat → Prop) (A4 : Option Addr) (c4 : Nat) (l4 : List (List Int)) (P5_ : Nat → Prop) (A5 : Option Addr) (c5 : Nat) (l5 : List Int) (r1 : List Int) (r2 : List Int) (w : World) (hs4 : Kd.V (Kd.slice 5 (Kd.int .u8)) 27 w w.heap.size (fun k_ => P4_ k_) (.slice A4 l4.length c4) l4) (hs5 : Kd.V (Kd.int .u8) 5 w w.heap.size (fun k_ => P5_ k_) (.slice A5 l5.length c5) l5) (h : spec_rootsIn.f k a0_0 a0_1 a0_2 a0_3 a0_4 a0_5 a1 a2_0 a2_1 a3 l4 l5 = some (r1, r2)),
  Calls Tryd.prog 88 #[.agg #[.int .i64 a0_0, .int .i64 a0_1, .int .i64 a0_2, .int .u64 a0_3, .int .u64 a0_4, .int .u64 a0_5], .int .u64 a1, .agg #[.int .u64 a2_0, .int .u64 a2_1], .bool a3, .slice A4 l4.length c4, .slice A5 l5.length c5] w fun e w' => ∃ v0_ v1_ : Value, e = .returned (.tuple #[v0_, v1_]) ∧ Kd.V (Kd.int .u8) 5 w' w.heap.size (fun k_ => ((P4_ k_ ∨ P5_ k_) ∨ w.heap.size ≤ k_)) v0_ r1 ∧ Kd.V (Kd.int .u8) 5 w' w.heap.size (fun k_ => ((P4_ k_ ∨ P5_ k_) ∨ w.heap.size ≤ k_)) v1_ r2 ∧ Below w.heap.size w w' := by
 induction k using Nat.strongRecOn with
 | _ k ih =>
 intro a0_0 a0_1 a0_2 a0_3 a0_4 a0_5 a1 a2_0 a2_1 a3 P4_ A4 c4 l4 P5_ A5 c5 l5 r1 r2 w hs4 hs5 h
 cases k with
 | zero => exact absurd h (by simp [spec_rootsIn.f])
 | succ k =>
 simp only [spec_rootsIn.f] at h
 have hu24 := Tryd.underlying24
 have hu57 := Tryd.underlying57
 have HO4 := Aside0.mk (show Kd.V (Kd.slice 5 (Kd.int .u8)) 27 w w.heap.size (fun k_ => ((P4_ k_ ∨ P5_ k_) ∨ w.heap.size ≤ k_)) (.slice A4 l4.length c4) l4 from Kd.V_mono hs4 (fun k_ hk => .inl (.inl hk)))
 have HO5 := Aside0.mk (show Kd.V (Kd.int .u8) 5 w w.heap.size (fun k_ => ((P4_ k_ ∨ P5_ k_) ∨ w.heap.size ≤ k_)) (.slice A5 l5.length c5) l5 from Kd.V_mono hs5 (fun k_ hk => .inl (.inr hk)))
 have HB := Aside0.mk (Below.refl w.heap.size w)
 have H : (if a1 = a2_1 then (if a3 = true then (some (l5, l5)) else (if 0 < (l4.length : Int) then (some (rd_L1 l4 0, rd_L1 l4 0)) else (none))) else ((spec_split.f k (IntKind.u64.wrap (a2_1 - a2_0))).bind fun t264 => (if a1 ≤ (IntKind.u64.wrap (a2_0 + t264)) then (if 0 ≤ (wrap64 ((l4.length : Int) - 1)) then (if (wrap64 ((l4.length : Int) - 1)) ≤ (l4.length : Int) then ((spec_rootsIn.f k a0_0 a0_1 a0_2 a0_3 a0_4 a0_5 a1 a2_0 (IntKind.u64.wrap (a2_0 + t264)) a3 (l4.take ((wrap64 ((l4.length : Int) - 1)) : Int).toNat) l5).bind fun bt270 => (if (wrap64 ((l4.length : Int) - 1)) < (l4.length : Int) then ((spec_HashChildren.f k a0_0 a0_1 a0_2 a0_3 a0_4 a0_5 bt270.2 (rd_L1 l4 (wrap64 ((l4.length : Int) - 1)))).bind fun t277 => (some (bt270.1, t277))) else (none))) else (none)) else (none)) else (if 0 ≤ (wrap64 ((l4.length : Int) - 1)) then (if (wrap64 ((l4.length : Int) - 1)) ≤ (l4.length : Int) then ((spec_rootsIn.f k a0_0 a0_1 a0_2 a0_3 a0_4 a0_5 a1 (IntKind.u64.wrap (a2_0 + t264)) a2_1 false (l4.take ((wrap64 ((l4.length : Int) - 1)) : Int).toNat) l5).bind fun bt285 => (if (wrap64 ((l4.length : Int) - 1)) < (l4.length : Int) then ((spec_HashChildren.f k a0_0 a0_1 a0_2 a0_3 a0_4 a0_5 (rd_L1 l4 (wrap64 ((l4.length : Int) - 1))) bt285.1).bind fun t292 => ((spec_HashChildren.f k a0_0 a0_1 a0_2 a0_3 a0_4 a0_5 (rd_L1 l4 (wrap64 ((l4.length : Int) - 1))) bt285.2).bind fun t296 => (some (t292, t296)))) else (none))) else (none)) else (none))))) = some (r1, r2) := h
 clear h
 by_cases c7 : a1 = a2_1
 ·rw [if_pos c7] at H
  have c7b0 : (a1 == a2_1) = true := beq_iff_eq.mpr c7
  have c7b1 : (a1 != a2_1) = false := bne_eq_false_iff_eq.mpr c7
  clear c7
  by_cases c8 : a3 = true
  ·subst c8
   have H1 : (some (l5, l5)) = some (r1, r2) := by rw [if_pos rfl] at H; exact H
   clear H
   have H := H1
   clear H1
   simp only [Option.some.injEq, Prod.mk.injEq] at H
   obtain ⟨rfl, rfl⟩ := H
   go_enter Tryd.func88, Tryd.ntmps88
   go_wp2_with (first | ((with_reducible refine gate_dst (N := 6) rfl ?_); refine box_event ?hg (N := 6) ?hd (cs := #[.int .i64 a0_0, .int .i64 a0_1, .int .i64 a0_2, .int .u64 a0_3, .int .u64 a0_4, .int .u64 a0_5]) (t := 24) ?hr ?_; (case hd => rfl); (case hg => rfl); (case hr => first | (go_simp; done) | (go_simp; rfl)); intro gb260 hg w9 hbox hb; have n0_ := Aside0.mk (Kd.V_below (Kd.V_elderB (kV HO4.out) gb260 (Nat.le_of_eq hg.symm)) hb); have n1_ := Aside0.mk (Kd.V_below (Kd.V_elderB (kV HO5.out) gb260 (Nat.le_of_eq hg.symm)) hb); have n2_ := Aside0.mk (below_step bB hb); have n3_ := Aside0.mk (hbox); have n4_ := Aside0.mk ((by rw [hg]; exact (below_size bB) : w.heap.size ≤ gb260)); have n5_ := Aside0.mk ((by rw [hg]; exact (below_size bB) : w.heap.size ≤ gb260)); clear HO4; clear HO5; clear HB; have HO4 := n0_; have HO5 := n1_; have HB := n2_; have BK260 := n3_; have GW260 := n4_; have GE260 := n5_; clear n0_ n1_ n2_ n3_ n4_ n5_; clear hb hbox hg) | ((with_reducible refine gate_dst (N := 8) rfl ?_); refine box_event ?hg (N := 8) ?hd (cs := #[.int .u64 a2_0, .int .u64 a2_1]) (t := 57) ?hr ?_; (case hd => rfl); (case hg => rfl); (case hr => first | (go_simp; done) | (go_simp; rfl)); intro gb261 hg w10 hbox hb; have n0_ := Aside0.mk (Kd.V_below (Kd.V_elderB (kV HO4.out) gb261 (Nat.le_of_eq hg.symm)) hb); have n1_ := Aside0.mk (Kd.V_below (Kd.V_elderB (kV HO5.out) gb261 (Nat.le_of_eq hg.symm)) hb); have n2_ := Aside0.mk (blk_below (g := gb260) (o := .cells #[.int .i64 a0_0, .int .i64 a0_1, .int .i64 a0_2, .int .u64 a0_3, .int .u64 a0_4, .int .u64 a0_5] 24 (0, 0)) (kB BK260.out) hb); have n3_ := Aside0.mk (below_step bB hb); have n4_ := Aside0.mk (hbox); have n5_ := Aside0.mk ((by rw [hg]; exact (below_size bB) : w.heap.size ≤ gb261)); have n6_ := Aside0.mk ((by rw [hg]; exact (below_size bB) : w.heap.size ≤ gb261)); have n7_ := Aside0.mk ((by rw [hg]; exact Nat.ne_of_lt (blk_lt (g := gb260) (o := .cells #[.int .i64 a0_0, .int .i64 a0_1, .int .i64 a0_2, .int .u64 a0_3, .int .u64 a0_4, .int .u64 a0_5] 24 (0, 0)) (kB BK260.out)) : gb260 ≠ gb261)); have n8_ := Aside0.mk ((by rw [hg]; exact Nat.ne_of_gt (blk_lt (g := gb260) (o := .cells #[.int .i64 a0_0, .int .i64 a0_1, .int .i64 a0_2, .int .u64 a0_3, .int .u64 a0_4, .int .u64 a0_5] 24 (0, 0)) (kB BK260.out)) : gb261 ≠ gb260)); clear HO4; clear HO5; clear BK260; clear HB; have HO4 := n0_; have HO5 := n1_; have BK260 := n2_; have HB := n3_; have BK261 := n4_; have GW261 := n5_; have GE261 := n6_; have NB260_261 := n7_; have NB261_260 := n8_; clear n0_ n1_ n2_ n3_ n4_ n5_ n6_ n7_ n8_; clear hb hbox hg; have hnb11 := NB261_260.out; have hnc11 := NB260_261.out; have hcz12_0 : w10.cell? ⟨gb261, 0, none⟩ = some (.int .u64 a2_0) := (blk_cell BK261.out 0).trans rfl; have hcz12_1 : w10.cell? ⟨gb261, 1, none⟩ = some (.int .u64 a2_1) := (blk_cell BK261.out 1).trans rfl; have hfz12_0 := blk_frozen BK261.out 0; have hfz12_1 := blk_frozen BK261.out 1))
   go_ret2
   exact ⟨_, _, by first | rfl | (simp [errW_none, errW_some] <;> rfl) | (simp [*, errW_none, errW_some] <;> rfl), by (with_reducible repeat (first | apply Kd.V_alloc | apply Kd.V_drewN | apply Kd.V_drew)); exact Kd.V_mono HO5.out (fun _ hk => hk.1.1), by (with_reducible repeat (first | apply Kd.V_alloc | apply Kd.V_drewN | apply Kd.V_drew)); exact Kd.V_mono HO5.out (fun _ hk => hk.1.1), bB⟩
  ·replace c8 := Bool.eq_false_iff.mpr c8
   subst c8
   have H1 : (if 0 < (l4.length : Int) then (some (rd_L1 l4 0, rd_L1 l4 0)) else (none)) = some (r1, r2) := by rw [if_neg (show ¬ (false = true) by decide)] at H; exact H
   clear H
   have H := H1
   clear H1
   by_cases c13 : 0 < (l4.length : Int)
   ·rw [if_pos c13] at H
    have c13b0 : decide (0 < (l4.length : Int)) = true := decide_eq_true c13
    have c13b1 : decide (0 < l4.length) = true := decide_eq_true (by omega)
    clear c13
    simp only [Option.some.injEq, Prod.mk.injEq] at H
    obtain ⟨rfl, rfl⟩ := H
    go_enter Tryd.func88, Tryd.ntmps88
    try go_wp2_with (first | ((with_reducible refine gate_dst (N := 6) rfl ?_); refine box_event ?hg (N := 6) ?hd (cs := #[.int .i64 a0_0, .int .i64 a0_1, .int .i64 a0_2, .int .u64 a0_3, .int .u64 a0_4, .int .u64 a0_5]) (t := 24) ?hr ?_; (case hd => rfl); (case hg => rfl); (case hr => first | (go_simp; done) | (go_simp; rfl)); intro gb260 hg w14 hbox hb; have n0_ := Aside0.mk (Kd.V_below (Kd.V_elderB (kV HO4.out) gb260 (Nat.le_of_eq hg.symm)) hb); have n1_ := Aside0.mk (Kd.V_below (Kd.V_elderB (kV HO5.out) gb260 (Nat.le_of_eq hg.symm)) hb); have n2_ := Aside0.mk (below_step bB hb); have n3_ := Aside0.mk (hbox); have n4_ := Aside0.mk ((by rw [hg]; exact (below_size bB) : w.heap.size ≤ gb260)); have n5_ := Aside0.mk ((by rw [hg]; exact (below_size bB) : w.heap.size ≤ gb260)); clear HO4; clear HO5; clear HB; have HO4 := n0_; have HO5 := n1_; have HB := n2_; have BK260 := n3_; have GW260 := n4_; have GE260 := n5_; clear n0_ n1_ n2_ n3_ n4_ n5_; clear hb hbox hg) | ((with_reducible refine gate_dst (N := 8) rfl ?_); refine box_event ?hg (N := 8) ?hd (cs := #[.int .u64 a2_0, .int .u64 a2_1]) (t := 57) ?hr ?_; (case hd => rfl); (case hg => rfl); (case hr => first | (go_simp; done) | (go_simp; rfl)); intro gb261 hg w15 hbox hb; have n0_ := Aside0.mk (Kd.V_below (Kd.V_elderB (kV HO4.out) gb261 (Nat.le_of_eq hg.symm)) hb); have n1_ := Aside0.mk (Kd.V_below (Kd.V_elderB (kV HO5.out) gb261 (Nat.le_of_eq hg.symm)) hb); have n2_ := Aside0.mk (blk_below (g := gb260) (o := .cells #[.int .i64 a0_0, .int .i64 a0_1, .int .i64 a0_2, .int .u64 a0_3, .int .u64 a0_4, .int .u64 a0_5] 24 (0, 0)) (kB BK260.out) hb); have n3_ := Aside0.mk (below_step bB hb); have n4_ := Aside0.mk (hbox); have n5_ := Aside0.mk ((by rw [hg]; exact (below_size bB) : w.heap.size ≤ gb261)); have n6_ := Aside0.mk ((by rw [hg]; exact (below_size bB) : w.heap.size ≤ gb261)); have n7_ := Aside0.mk ((by rw [hg]; exact Nat.ne_of_lt (blk_lt (g := gb260) (o := .cells #[.int .i64 a0_0, .int .i64 a0_1, .int .i64 a0_2, .int .u64 a0_3, .int .u64 a0_4, .int .u64 a0_5] 24 (0, 0)) (kB BK260.out)) : gb260 ≠ gb261)); have n8_ := Aside0.mk ((by rw [hg]; exact Nat.ne_of_gt (blk_lt (g := gb260) (o := .cells #[.int .i64 a0_0, .int .i64 a0_1, .int .i64 a0_2, .int .u64 a0_3, .int .u64 a0_4, .int .u64 a0_5] 24 (0, 0)) (kB BK260.out)) : gb261 ≠ gb260)); clear HO4; clear HO5; clear BK260; clear HB; have HO4 := n0_; have HO5 := n1_; have BK260 := n2_; have HB := n3_; have BK261 := n4_; have GW261 := n5_; have GE261 := n6_; have NB260_261 := n7_; have NB261_260 := n8_; clear n0_ n1_ n2_ n3_ n4_ n5_ n6_ n7_ n8_; clear hb hbox hg; have hnb16 := NB261_260.out; have hnc16 := NB260_261.out; have hcz17_0 : w15.cell? ⟨gb261, 0, none⟩ = some (.int .u64 a2_0) := (blk_cell BK261.out 0).trans rfl; have hcz17_1 : w15.cell? ⟨gb261, 1, none⟩ = some (.int .u64 a2_1) := (blk_cell BK261.out 1).trans rfl; have hfz17_0 := blk_frozen BK261.out 0; have hfz17_1 := blk_frozen BK261.out 1))
    have n0_ := Aside0.mk (Kd.V_drew HO4.out)
    have n1_ := Aside0.mk (Kd.V_drew HO5.out)
    have n2_ := Aside0.mk (blk_drew BK260.out)
    have n3_ := Aside0.mk (blk_drew BK261.out)
    have n4_ := Aside0.mk (below_drew1 HB.out)
    clear HO4
    clear HO5
    clear BK260
    clear BK261
    clear HB
    have HO4 := n0_
    have HO5 := n1_
    have BK260 := n2_
    have BK261 := n3_
    have HB := n4_
    clear n0_ n1_ n2_ n3_ n4_
    have p262 : 0 ≤ (0 : Int) := (by omega)
    have q262 : 0 < (l4.length : Int) := dA
    obtain ⟨ad262, A262_0, c262_0, e262, hx262_0, hl262_0, hi262_0⟩ := at_L1 (Kd.V_reads' HO4.out).2.2 0 p262 q262
    cases e262
    obtain ⟨ce262, hce262, hMe262, hcc262⟩ := Kd.V_get HO4.out [] 0 p262 (by first | exact q262 | exact dA | (have e_ := (Kd.V_reads' HO4.out).1; omega))
    obtain ⟨ua262_0, uc262_0, rfl, ul262_0, ge262_0⟩ := Kd.FK_slice_open hMe262
    have hv262_0 := hcc262 0 _ rfl
    rw [Nat.add_zero, show ((Kd.slice 5 (Kd.int .u8))).sz = 1 from rfl, Nat.mul_one] at hv262_0
    replace hv262_0 := Option.some.inj (hv262_0.symm.trans hx262_0)
    injection hv262_0 with hva_ hvn_ hvc_
    rw [hva_] at ge262_0
    rw [hvc_] at ul262_0
    have HL262_0 := Aside0.mk (show Kd.V (Kd.int .u8) 5 _ w.heap.size _ _ (rd_L1 l4 0) from Kd.V_mk ul262_0 ge262_0)
    clear hva_ hvn_ hvc_ ge262_0 ul262_0
    clear hcc262 hce262
    have qi262 : (0 < l4.length) = True := eq_true (by omega)
    (try rw [show ((0 : Int)).toNat = 0 from rfl] at hx262_0)
    (try rw [Addr.add_zero'] at hx262_0)
    have HR262_0 := Aside0.mk hi262_0
    have HC262_0 := Aside0.mk hl262_0
    clear hi262_0 hl262_0
    replace p262 := eq_true p262
    replace q262 := eq_true q262
    have p263 : 0 ≤ (0 : Int) := (by omega)
    have q263 : 0 < (l4.length : Int) := dA
    obtain ⟨ad263, A263_0, c263_0, e263, hx263_0, hl263_0, hi263_0⟩ := at_L1 (Kd.V_reads' HO4.out).2.2 0 p263 q263
    obtain rfl : ad262 = ad263 := (by injection e263)
    obtain ⟨ce263, hce263, hMe263, hcc263⟩ := Kd.V_get HO4.out [] 0 p263 (by first | exact q263 | exact dA | (have e_ := (Kd.V_reads' HO4.out).1; omega))
    obtain ⟨ua263_0, uc263_0, rfl, ul263_0, ge263_0⟩ := Kd.FK_slice_open hMe263
    have hv263_0 := hcc263 0 _ rfl
    rw [Nat.add_zero, show ((Kd.slice 5 (Kd.int .u8))).sz = 1 from rfl, Nat.mul_one] at hv263_0
    replace hv263_0 := Option.some.inj (hv263_0.symm.trans hx263_0)
    injection hv263_0 with hva_ hvn_ hvc_
    rw [hva_] at ge263_0
    rw [hvc_] at ul263_0
    have HL263_0 := Aside0.mk (show Kd.V (Kd.int .u8) 5 _ w.heap.size _ _ (rd_L1 l4 0) from Kd.V_mk ul263_0 ge263_0)
    clear hva_ hvn_ hvc_ ge263_0 ul263_0
    clear hcc263 hce263
    have qi263 : (0 < l4.length) = True := eq_true (by omega)
    (try rw [show ((0 : Int)).toNat = 0 from rfl] at hx263_0)
    (try rw [Addr.add_zero'] at hx263_0)
    have HR263_0 := Aside0.mk hi263_0
    have HC263_0 := Aside0.mk hl263_0
    clear hi263_0 hl263_0
    replace p263 := eq_true p263
    replace q263 := eq_true q263
    have ea_ := Option.some.inj (hx262_0.symm.trans hx263_0)
    injection ea_ with ea_ en_ ec_
    subst ea_
    subst ec_
    clear en_
    refine start_ (n := 8) (S := fun w' => w'.cell? ad262 = some (.slice A262_0 (rd_L1 l4 0).length c262_0) ∧ w'.cell? ad262 = some (.slice A262_0 (rd_L1 l4 0).length c262_0)) (ds := []) #[false, false, false, false, false, false, false, false] (by kernel_rfl) rfl rfl ⟨hx262_0, hx263_0⟩ (fun hHeld => ?_); refine with_tabW spec_rootsIn.tab4 spec_rootsIn.bits4 (fun HT_ HW_ => ?_)
    generalize w15.drew = w18 at HO4 HO5 BK260 BK261 HB HL262_0 HL263_0 HR262_0 HR263_0 hx262_0 hx263_0 hHeld ⊢
    refine pure_ (i := 0) (N := some 23) (v := ?_) (a' := ?_) #[true, false, false, false, false, false, false, false] rfl rfl (any_of HT_.out (by kernel_rfl)) (fun _ _ _ h => h) (Or.inl ⟨by rfl, ?_⟩) ?_ ?_
    rotate_left
    ·intro w'
     go_simp
     with_reducible rfl
    rotate_left
    ·simp only [Act.put, List.setIfInBounds_toArray, List.set_cons_zero, List.set_cons_succ, i64_w, i32_w]
     rfl
    refine pure_ (i := 1) (N := some 24) (v := ?_) (a' := ?_) #[true, true, false, false, false, false, false, false] rfl rfl (any_of HT_.out (by kernel_rfl)) (fun _ _ _ h => h) (Or.inl ⟨by rfl, ?_⟩) ?_ ?_
    rotate_left
    ·intro w'
     go_simp
     with_reducible rfl
    rotate_left
    ·simp only [Act.put, List.setIfInBounds_toArray, List.set_cons_zero, List.set_cons_succ, i64_w, i32_w]
     rfl
    refine pure_ (i := 3) (N := some 26) (v := ?_) (a' := ?_) #[true, true, false, true, false, false, false, false] rfl rfl (any_of HT_.out (by kernel_rfl)) (fun _ _ _ h => h) (Or.inl ⟨by rfl, ?_⟩) ?_ ?_
    rotate_left
    ·intro w'
     go_simp
     with_reducible rfl
    rotate_left
    ·simp only [Act.put, List.setIfInBounds_toArray, List.set_cons_zero, List.set_cons_succ, i64_w, i32_w]
     rfl
    refine pure_ (i := 4) (N := some 27) (v := ?_) (a' := ?_) #[true, true, false, true, true, false, false, false] rfl rfl (any_of HT_.out (by kernel_rfl)) (fun _ _ _ h => h) (Or.inl ⟨by rfl, ?_⟩) ?_ ?_
    rotate_left
    ·intro w'
     go_simp
     with_reducible rfl
    rotate_left
    ·simp only [Act.put, List.setIfInBounds_toArray, List.set_cons_zero, List.set_cons_succ, i64_w, i32_w]
     rfl
    refine take_ (i := 2) (N := some 25) (v := ?_) (a' := ?_) #[true, true, true, true, true, false, false, false] rfl rfl (take_ofW HT_.out HW_.out (by kernel_rfl)) (fun _ _ _ h => h) (Or.inl ⟨by rfl, ?_⟩) hHeld ?_ ?_
    rotate_left
    ·rintro w' ⟨s0, s1⟩
     go_simp
     with_reducible rfl
    rotate_left
    ·simp only [Act.put, List.setIfInBounds_toArray, List.set_cons_zero, List.set_cons_succ, i64_w, i32_w]
     rfl
    refine pure_ (i := 6) (N := some 12) (v := ?_) (a' := ?_) #[true, true, true, true, true, false, true, false] rfl rfl (any_of HT_.out (by kernel_rfl)) (fun _ _ _ h => h) (Or.inl ⟨by rfl, ?_⟩) ?_ ?_
    rotate_left
    ·intro w'
     go_simp
     with_reducible rfl
    rotate_left
    ·simp only [Act.put, List.setIfInBounds_toArray, List.set_cons_zero, List.set_cons_succ, i64_w, i32_w]
     rfl
    refine take_ (i := 5) (N := some 28) (v := ?_) (a' := ?_) #[true, true, true, true, true, true, true, false] rfl rfl (take_ofW HT_.out HW_.out (by kernel_rfl)) (fun _ _ _ h => h) (Or.inl ⟨by rfl, ?_⟩) hHeld ?_ ?_
    rotate_left
    ·rintro w' ⟨s0, s1⟩
     go_simp
     with_reducible rfl
    rotate_left
    ·simp only [Act.put, List.setIfInBounds_toArray, List.set_cons_zero, List.set_cons_succ, i64_w, i32_w]
     rfl
    refine pure_ (i := 7) (N := some 13) (v := ?_) (a' := ?_) #[true, true, true, true, true, true, true, true] rfl rfl (any_of HT_.out (by kernel_rfl)) (fun _ _ _ h => h) (Or.inl ⟨by rfl, ?_⟩) ?_ ?_
    rotate_left
    ·intro w'
     go_simp
     with_reducible rfl
    rotate_left
    ·simp only [Act.put, List.setIfInBounds_toArray, List.set_cons_zero, List.set_cons_succ, i64_w, i32_w]
     rfl
    refine done_ (done_of HT_.out (by kernel_rfl)) ?_
    try go_wp2
    go_ret2
    exact ⟨_, _, by first | rfl | (simp [errW_none, errW_some] <;> rfl) | (simp [*, errW_none, errW_some] <;> rfl), by (with_reducible repeat (first | apply Kd.V_alloc | apply Kd.V_drewN | apply Kd.V_drew)); exact Kd.V_mono HL262_0.out (fun _ hk => hk.1.1), by (with_reducible repeat (first | apply Kd.V_alloc | apply Kd.V_drewN | apply Kd.V_drew)); exact Kd.V_mono HL263_0.out (fun _ hk => hk.1.1), bB⟩
   ·rw [if_neg c13] at H
    exact absurd H (by simp)
 ·rw [if_neg c7] at H
  have c7b0 : (a1 == a2_1) = false := beq_eq_false_iff_ne.mpr c7
  have c7b1 : (a1 != a2_1) = true := bne_iff_ne.mpr c7
  replace H := Option.bind_eq_some_iff.mp H
  obtain ⟨t264, A190, H⟩ := H
  replace H : (if a1 ≤ (IntKind.u64.wrap (a2_0 + t264)) then (if 0 ≤ (wrap64 ((l4.length : Int) - 1)) then (if (wrap64 ((l4.length : Int) - 1)) ≤ (l4.length : Int) then ((spec_rootsIn.f k a0_0 a0_1 a0_2 a0_3 a0_4 a0_5 a1 a2_0 (IntKind.u64.wrap (a2_0 + t264)) a3 (l4.take ((wrap64 ((l4.length : Int) - 1)) : Int).toNat) l5).bind fun bt270 => (if (wrap64 ((l4.length : Int) - 1)) < (l4.length : Int) then ((spec_HashChildren.f k a0_0 a0_1 a0_2 a0_3 a0_4 a0_5 bt270.2 (rd_L1 l4 (wrap64 ((l4.length : Int) - 1)))).bind fun t277 => (some (bt270.1, t277))) else (none))) else (none)) else (none)) else (if 0 ≤ (wrap64 ((l4.length : Int) - 1)) then (if (wrap64 ((l4.length : Int) - 1)) ≤ (l4.length : Int) then ((spec_rootsIn.f k a0_0 a0_1 a0_2 a0_3 a0_4 a0_5 a1 (IntKind.u64.wrap (a2_0 + t264)) a2_1 false (l4.take ((wrap64 ((l4.length : Int) - 1)) : Int).toNat) l5).bind fun bt285 => (if (wrap64 ((l4.length : Int) - 1)) < (l4.length : Int) then ((spec_HashChildren.f k a0_0 a0_1 a0_2 a0_3 a0_4 a0_5 (rd_L1 l4 (wrap64 ((l4.length : Int) - 1))) bt285.1).bind fun t292 => ((spec_HashChildren.f k a0_0 a0_1 a0_2 a0_3 a0_4 a0_5 (rd_L1 l4 (wrap64 ((l4.length : Int) - 1))) bt285.2).bind fun t296 => (some (t292, t296)))) else (none))) else (none)) else (none))) = some (r1, r2) := H
  have A19 := Aside0.mk A190
  clear A190
  by_cases c20 : a1 ≤ (IntKind.u64.wrap (a2_0 + t264))
  ·rw [if_pos c20] at H
   have c20b0 : decide (a1 ≤ (IntKind.u64.wrap (a2_0 + t264))) = true := decide_eq_true c20
   clear c20
   obtain ⟨ji21, hji21⟩ : ∃ j_ : Int, (wrap64 ((l4.length : Int) - 1)) = j_ := ⟨_, rfl⟩
   replace H : (if 0 ≤ (ji21) then (if (ji21) ≤ (l4.length : Int) then ((spec_rootsIn.f k a0_0 a0_1 a0_2 a0_3 a0_4 a0_5 a1 a2_0 (IntKind.u64.wrap (a2_0 + t264)) a3 (l4.take ((ji21) : Int).toNat) l5).bind fun bt270 => (if (ji21) < (l4.length : Int) then ((spec_HashChildren.f k a0_0 a0_1 a0_2 a0_3 a0_4 a0_5 bt270.2 (rd_L1 l4 (ji21))).bind fun t277 => (some (bt270.1, t277))) else (none))) else (none)) else (none)) = some (r1, r2) := by first | (rw [hji21] at H; exact H) | (simp only [hji21] at H ⊢; exact H)
   (try rw [hji21] at A19)
   have hji21w : (IntKind.i64.wrap ((l4.length : Int) - 1)) = ji21 := (i64_w _).trans hji21
   by_cases c22 : 0 ≤ (ji21)
   ·rw [if_pos c22] at H
    have c22b0 := eq_true c22
    have c22b1 : decide (0 ≤ (ji21)) = true := decide_eq_true c22
    clear c22
    by_cases c23 : (ji21) ≤ (l4.length : Int)
    ·rw [if_pos c23] at H
     have c23b0 := eq_true c23
     have c23b1 : decide ((ji21) ≤ (l4.length : Int)) = true := decide_eq_true c23
     clear c23
     obtain ⟨y265, hy265⟩ : ∃ y_ : List (List Int), y_ = (l4.take ((ji21) : Int).toNat) := ⟨_, rfl⟩
     replace H : ((spec_rootsIn.f k a0_0 a0_1 a0_2 a0_3 a0_4 a0_5 a1 a2_0 (IntKind.u64.wrap (a2_0 + t264)) a3 y265 l5).bind fun bt270 => (if (ji21) < (l4.length : Int) then ((spec_HashChildren.f k a0_0 a0_1 a0_2 a0_3 a0_4 a0_5 bt270.2 (rd_L1 l4 (ji21))).bind fun t277 => (some (bt270.1, t277))) else (none))) = some (r1, r2) := by first | (rw [hy265]; with_reducible exact H) | (have H2_ := (Option.bind_some _ _).symm.trans H; rw [hy265]; with_reducible exact H2_) | (have H2_ := (Option.bind_some _ _).symm.trans H; with_reducible exact H2_) | with_reducible exact H | (rw [hy265]; exact H) | exact H
     have Ny265 := Aside0.mk hy265
     clear hy265
     replace H := Option.bind_eq_some_iff.mp H
     obtain ⟨⟨t270, t273⟩, A240, H⟩ := H
     replace H : (if (ji21) < (l4.length : Int) then ((spec_HashChildren.f k a0_0 a0_1 a0_2 a0_3 a0_4 a0_5 t273 (rd_L1 l4 (ji21))).bind fun t277 => (some (t270, t277))) else (none)) = some (r1, r2) := H
     have A24 := Aside0.mk A240
     clear A240
     by_cases c25 : (ji21) < (l4.length : Int)
     ·rw [if_pos c25] at H
      have c25b0 : decide ((ji21) < (l4.length : Int)) = true := decide_eq_true c25
      clear c25
      replace H := Option.bind_eq_some_iff.mp H
      obtain ⟨t277, A260, H⟩ := H
      replace H : (some (t270, t277)) = some (r1, r2) := H
      have A26 := Aside0.mk A260
      clear A260
      simp only [Option.some.injEq, Prod.mk.injEq] at H
      obtain ⟨rfl, rfl⟩ := H
      go_enter Tryd.func88, Tryd.ntmps88
      try go_wp2_with (first | ((with_reducible refine gate_dst (N := 6) rfl ?_); refine box_event ?hg (N := 6) ?hd (cs := #[.int .i64 a0_0, .int .i64 a0_1, .int .i64 a0_2, .int .u64 a0_3, .int .u64 a0_4, .int .u64 a0_5]) (t := 24) ?hr ?_; (case hd => rfl); (case hg => rfl); (case hr => first | (go_simp; done) | (go_simp; rfl)); intro gb260 hg w27 hbox hb; have n0_ := Aside0.mk (Kd.V_below (Kd.V_elderB (kV HO4.out) gb260 (Nat.le_of_eq hg.symm)) hb); have n1_ := Aside0.mk (Kd.V_below (Kd.V_elderB (kV HO5.out) gb260 (Nat.le_of_eq hg.symm)) hb); have n2_ := Aside0.mk (below_step bB hb); have n3_ := Aside0.mk (hbox); have n4_ := Aside0.mk ((by rw [hg]; exact (below_size bB) : w.heap.size ≤ gb260)); have n5_ := Aside0.mk ((by rw [hg]; exact (below_size bB) : w.heap.size ≤ gb260)); clear HO4; clear HO5; clear HB; have HO4 := n0_; have HO5 := n1_; have HB := n2_; have BK260 := n3_; have GW260 := n4_; have GE260 := n5_; clear n0_ n1_ n2_ n3_ n4_ n5_; clear hb hbox hg) | ((with_reducible refine gate_dst (N := 8) rfl ?_); refine box_event ?hg (N := 8) ?hd (cs := #[.int .u64 a2_0, .int .u64 a2_1]) (t := 57) ?hr ?_; (case hd => rfl); (case hg => rfl); (case hr => first | (go_simp; done) | (go_simp; rfl)); intro gb261 hg w28 hbox hb; have n0_ := Aside0.mk (Kd.V_below (Kd.V_elderB (kV HO4.out) gb261 (Nat.le_of_eq hg.symm)) hb); have n1_ := Aside0.mk (Kd.V_below (Kd.V_elderB (kV HO5.out) gb261 (Nat.le_of_eq hg.symm)) hb); have n2_ := Aside0.mk (blk_below (g := gb260) (o := .cells #[.int .i64 a0_0, .int .i64 a0_1, .int .i64 a0_2, .int .u64 a0_3, .int .u64 a0_4, .int .u64 a0_5] 24 (0, 0)) (kB BK260.out) hb); have n3_ := Aside0.mk (below_step bB hb); have n4_ := Aside0.mk (hbox); have n5_ := Aside0.mk ((by rw [hg]; exact (below_size bB) : w.heap.size ≤ gb261)); have n6_ := Aside0.mk ((by rw [hg]; exact (below_size bB) : w.heap.size ≤ gb261)); have n7_ := Aside0.mk ((by rw [hg]; exact Nat.ne_of_lt (blk_lt (g := gb260) (o := .cells #[.int .i64 a0_0, .int .i64 a0_1, .int .i64 a0_2, .int .u64 a0_3, .int .u64 a0_4, .int .u64 a0_5] 24 (0, 0)) (kB BK260.out)) : gb260 ≠ gb261)); have n8_ := Aside0.mk ((by rw [hg]; exact Nat.ne_of_gt (blk_lt (g := gb260) (o := .cells #[.int .i64 a0_0, .int .i64 a0_1, .int .i64 a0_2, .int .u64 a0_3, .int .u64 a0_4, .int .u64 a0_5] 24 (0, 0)) (kB BK260.out)) : gb261 ≠ gb260)); clear HO4; clear HO5; clear BK260; clear HB; have HO4 := n0_; have HO5 := n1_; have BK260 := n2_; have HB := n3_; have BK261 := n4_; have GW261 := n5_; have GE261 := n6_; have NB260_261 := n7_; have NB261_260 := n8_; clear n0_ n1_ n2_ n3_ n4_ n5_ n6_ n7_ n8_; clear hb hbox hg; have hnb29 := NB261_260.out; have hnc29 := NB260_261.out; have hcz30_0 : w28.cell? ⟨gb261, 0, none⟩ = some (.int .u64 a2_0) := (blk_cell BK261.out 0).trans rfl; have hcz30_1 : w28.cell? ⟨gb261, 1, none⟩ = some (.int .u64 a2_1) := (blk_cell BK261.out 1).trans rfl; have hfz30_0 := blk_frozen BK261.out 0; have hfz30_1 := blk_frozen BK261.out 1))
      have n0_ := Aside0.mk (Kd.V_drew HO4.out)
      have n1_ := Aside0.mk (Kd.V_drew HO5.out)
      have n2_ := Aside0.mk (blk_drew BK260.out)
      have n3_ := Aside0.mk (blk_drew BK261.out)
      have n4_ := Aside0.mk (below_drew1 HB.out)
      clear HO4
      clear HO5
      clear BK260
      clear BK261
      clear HB
      have HO4 := n0_
      have HO5 := n1_
      have BK260 := n2_
      have BK261 := n3_
      have HB := n4_
      clear n0_ n1_ n2_ n3_ n4_
      refine start_ (n := 14) (S := fun w' => w'.cell? ⟨gb261, 0, none⟩ = some (.int .u64 a2_0) ∧ w'.cell? ⟨gb261, 1, none⟩ = some (.int .u64 a2_1)) (ds := []) #[false, false, false, false, false, false, false, false, false, false, false, false, false, false] (by kernel_rfl) rfl rfl ⟨(blk_cell BK261.out 0).trans rfl, (blk_cell BK261.out 1).trans rfl⟩ (fun hHeld => ?_); refine with_tabW spec_rootsIn.tab5 spec_rootsIn.bits5 (fun HT_ HW_ => ?_)
      generalize w28.drew = w31 at HO4 HO5 BK260 BK261 HB hHeld ⊢
      refine pure_ (i := 0) (N := some 29) (v := ?_) (a' := ?_) #[true, false, false, false, false, false, false, false, false, false, false, false, false, false] rfl rfl (any_of HT_.out (by kernel_rfl)) (fun _ _ _ h => h) (Or.inl ⟨by rfl, ?_⟩) ?_ ?_
      rotate_left
      ·intro w'
       go_simp
       with_reducible rfl
      rotate_left
      ·simp only [Act.put, List.setIfInBounds_toArray, List.set_cons_zero, List.set_cons_succ, i64_w, i32_w]
       rfl
      refine pure_ (i := 2) (N := some 31) (v := ?_) (a' := ?_) #[true, false, true, false, false, false, false, false, false, false, false, false, false, false] rfl rfl (any_of HT_.out (by kernel_rfl)) (fun _ _ _ h => h) (Or.inl ⟨by rfl, ?_⟩) ?_ ?_
      rotate_left
      ·intro w'
       go_simp
       with_reducible rfl
      rotate_left
      ·simp only [Act.put, List.setIfInBounds_toArray, List.set_cons_zero, List.set_cons_succ, i64_w, i32_w]
       rfl
      refine pure_ (i := 4) (N := some 33) (v := ?_) (a' := ?_) #[true, false, true, false, true, false, false, false, false, false, false, false, false, false] rfl rfl (any_of HT_.out (by kernel_rfl)) (fun _ _ _ h => h) (Or.inl ⟨by rfl, ?_⟩) ?_ ?_
      rotate_left
      ·intro w'
       go_simp
       with_reducible rfl
      rotate_left
      ·simp only [Act.put, List.setIfInBounds_toArray, List.set_cons_zero, List.set_cons_succ, i64_w, i32_w]
       rfl
      refine pure_ (i := 9) (N := some 38) (v := ?_) (a' := ?_) #[true, false, true, false, true, false, false, false, false, true, false, false, false, false] rfl rfl (any_of HT_.out (by kernel_rfl)) (fun _ _ _ h => h) (Or.inl ⟨by rfl, ?_⟩) ?_ ?_
      rotate_left
      ·intro w'
       go_simp
       with_reducible rfl
      rotate_left
      ·simp only [Act.put, List.setIfInBounds_toArray, List.set_cons_zero, List.set_cons_succ, i64_w, i32_w]
       rfl
      refine pure_ (i := 10) (N := some 39) (v := ?_) (a' := ?_) #[true, false, true, false, true, false, false, false, false, true, true, false, false, false] rfl rfl (any_of HT_.out (by kernel_rfl)) (fun _ _ _ h => h) (Or.inl ⟨by rfl, ?_⟩) ?_ ?_
      rotate_left
      ·intro w'
       go_simp
       with_reducible rfl
      rotate_left
      ·simp only [Act.put, List.setIfInBounds_toArray, List.set_cons_zero, List.set_cons_succ, i64_w, i32_w]
       rfl
      refine pure_ (i := 11) (N := some 40) (v := ?_) (a' := ?_) #[true, false, true, false, true, false, false, false, false, true, true, true, false, false] rfl rfl (any_of HT_.out (by kernel_rfl)) (fun _ _ _ h => h) (Or.inl ⟨by rfl, ?_⟩) ?_ ?_
      rotate_left
      ·intro w'
       go_simp
       with_reducible rfl
      rotate_left
      ·simp only [Act.put, List.setIfInBounds_toArray, List.set_cons_zero, List.set_cons_succ, i64_w, i32_w]
       rfl
      refine take_ (i := 1) (N := some 30) (v := ?_) (a' := ?_) #[true, true, true, false, true, false, false, false, false, true, true, true, false, false] rfl rfl (take_ofW HT_.out HW_.out (by kernel_rfl)) (fun _ _ _ h => h) (Or.inl ⟨by rfl, ?_⟩) hHeld ?_ ?_
      rotate_left
      ·rintro w' ⟨s0, s1⟩
       go_simp
       with_reducible rfl
      rotate_left
      ·simp only [Act.put, List.setIfInBounds_toArray, List.set_cons_zero, List.set_cons_succ, i64_w, i32_w]
       rfl
      refine take_ (i := 3) (N := some 32) (v := ?_) (a' := ?_) #[true, true, true, true, true, false, false, false, false, true, true, true, false, false] rfl rfl (take_ofW HT_.out HW_.out (by kernel_rfl)) (fun _ _ _ h => h) (Or.inl ⟨by rfl, ?_⟩) hHeld ?_ ?_
      rotate_left
      ·rintro w' ⟨s0, s1⟩
       go_simp
       with_reducible rfl
      rotate_left
      ·simp only [Act.put, List.setIfInBounds_toArray, List.set_cons_zero, List.set_cons_succ, i64_w, i32_w]
       rfl
      refine take_ (i := 5) (N := some 34) (v := ?_) (a' := ?_) #[true, true, true, true, true, true, false, false, false, true, true, true, false, false] rfl rfl (take_ofW HT_.out HW_.out (by kernel_rfl)) (fun _ _ _ h => h) (Or.inl ⟨by rfl, ?_⟩) hHeld ?_ ?_
      rotate_left
      ·rintro w' ⟨s0, s1⟩
       go_simp
       with_reducible rfl
      rotate_left
      ·simp only [Act.put, List.setIfInBounds_toArray, List.set_cons_zero, List.set_cons_succ, i64_w, i32_w]
       rfl
      refine pure_ (i := 6) (N := some 35) (v := ?_) (a' := ?_) #[true, true, true, true, true, true, true, false, false, true, true, true, false, false] rfl rfl (any_of HT_.out (by kernel_rfl)) (fun _ _ _ h => h) (Or.inl ⟨by rfl, ?_⟩) ?_ ?_
      rotate_left
      ·intro w'
       go_simp
       with_reducible rfl
      rotate_left
      ·simp only [Act.put, List.setIfInBounds_toArray, List.set_cons_zero, List.set_cons_succ, i64_w, i32_w]
       rfl
      refine one_ (i := 7) (N := some 36) #[true, true, true, true, true, true, true, true, false, true, true, true, false, false] rfl rfl (one_of HT_.out (by kernel_rfl)) (by decide) (fun K hK => ?_)
      refine goes_ Tryd.func99 (by kernel_rfl) rfl #[.int .u64 (IntKind.u64.wrap (a2_1 - a2_0))] (by rfl) rfl rfl aV ?_
      with_reducible refine (spec_split.calls k (IntKind.u64.wrap (a2_1 - a2_0)) t264 _ A19.out).mono ?_
      rintro e w' ⟨rfl, ⟨nd, rfl⟩⟩
      refine ⟨_, rfl, ?_⟩
      refine hK.out _ _ ⟨(blk_cell BK261.out 0).trans rfl, (blk_cell BK261.out 1).trans rfl⟩ (fun hHeld => ?_)
      clear hK K
      refine norm_ (a' := ?_) ?_ ?_
      rotate_left
      ·show Act.put _ (some 36) _ = _
       simp only [Act.put, List.setIfInBounds_toArray, List.set_cons_zero, List.set_cons_succ, i64_w, i32_w]
       rfl
      refine pure_ (i := 8) (N := some 37) (v := ?_) (a' := ?_) #[true, true, true, true, true, true, true, true, true, true, true, true, false, false] rfl rfl (any_of HT_.out (by kernel_rfl)) (fun _ _ _ h => h) (Or.inl ⟨by rfl, ?_⟩) ?_ ?_
      rotate_left
      ·intro w'
       go_simp
       with_reducible rfl
      rotate_left
      ·simp only [Act.put, List.setIfInBounds_toArray, List.set_cons_zero, List.set_cons_succ, i64_w, i32_w]
       rfl
      refine pure_ (i := 12) (N := some 14) (v := ?_) (a' := ?_) #[true, true, true, true, true, true, true, true, true, true, true, true, true, false] rfl rfl (any_of HT_.out (by kernel_rfl)) (fun _ _ _ h => h) (Or.inl ⟨by rfl, ?_⟩) ?_ ?_
      rotate_left
      ·intro w'
       go_simp
       with_reducible rfl
      rotate_left
      ·simp only [Act.put, List.setIfInBounds_toArray, List.set_cons_zero, List.set_cons_succ, i64_w, i32_w]
       rfl
      refine pure_ (i := 13) (N := some 15) (v := ?_) (a' := ?_) #[true, true, true, true, true, true, true, true, true, true, true, true, true, true] rfl rfl (any_of HT_.out (by kernel_rfl)) (fun _ _ _ h => h) (Or.inl ⟨by rfl, ?_⟩) ?_ ?_
      rotate_left
      ·intro w'
       go_simp
       with_reducible rfl
      rotate_left
      ·simp only [Act.put, List.setIfInBounds_toArray, List.set_cons_zero, List.set_cons_succ, i64_w, i32_w]
       rfl
      refine done_ (done_of HT_.out (by kernel_rfl)) ?_
      try go_wp2
      (try (rw [drewN_self w31]; generalize hq_ : World.drewN w31 _ = w31; have n0_ : Aside0 (Kd.V (Kd.slice 5 (Kd.int .u8)) 27 w31 w.heap.size (fun k_ => ((P4_ k_ ∨ P5_ k_) ∨ w.heap.size ≤ k_) ∧ k_ ≠ gb260 ∧ k_ ≠ gb261) (.slice A4 l4.length c4) l4) := ⟨by rw [← hq_]; exact (by (with_reducible repeat (first | apply Kd.V_alloc | apply Kd.V_drewN | apply Kd.V_drew)); exact Kd.V_mono HO4.out (fun _ hk => ⟨hk.1.1, ⟨hk.1.2, hk.2⟩⟩))⟩; have n1_ : Aside0 (Kd.V (Kd.int .u8) 5 w31 w.heap.size (fun k_ => ((P4_ k_ ∨ P5_ k_) ∨ w.heap.size ≤ k_) ∧ k_ ≠ gb260 ∧ k_ ≠ gb261) (.slice A5 l5.length c5) l5) := ⟨by rw [← hq_]; exact (by (with_reducible repeat (first | apply Kd.V_alloc | apply Kd.V_drewN | apply Kd.V_drew)); exact Kd.V_mono HO5.out (fun _ hk => ⟨hk.1.1, ⟨hk.1.2, hk.2⟩⟩))⟩; have n2_ : Aside0 (w31.heap[gb260]? = some (.cells #[.int .i64 a0_0, .int .i64 a0_1, .int .i64 a0_2, .int .u64 a0_3, .int .u64 a0_4, .int .u64 a0_5] 24 (0, 0))) := ⟨by rw [← hq_]; exact (kB BK260.out)⟩; have n3_ : Aside0 (w31.heap[gb261]? = some (.cells #[.int .u64 a2_0, .int .u64 a2_1] 57 (0, 0))) := ⟨by rw [← hq_]; exact (kB BK261.out)⟩; have n4_ : Aside0 (Below w.heap.size w w31) := ⟨by rw [← hq_]; exact bB⟩; clear HO4 HO5 BK260 BK261 HB hq_; have HO4 := n0_; have HO5 := n1_; have BK260 := n2_; have BK261 := n3_; have HB := n4_; clear n0_ n1_ n2_ n3_ n4_))
      have n0_ := Aside0.mk (Kd.V_drew HO4.out)
      have n1_ := Aside0.mk (Kd.V_drew HO5.out)
      have n2_ := Aside0.mk (blk_drew BK260.out)
      have n3_ := Aside0.mk (blk_drew BK261.out)
      have n4_ := Aside0.mk (below_drew1 HB.out)
      clear HO4
      clear HO5
      clear BK260
      clear BK261
      clear HB
      have HO4 := n0_
      have HO5 := n1_
      have BK260 := n2_
      have BK261 := n3_
      have HB := n4_
      clear n0_ n1_ n2_ n3_ n4_
      have q33 : ((ji21) : Int) ≤ ((l4.length : Int) : Int) := dA
      obtain ⟨i033, hi033, _, hsz33, _⟩ := info_parts info27
      have hroom33 : l4.length ≤ c4 := (Kd.V_reads' HO4.out).2.1
      have hC33 : Kd.F (Kd.slice 5 (Kd.int .u8)) _ _ A4 l4.length l4 := (Kd.V_at (base := w.heap.size) HO4.out).2.2
      have hcut33 := cut_to (P := Tryd.prog) 25 27 .i64 Tryd.underlying25 hi033 A4 l4.length c4 (ji21) dA q33 hroom33
      have hr33 := Kd.F_take (m := ((ji21) : Int).toNat) hC33 (by omega)
      have hy33 : y265.length = ((ji21) : Int).toNat := (by rw [Ny265.out, List.length_take]; omega)
      rw [← Ny265.out] at hr33
      rw [← hy33] at hcut33
      have HO269 := Aside0.mk (show Kd.V (Kd.slice 5 (Kd.int .u8)) 27 _ w.heap.size _ (.slice A4 y265.length c4) y265 from Kd.V_mk (by omega) hr33)
      have HC269 := Aside0.mk (show y265.length ≤ c4 from by omega)
      clear hr33 hC33 hroom33 hi033 hsz33
      have KY33 := Aside0.mk hy33
      clear hy33
      replace q33 := eq_true q33
      refine start_ (n := 17) (S := fun w' => w'.cell? ⟨gb260, 0, none⟩ = some (.int .i64 a0_0) ∧ w'.cell? ⟨gb260, 1, none⟩ = some (.int .i64 a0_1) ∧ w'.cell? ⟨gb260, 2, none⟩ = some (.int .i64 a0_2) ∧ w'.cell? ⟨gb260, 3, none⟩ = some (.int .u64 a0_3) ∧ w'.cell? ⟨gb260, 4, none⟩ = some (.int .u64 a0_4) ∧ w'.cell? ⟨gb260, 5, none⟩ = some (.int .u64 a0_5) ∧ w'.cell? ⟨gb261, 0, none⟩ = some (.int .u64 a2_0) ∧ w'.cell? ⟨gb261, 1, none⟩ = some (.int .u64 a2_1)) (ds := []) #[false, false, false, false, false, false, false, false, false, false, false, false, false, false, false, false, false] (by kernel_rfl) rfl rfl ⟨(blk_cell BK260.out 0).trans rfl, (blk_cell BK260.out 1).trans rfl, (blk_cell BK260.out 2).trans rfl, (blk_cell BK260.out 3).trans rfl, (blk_cell BK260.out 4).trans rfl, (blk_cell BK260.out 5).trans rfl, (blk_cell BK261.out 0).trans rfl, (blk_cell BK261.out 1).trans rfl⟩ (fun hHeld => ?_); refine with_tabW spec_rootsIn.tab7 spec_rootsIn.bits7 (fun HT_ HW_ => ?_)
      generalize w31.drew = w32 at HO4 HO5 BK260 BK261 HB HO269 hHeld ⊢
      refine pure_ (i := 1) (N := some 46) (v := ?_) (a' := ?_) #[false, true, false, false, false, false, false, false, false, false, false, false, false, false, false, false, false] rfl rfl (any_of HT_.out (by kernel_rfl)) (fun _ _ _ h => h) (Or.inl ⟨by rfl, ?_⟩) ?_ ?_
      rotate_left
      ·intro w'
       go_simp
       with_reducible rfl
      rotate_left
      ·simp only [Act.put, List.setIfInBounds_toArray, List.set_cons_zero, List.set_cons_succ, i64_w, i32_w]
       rfl
      refine pure_ (i := 2) (N := some 47) (v := ?_) (a' := ?_) #[false, true, true, false, false, false, false, false, false, false, false, false, false, false, false, false, false] rfl rfl (any_of HT_.out (by kernel_rfl)) (fun _ _ _ h => h) (Or.inl ⟨by rfl, ?_⟩) ?_ ?_
      rotate_left
      ·intro w'
       go_simp
       with_reducible rfl
      rotate_left
      ·simp only [Act.put, List.setIfInBounds_toArray, List.set_cons_zero, List.set_cons_succ, i64_w, i32_w]
       rfl
      refine pure_ (i := 4) (N := some 49) (v := ?_) (a' := ?_) #[false, true, true, false, true, false, false, false, false, false, false, false, false, false, false, false, false] rfl rfl (any_of HT_.out (by kernel_rfl)) (fun _ _ _ h => h) (Or.inl ⟨by rfl, ?_⟩) ?_ ?_
      rotate_left
      ·intro w'
       go_simp
       with_reducible rfl
      rotate_left
      ·simp only [Act.put, List.setIfInBounds_toArray, List.set_cons_zero, List.set_cons_succ, i64_w, i32_w]
       rfl
      refine pure_ (i := 6) (N := some 51) (v := ?_) (a' := ?_) #[false, true, true, false, true, false, true, false, false, false, false, false, false, false, false, false, false] rfl rfl (any_of HT_.out (by kernel_rfl)) (fun _ _ _ h => h) (Or.inl ⟨by rfl, ?_⟩) ?_ ?_
      rotate_left
      ·intro w'
       go_simp
       with_reducible rfl
      rotate_left
      ·simp only [Act.put, List.setIfInBounds_toArray, List.set_cons_zero, List.set_cons_succ, i64_w, i32_w]
       rfl
      refine pure_ (i := 7) (N := some 52) (v := ?_) (a' := ?_) #[false, true, true, false, true, false, true, true, false, false, false, false, false, false, false, false, false] rfl rfl (any_of HT_.out (by kernel_rfl)) (fun _ _ _ h => h) (Or.inl ⟨by rfl, ?_⟩) ?_ ?_
      rotate_left
      ·intro w'
       go_simp
       with_reducible rfl
      rotate_left
      ·simp only [Act.put, List.setIfInBounds_toArray, List.set_cons_zero, List.set_cons_succ, i64_w, i32_w]
       rfl
      refine pure_ (i := 8) (N := some 53) (v := ?_) (a' := ?_) #[false, true, true, false, true, false, true, true, true, false, false, false, false, false, false, false, false] rfl rfl (any_of HT_.out (by kernel_rfl)) (fun _ _ _ h => h) (Or.inl ⟨by rfl, ?_⟩) ?_ ?_
      rotate_left
      ·intro w'
       go_simp
       with_reducible rfl
      rotate_left
      ·simp only [Act.put, List.setIfInBounds_toArray, List.set_cons_zero, List.set_cons_succ, i64_w, i32_w]
       rfl
      refine pure_ (i := 9) (N := some 54) (v := ?_) (a' := ?_) #[false, true, true, false, true, false, true, true, true, true, false, false, false, false, false, false, false] rfl rfl (any_of HT_.out (by kernel_rfl)) (fun _ _ _ h => h) (Or.inl ⟨by rfl, ?_⟩) ?_ ?_
      rotate_left
      ·intro w'
       go_simp
       with_reducible rfl
      rotate_left
      ·simp only [Act.put, List.setIfInBounds_toArray, List.set_cons_zero, List.set_cons_succ, i64_w, i32_w]
       rfl
      refine pure_ (i := 10) (N := some 55) (v := ?_) (a' := ?_) #[false, true, true, false, true, false, true, true, true, true, true, false, false, false, false, false, false] rfl rfl (any_of HT_.out (by kernel_rfl)) (fun _ _ _ h => h) (Or.inl ⟨by rfl, ?_⟩) ?_ ?_
      rotate_left
      ·intro w'
       go_simp
       with_reducible rfl
      rotate_left
      ·simp only [Act.put, List.setIfInBounds_toArray, List.set_cons_zero, List.set_cons_succ, i64_w, i32_w]
       rfl
      refine take_ (i := 0) (N := some 45) (v := ?_) (a' := ?_) #[true, true, true, false, true, false, true, true, true, true, true, false, false, false, false, false, false] rfl rfl (take_ofW HT_.out HW_.out (by kernel_rfl)) (fun _ _ _ h => h) (Or.inl ⟨by rfl, ?_⟩) hHeld ?_ ?_
      rotate_left
      ·rintro w' ⟨s0, s1, s2, s3, s4, s5, s6, s7⟩
       go_simp
       with_reducible rfl
      rotate_left
      ·simp only [Act.put, List.setIfInBounds_toArray, List.set_cons_zero, List.set_cons_succ, i64_w, i32_w]
       rfl
      refine take_ (i := 3) (N := some 48) (v := ?_) (a' := ?_) #[true, true, true, true, true, false, true, true, true, true, true, false, false, false, false, false, false] rfl rfl (take_ofW HT_.out HW_.out (by kernel_rfl)) (fun _ _ _ h => h) (Or.inl ⟨by rfl, ?_⟩) hHeld ?_ ?_
      rotate_left
      ·rintro w' ⟨s0, s1, s2, s3, s4, s5, s6, s7⟩
       go_simp
       with_reducible rfl
      rotate_left
      ·simp only [Act.put, List.setIfInBounds_toArray, List.set_cons_zero, List.set_cons_succ, i64_w, i32_w]
       rfl
      refine pure_ (i := 5) (N := some 50) (v := ?_) (a' := ?_) #[true, true, true, true, true, true, true, true, true, true, true, false, false, false, false, false, false] rfl rfl (any_of HT_.out (by kernel_rfl)) (fun _ _ _ h => h) (Or.inl ⟨by rfl, ?_⟩) ?_ ?_
      rotate_left
      ·intro w'
       go_simp
       with_reducible rfl
      rotate_left
      ·simp only [Act.put, List.setIfInBounds_toArray, List.set_cons_zero, List.set_cons_succ, i64_w, i32_w]
       rfl
      refine one_ (i := 11) (N := some 56) #[true, true, true, true, true, true, true, true, true, true, true, true, false, false, false, false, false] rfl rfl (one_of HT_.out (by kernel_rfl)) (by decide) (fun K hK => ?_)
      refine goes_ Tryd.func88 (by kernel_rfl) rfl #[.agg #[.int .i64 a0_0, .int .i64 a0_1, .int .i64 a0_2, .int .u64 a0_3, .int .u64 a0_4, .int .u64 a0_5], .int .u64 a1, .agg #[.int .u64 a2_0, .int .u64 (IntKind.u64.wrap (a2_0 + t264))], .bool a3, .slice A4 y265.length c4, .slice A5 l5.length c5] (by rfl) rfl rfl aV ?_
      with_reducible refine (ih k (by omega) a0_0 a0_1 a0_2 a0_3 a0_4 a0_5 a1 a2_0 (IntKind.u64.wrap (a2_0 + t264)) a3 (fun k_ => ((((P4_ k_ ∨ P5_ k_) ∨ w.heap.size ≤ k_) ∧ k_ ≠ gb260) ∧ k_ ≠ gb261)) _ _ y265 (fun k_ => ((((P4_ k_ ∨ P5_ k_) ∨ w.heap.size ≤ k_) ∧ k_ ≠ gb260) ∧ k_ ≠ gb261)) _ _ l5 t270 t273 _ ?side1 ?side2 A24.out).mono ?_
      (case side1 => first | exact HO269.out | exact Kd.V_mono HO269.out (fun k_ h_ => by simp only [and_assoc] at h_ ⊢; exact h_))
      (case side2 => first | exact HO5.out | exact Kd.V_mono HO5.out (fun k_ h_ => by simp only [and_assoc] at h_ ⊢; exact h_))
      rintro e w34 ⟨v271, v274, rfl, ho0, ho1, hb⟩
      refine ⟨_, rfl, ?_⟩
      have n0_ := Aside0.mk (Kd.V_below (kV HO4.out) hb)
      have n1_ := Aside0.mk (Kd.V_below (kV HO5.out) hb)
      have n2_ := Aside0.mk (Kd.V_below (kV HO269.out) hb)
      have n3_ := Aside0.mk (Kd.V_lower (Kd.V_mono (ok' := fun k_ => ((P4_ k_ ∨ P5_ k_) ∨ w.heap.size ≤ k_) ∧ k_ ≠ gb260 ∧ k_ ≠ gb261) ho0 (fun k_ hk_ => ⟨Or.elim hk_ (fun hs_ => Or.elim hs_ (fun hs_ => hs_.1.1) (fun hs_ => hs_.1.1)) (fun hn_ => (.inr (Nat.le_trans (below_size bB) hn_))), Or.elim hk_ (fun hs_ => Or.elim hs_ (fun hs_ => hs_.1.2) (fun hs_ => hs_.1.2)) (fun hn_ => (Kd.freshB (g := gb260) (o := .cells #[.int .i64 a0_0, .int .i64 a0_1, .int .i64 a0_2, .int .u64 a0_3, .int .u64 a0_4, .int .u64 a0_5] 24 (0, 0)) (kB BK260.out) k_ hn_)), Or.elim hk_ (fun hs_ => Or.elim hs_ (fun hs_ => hs_.2) (fun hs_ => hs_.2)) (fun hn_ => (Kd.freshB (g := gb261) (o := .cells #[.int .u64 a2_0, .int .u64 a2_1] 57 (0, 0)) (kB BK261.out) k_ hn_))⟩)) (below_size bB))
      have n4_ := Aside0.mk (Kd.V_lower (Kd.V_mono (ok' := fun k_ => ((P4_ k_ ∨ P5_ k_) ∨ w.heap.size ≤ k_) ∧ k_ ≠ gb260 ∧ k_ ≠ gb261) ho1 (fun k_ hk_ => ⟨Or.elim hk_ (fun hs_ => Or.elim hs_ (fun hs_ => hs_.1.1) (fun hs_ => hs_.1.1)) (fun hn_ => (.inr (Nat.le_trans (below_size bB) hn_))), Or.elim hk_ (fun hs_ => Or.elim hs_ (fun hs_ => hs_.1.2) (fun hs_ => hs_.1.2)) (fun hn_ => (Kd.freshB (g := gb260) (o := .cells #[.int .i64 a0_0, .int .i64 a0_1, .int .i64 a0_2, .int .u64 a0_3, .int .u64 a0_4, .int .u64 a0_5] 24 (0, 0)) (kB BK260.out) k_ hn_)), Or.elim hk_ (fun hs_ => Or.elim hs_ (fun hs_ => hs_.2) (fun hs_ => hs_.2)) (fun hn_ => (Kd.freshB (g := gb261) (o := .cells #[.int .u64 a2_0, .int .u64 a2_1] 57 (0, 0)) (kB BK261.out) k_ hn_))⟩)) (below_size bB))
      have n5_ := Aside0.mk (blk_below (g := gb260) (o := .cells #[.int .i64 a0_0, .int .i64 a0_1, .int .i64 a0_2, .int .u64 a0_3, .int .u64 a0_4, .int .u64 a0_5] 24 (0, 0)) (kB BK260.out) hb)
      have n6_ := Aside0.mk (blk_below (g := gb261) (o := .cells #[.int .u64 a2_0, .int .u64 a2_1] 57 (0, 0)) (kB BK261.out) hb)
      have n7_ := Aside0.mk (below_step bB hb)
      clear HO4
      clear HO5
      clear HO269
      clear BK260
      clear BK261
      clear HB
      have HO4 := n0_
      have HO5 := n1_
      have HO269 := n2_
      have HO272 := n3_
      have HO275 := n4_
      have BK260 := n5_
      have BK261 := n6_
      have HB := n7_
      clear n0_ n1_ n2_ n3_ n4_ n5_ n6_ n7_
      (try clear hb)
      (try clear hb2)
      (try clear hk)
      (try clear hi)
      (try clear ho0)
      (try clear ho1)
      refine hK.out _ _ ⟨(blk_cell BK260.out 0).trans rfl, (blk_cell BK260.out 1).trans rfl, (blk_cell BK260.out 2).trans rfl, (blk_cell BK260.out 3).trans rfl, (blk_cell BK260.out 4).trans rfl, (blk_cell BK260.out 5).trans rfl, (blk_cell BK261.out 0).trans rfl, (blk_cell BK261.out 1).trans rfl⟩ (fun hHeld => ?_)
      clear hK K
      refine norm_ (a' := ?_) ?_ ?_
      rotate_left
      ·show Act.put _ (some 56) _ = _
       simp only [Act.put, List.setIfInBounds_toArray, List.set_cons_zero, List.set_cons_succ, i64_w, i32_w]
       rfl
      refine pure_ (i := 12) (N := some 44) (v := ?_) (a' := ?_) #[true, true, true, true, true, true, true, true, true, true, true, true, true, false, false, false, false] rfl rfl (any_of HT_.out (by kernel_rfl)) (fun _ _ _ h => h) (Or.inl ⟨by rfl, ?_⟩) ?_ ?_
      rotate_left
      ·intro w'
       go_simp
       with_reducible rfl
      rotate_left
      ·simp only [Act.put, List.setIfInBounds_toArray, List.set_cons_zero, List.set_cons_succ, i64_w, i32_w]
       rfl
      refine pure_ (i := 13) (N := some 57) (v := ?_) (a' := ?_) #[true, true, true, true, true, true, true, true, true, true, true, true, true, true, false, false, false] rfl rfl (any_of HT_.out (by kernel_rfl)) (fun _ _ _ h => h) (Or.inl ⟨by rfl, ?_⟩) ?_ ?_
      rotate_left
      ·intro w'
       go_simp
       with_reducible rfl
      rotate_left
      ·simp only [Act.put, List.setIfInBounds_toArray, List.set_cons_zero, List.set_cons_succ, i64_w, i32_w]
       rfl
      refine pure_ (i := 14) (N := some 58) (v := ?_) (a' := ?_) #[true, true, true, true, true, true, true, true, true, true, true, true, true, true, true, false, false] rfl rfl (any_of HT_.out (by kernel_rfl)) (fun _ _ _ h => h) (Or.inl ⟨by rfl, ?_⟩) ?_ ?_
      rotate_left
      ·intro w'
       go_simp
       with_reducible rfl
      rotate_left
      ·simp only [Act.put, List.setIfInBounds_toArray, List.set_cons_zero, List.set_cons_succ, i64_w, i32_w]
       rfl
      refine pure_ (i := 15) (N := some 12) (v := ?_) (a' := ?_) #[true, true, true, true, true, true, true, true, true, true, true, true, true, true, true, true, false] rfl rfl (any_of HT_.out (by kernel_rfl)) (fun _ _ _ h => h) (Or.inl ⟨by rfl, ?_⟩) ?_ ?_
      rotate_left
      ·intro w'
       go_simp
       with_reducible rfl
      rotate_left
      ·simp only [Act.put, List.setIfInBounds_toArray, List.set_cons_zero, List.set_cons_succ, i64_w, i32_w]
       rfl
      refine pure_ (i := 16) (N := some 13) (v := ?_) (a' := ?_) #[true, true, true, true, true, true, true, true, true, true, true, true, true, true, true, true, true] rfl rfl (any_of HT_.out (by kernel_rfl)) (fun _ _ _ h => h) (Or.inl ⟨by rfl, ?_⟩) ?_ ?_
      rotate_left
      ·intro w'
       go_simp
       with_reducible rfl
      rotate_left
      ·simp only [Act.put, List.setIfInBounds_toArray, List.set_cons_zero, List.set_cons_succ, i64_w, i32_w]
       rfl
      refine done_ (done_of HT_.out (by kernel_rfl)) ?_
      try go_wp2
      have n0_ := Aside0.mk (Kd.V_drew HO4.out)
      have n1_ := Aside0.mk (Kd.V_drew HO5.out)
      have n2_ := Aside0.mk (Kd.V_drew HO269.out)
      have n3_ := Aside0.mk (Kd.V_drew HO272.out)
      have n4_ := Aside0.mk (Kd.V_drew HO275.out)
      have n5_ := Aside0.mk (blk_drew BK260.out)
      have n6_ := Aside0.mk (blk_drew BK261.out)
      have n7_ := Aside0.mk (below_drew1 HB.out)
      clear HO4
      clear HO5
      clear HO269
      clear HO272
      clear HO275
      clear BK260
      clear BK261
      clear HB
      have HO4 := n0_
      have HO5 := n1_
      have HO269 := n2_
      have HO272 := n3_
      have HO275 := n4_
      have BK260 := n5_
      have BK261 := n6_
      have HB := n7_
      clear n0_ n1_ n2_ n3_ n4_ n5_ n6_ n7_
      have p276 : 0 ≤ ((ji21) : Int) := dA
      have q276 : (ji21) < (l4.length : Int) := dA
      obtain ⟨ad276, A276_0, c276_0, e276, hx276_0, hl276_0, hi276_0⟩ := at_L1 (Kd.V_reads' HO4.out).2.2 (ji21) p276 q276
      cases e276
      obtain ⟨ce276, hce276, hMe276, hcc276⟩ := Kd.V_get HO4.out [] (ji21) p276 (by first | exact q276 | exact dA | (have e_ := (Kd.V_reads' HO4.out).1; omega))
      obtain ⟨ua276_0, uc276_0, rfl, ul276_0, ge276_0⟩ := Kd.FK_slice_open hMe276
      have hv276_0 := hcc276 0 _ rfl
      rw [Nat.add_zero, show ((Kd.slice 5 (Kd.int .u8))).sz = 1 from rfl, Nat.mul_one] at hv276_0
      replace hv276_0 := Option.some.inj (hv276_0.symm.trans hx276_0)
      injection hv276_0 with hva_ hvn_ hvc_
      rw [hva_] at ge276_0
      rw [hvc_] at ul276_0
      have HL276_0 := Aside0.mk (show Kd.V (Kd.int .u8) 5 _ w.heap.size _ _ (rd_L1 l4 (ji21)) from Kd.V_mk ul276_0 ge276_0)
      clear hva_ hvn_ hvc_ ge276_0 ul276_0
      clear hcc276 hce276
      have HR276_0 := Aside0.mk hi276_0
      have HC276_0 := Aside0.mk hl276_0
      clear hi276_0 hl276_0
      replace p276 := eq_true p276
      replace q276 := eq_true q276
      obtain ⟨Ao36, co36, eo36⟩ := Kd.V_slice HO275.out
      (first | subst eo36 | (injection eo36 with f1_ f2_ f3_; have f4_ := f1_.symm; have f5_ := f3_.symm; clear f1_ f2_ f3_; subst f4_; subst f5_))
      refine start_ (n := 10) (S := fun w' => w'.cell? ⟨gb260, 0, none⟩ = some (.int .i64 a0_0) ∧ w'.cell? ⟨gb260, 1, none⟩ = some (.int .i64 a0_1) ∧ w'.cell? ⟨gb260, 2, none⟩ = some (.int .i64 a0_2) ∧ w'.cell? ⟨gb260, 3, none⟩ = some (.int .u64 a0_3) ∧ w'.cell? ⟨gb260, 4, none⟩ = some (.int .u64 a0_4) ∧ w'.cell? ⟨gb260, 5, none⟩ = some (.int .u64 a0_5) ∧ w'.cell? (ad276.add ((ji21)).toNat) = some (.slice A276_0 (rd_L1 l4 (ji21)).length c276_0)) (ds := []) #[false, false, false, false, false, false, false, false, false, false] (by kernel_rfl) rfl rfl ⟨(blk_cell BK260.out 0).trans rfl, (blk_cell BK260.out 1).trans rfl, (blk_cell BK260.out 2).trans rfl, (blk_cell BK260.out 3).trans rfl, (blk_cell BK260.out 4).trans rfl, (blk_cell BK260.out 5).trans rfl, hx276_0⟩ (fun hHeld => ?_); refine with_tabW spec_rootsIn.tab8 spec_rootsIn.bits8 (fun HT_ HW_ => ?_)
      generalize w34.drew = w35 at HO4 HO5 HO269 HO272 HO275 BK260 BK261 HB HL276_0 HR276_0 hx276_0 hHeld ⊢
      refine pure_ (i := 0) (N := some 59) (v := ?_) (a' := ?_) #[true, false, false, false, false, false, false, false, false, false] rfl rfl (any_of HT_.out (by kernel_rfl)) (fun _ _ _ h => h) (Or.inl ⟨by rfl, ?_⟩) ?_ ?_
      rotate_left
      ·intro w'
       go_simp
       with_reducible rfl
      rotate_left
      ·simp only [Act.put, List.setIfInBounds_toArray, List.set_cons_zero, List.set_cons_succ, i64_w, i32_w]
       rfl
      refine pure_ (i := 2) (N := some 61) (v := ?_) (a' := ?_) #[true, false, true, false, false, false, false, false, false, false] rfl rfl (any_of HT_.out (by kernel_rfl)) (fun _ _ _ h => h) (Or.inl ⟨by rfl, ?_⟩) ?_ ?_
      rotate_left
      ·intro w'
       go_simp
       with_reducible rfl
      rotate_left
      ·simp only [Act.put, List.setIfInBounds_toArray, List.set_cons_zero, List.set_cons_succ, i64_w, i32_w]
       rfl
      refine pure_ (i := 3) (N := some 62) (v := ?_) (a' := ?_) #[true, false, true, true, false, false, false, false, false, false] rfl rfl (any_of HT_.out (by kernel_rfl)) (fun _ _ _ h => h) (Or.inl ⟨by rfl, ?_⟩) ?_ ?_
      rotate_left
      ·intro w'
       go_simp
       with_reducible rfl
      rotate_left
      ·simp only [Act.put, List.setIfInBounds_toArray, List.set_cons_zero, List.set_cons_succ, i64_w, i32_w]
       rfl
      refine pure_ (i := 4) (N := some 63) (v := ?_) (a' := ?_) #[true, false, true, true, true, false, false, false, false, false] rfl rfl (any_of HT_.out (by kernel_rfl)) (fun _ _ _ h => h) (Or.inl ⟨by rfl, ?_⟩) ?_ ?_
      rotate_left
      ·intro w'
       go_simp
       with_reducible rfl
      rotate_left
      ·simp only [Act.put, List.setIfInBounds_toArray, List.set_cons_zero, List.set_cons_succ, i64_w, i32_w]
       rfl
      refine pure_ (i := 5) (N := some 64) (v := ?_) (a' := ?_) #[true, false, true, true, true, true, false, false, false, false] rfl rfl (any_of HT_.out (by kernel_rfl)) (fun _ _ _ h => h) (Or.inl ⟨by rfl, ?_⟩) ?_ ?_
      rotate_left
      ·intro w'
       go_simp
       with_reducible rfl
      rotate_left
      ·simp only [Act.put, List.setIfInBounds_toArray, List.set_cons_zero, List.set_cons_succ, i64_w, i32_w]
       rfl
      refine take_ (i := 1) (N := some 60) (v := ?_) (a' := ?_) #[true, true, true, true, true, true, false, false, false, false] rfl rfl (take_ofW HT_.out HW_.out (by kernel_rfl)) (fun _ _ _ h => h) (Or.inl ⟨by rfl, ?_⟩) hHeld ?_ ?_
      rotate_left
      ·rintro w' ⟨s0, s1, s2, s3, s4, s5, s6⟩
       go_simp
       with_reducible rfl
      rotate_left
      ·simp only [Act.put, List.setIfInBounds_toArray, List.set_cons_zero, List.set_cons_succ, i64_w, i32_w]
       rfl
      refine take_ (i := 6) (N := some 65) (v := ?_) (a' := ?_) #[true, true, true, true, true, true, true, false, false, false] rfl rfl (take_ofW HT_.out HW_.out (by kernel_rfl)) (fun _ _ _ h => h) (Or.inl ⟨by rfl, ?_⟩) hHeld ?_ ?_
      rotate_left
      ·rintro w' ⟨s0, s1, s2, s3, s4, s5, s6⟩
       go_simp
       with_reducible rfl
      rotate_left
      ·simp only [Act.put, List.setIfInBounds_toArray, List.set_cons_zero, List.set_cons_succ, i64_w, i32_w]
       rfl
      refine one_ (i := 7) (N := some 66) #[true, true, true, true, true, true, true, true, false, false] rfl rfl (one_of HT_.out (by kernel_rfl)) (by decide) (fun K hK => ?_)
      refine goes_ Tryd.func97 (by kernel_rfl) rfl #[.agg #[.int .i64 a0_0, .int .i64 a0_1, .int .i64 a0_2, .int .u64 a0_3, .int .u64 a0_4, .int .u64 a0_5], .slice Ao36 t273.length co36, .slice A276_0 (rd_L1 l4 (ji21)).length c276_0] (by rfl) rfl rfl (by (try simp only [List.map_toArray, List.map_cons, List.map_nil]); first | done | (simp only [hji21]; rfl) | rfl | (simp only [List.length_drop, List.length_take]; rfl)) ?_
      with_reducible refine (spec_HashChildren.calls k a0_0 a0_1 a0_2 a0_3 a0_4 a0_5 _ _ t273 _ _ (rd_L1 l4 (ji21)) t277 _ ?side1 ?side2 ?side3 ?side4 A26.out).mono ?_
      (case side1 => repeat (first | exact (Kd.V_reads' HO275.out).2.2 | (with_reducible refine Kd.C_alloc ?_ _) | (with_reducible refine Kd.C_drewN ?_ _) | (with_reducible refine Kd.C_drew ?_)))
      (case side2 => exact (Kd.V_reads' HO275.out).2.1)
      (case side3 => repeat (first | exact (by repeat (first | (with_reducible exact HR276_0.out) | (with_reducible refine Kd.C_alloc ?_ _) | (with_reducible refine Kd.C_drewN ?_ _) | (with_reducible refine Kd.C_drew ?_) | exact HR276_0.out)) | (with_reducible refine Kd.C_alloc ?_ _) | (with_reducible refine Kd.C_drewN ?_ _) | (with_reducible refine Kd.C_drew ?_)))
      (case side4 => exact HC276_0.out)
      rintro e w37 ⟨v278, rfl, ho0, hb⟩
      have HS6_ := (hb.cell (World.block_lt_of_cell? _ _ (hHeld.2.2.2.2.2.2))).trans (hHeld.2.2.2.2.2.2)
      refine ⟨_, rfl, ?_⟩
      have n0_ := Aside0.mk (Kd.V_elder' (kV HO4.out) (Kd.R_base ho0) hb)
      have n1_ := Aside0.mk (Kd.V_elder' (kV HO5.out) (Kd.R_base ho0) hb)
      have n2_ := Aside0.mk (Kd.V_elder' (kV HO269.out) (Kd.R_base ho0) hb)
      have n3_ := Aside0.mk (Kd.V_elder' (kV HO272.out) (Kd.R_base ho0) hb)
      have n4_ := Aside0.mk (Kd.V_elder' (kV HO275.out) (Kd.R_base ho0) hb)
      have n5_ := Aside0.mk (Kd.V_elder' (kV HL276_0.out) (Kd.R_base ho0) hb)
      have n6_ := Aside0.mk (Kd.R_lower (Kd.R_newM (M := fun k_ => (w.heap.size ≤ k_)) ho0 (below_size bB) (fun k_ h_ => h_)) (below_size bB))
      have n7_ := Aside0.mk (blk_below (g := gb260) (o := .cells #[.int .i64 a0_0, .int .i64 a0_1, .int .i64 a0_2, .int .u64 a0_3, .int .u64 a0_4, .int .u64 a0_5] 24 (0, 0)) (kB BK260.out) hb)
      have n8_ := Aside0.mk (blk_below (g := gb261) (o := .cells #[.int .u64 a2_0, .int .u64 a2_1] 57 (0, 0)) (kB BK261.out) hb)
      have n9_ := Aside0.mk (Kd.C_below (by repeat (first | (with_reducible exact HR276_0.out) | (with_reducible refine Kd.C_alloc ?_ _) | (with_reducible refine Kd.C_drewN ?_ _) | (with_reducible refine Kd.C_drew ?_) | exact HR276_0.out)) hb)
      have n10_ := Aside0.mk (below_step bB hb)
      clear HO4
      clear HO5
      clear HO269
      clear HO272
      clear HO275
      clear HL276_0
      clear BK260
      clear BK261
      clear HR276_0
      clear HB
      have HO4 := n0_
      have HO5 := n1_
      have HO269 := n2_
      have HO272 := n3_
      have HO275 := n4_
      have HL276_0 := n5_
      have HO279 := n6_
      have BK260 := n7_
      have BK261 := n8_
      have HR276_0 := n9_
      have HB := n10_
      clear n0_ n1_ n2_ n3_ n4_ n5_ n6_ n7_ n8_ n9_ n10_
      (try clear hb)
      (try clear hb2)
      (try clear hk)
      (try clear hi)
      (try clear ho0)
      refine hK.out _ _ ⟨(blk_cell BK260.out 0).trans rfl, (blk_cell BK260.out 1).trans rfl, (blk_cell BK260.out 2).trans rfl, (blk_cell BK260.out 3).trans rfl, (blk_cell BK260.out 4).trans rfl, (blk_cell BK260.out 5).trans rfl, HS6_⟩ (fun hHeld => ?_)
      clear hK K
      refine norm_ (a' := ?_) ?_ ?_
      rotate_left
      ·show Act.put _ (some 66) _ = _
       simp only [Act.put, List.setIfInBounds_toArray, List.set_cons_zero, List.set_cons_succ, i64_w, i32_w]
       rfl
      refine pure_ (i := 8) (N := some 12) (v := ?_) (a' := ?_) #[true, true, true, true, true, true, true, true, true, false] rfl rfl (any_of HT_.out (by kernel_rfl)) (fun _ _ _ h => h) (Or.inl ⟨by rfl, ?_⟩) ?_ ?_
      rotate_left
      ·intro w'
       go_simp
       with_reducible rfl
      rotate_left
      ·simp only [Act.put, List.setIfInBounds_toArray, List.set_cons_zero, List.set_cons_succ, i64_w, i32_w]
       rfl
      refine pure_ (i := 9) (N := some 13) (v := ?_) (a' := ?_) #[true, true, true, true, true, true, true, true, true, true] rfl rfl (any_of HT_.out (by kernel_rfl)) (fun _ _ _ h => h) (Or.inl ⟨by rfl, ?_⟩) ?_ ?_
      rotate_left
      ·intro w'
       go_simp
       with_reducible rfl
      rotate_left
      ·simp only [Act.put, List.setIfInBounds_toArray, List.set_cons_zero, List.set_cons_succ, i64_w, i32_w]
       rfl
      refine done_ (done_of HT_.out (by kernel_rfl)) ?_
      try go_wp2
      go_ret2
      exact ⟨_, _, by first | rfl | (simp [errW_none, errW_some] <;> rfl) | (simp only [← hji21]; first | rfl | (simp [errW_none, errW_some] <;> rfl)) | (simp [*, errW_none, errW_some] <;> rfl), by (with_reducible repeat (first | apply Kd.V_alloc | apply Kd.V_drewN | apply Kd.V_drew)); exact Kd.V_mono HO272.out (fun _ hk => hk.1.1), Kd.V_mono (Kd.R_V (by (with_reducible repeat (first | apply Kd.R_alloc | apply Kd.R_drewN | apply Kd.R_drew)); exact Kd.R_mono HO279.out (fun _ hk => hk.1))) (fun k_ hk => by first | exact ⟨(.inr (hk.1)), hk.2⟩ | exact (.inr (hk))), bB⟩
     ·rw [if_neg c25] at H
      exact absurd H (by simp)
    ·rw [if_neg c23] at H
     exact absurd H (by simp)
   ·rw [if_neg c22] at H
    exact absurd H (by simp)
  ·rw [if_neg c20] at H
   have c20b0 : decide (a1 ≤ (IntKind.u64.wrap (a2_0 + t264))) = false := decide_eq_false c20
   clear c20
   obtain ⟨ji38, hji38⟩ : ∃ j_ : Int, (wrap64 ((l4.length : Int) - 1)) = j_ := ⟨_, rfl⟩
   replace H : (if 0 ≤ (ji38) then (if (ji38) ≤ (l4.length : Int) then ((spec_rootsIn.f k a0_0 a0_1 a0_2 a0_3 a0_4 a0_5 a1 (IntKind.u64.wrap (a2_0 + t264)) a2_1 false (l4.take ((ji38) : Int).toNat) l5).bind fun bt285 => (if (ji38) < (l4.length : Int) then ((spec_HashChildren.f k a0_0 a0_1 a0_2 a0_3 a0_4 a0_5 (rd_L1 l4 (ji38)) bt285.1).bind fun t292 => ((spec_HashChildren.f k a0_0 a0_1 a0_2 a0_3 a0_4 a0_5 (rd_L1 l4 (ji38)) bt285.2).bind fun t296 => (some (t292, t296)))) else (none))) else (none)) else (none)) = some (r1, r2) := by first | (rw [hji38] at H; exact H) | (simp only [hji38] at H ⊢; exact H)
   (try rw [hji38] at A19)
   have hji38w : (IntKind.i64.wrap ((l4.length : Int) - 1)) = ji38 := (i64_w _).trans hji38
   by_cases c39 : 0 ≤ (ji38)
   ·rw [if_pos c39] at H
    have c39b0 := eq_true c39
    have c39b1 : decide (0 ≤ (ji38)) = true := decide_eq_true c39
    clear c39
    by_cases c40 : (ji38) ≤ (l4.length : Int)
    ·rw [if_pos c40] at H
     have c40b0 := eq_true c40
     have c40b1 : decide ((ji38) ≤ (l4.length : Int)) = true := decide_eq_true c40
     clear c40
     obtain ⟨y280, hy280⟩ : ∃ y_ : List (List Int), y_ = (l4.take ((ji38) : Int).toNat) := ⟨_, rfl⟩
     replace H : ((spec_rootsIn.f k a0_0 a0_1 a0_2 a0_3 a0_4 a0_5 a1 (IntKind.u64.wrap (a2_0 + t264)) a2_1 false y280 l5).bind fun bt285 => (if (ji38) < (l4.length : Int) then ((spec_HashChildren.f k a0_0 a0_1 a0_2 a0_3 a0_4 a0_5 (rd_L1 l4 (ji38)) bt285.1).bind fun t292 => ((spec_HashChildren.f k a0_0 a0_1 a0_2 a0_3 a0_4 a0_5 (rd_L1 l4 (ji38)) bt285.2).bind fun t296 => (some (t292, t296)))) else (none))) = some (r1, r2) := by first | (rw [hy280]; with_reducible exact H) | (have H2_ := (Option.bind_some _ _).symm.trans H; rw [hy280]; with_reducible exact H2_) | (have H2_ := (Option.bind_some _ _).symm.trans H; with_reducible exact H2_) | with_reducible exact H | (rw [hy280]; exact H) | exact H
     have Ny280 := Aside0.mk hy280
     clear hy280
     replace H := Option.bind_eq_some_iff.mp H
     obtain ⟨⟨t285, t288⟩, A410, H⟩ := H
     replace H : (if (ji38) < (l4.length : Int) then ((spec_HashChildren.f k a0_0 a0_1 a0_2 a0_3 a0_4 a0_5 (rd_L1 l4 (ji38)) t285).bind fun t292 => ((spec_HashChildren.f k a0_0 a0_1 a0_2 a0_3 a0_4 a0_5 (rd_L1 l4 (ji38)) t288).bind fun t296 => (some (t292, t296)))) else (none)) = some (r1, r2) := H
     have A41 := Aside0.mk A410
     clear A410
     by_cases c42 : (ji38) < (l4.length : Int)
     ·rw [if_pos c42] at H
      have c42b0 : decide ((ji38) < (l4.length : Int)) = true := decide_eq_true c42
      clear c42
      replace H := Option.bind_eq_some_iff.mp H
      obtain ⟨t292, A430, H⟩ := H
      replace H : ((spec_HashChildren.f k a0_0 a0_1 a0_2 a0_3 a0_4 a0_5 (rd_L1 l4 (ji38)) t288).bind fun t296 => (some (t292, t296))) = some (r1, r2) := H
      have A43 := Aside0.mk A430
      clear A430
      replace H := Option.bind_eq_some_iff.mp H
      obtain ⟨t296, A440, H⟩ := H
      replace H : (some (t292, t296)) = some (r1, r2) := H
      have A44 := Aside0.mk A440
      clear A440
      simp only [Option.some.injEq, Prod.mk.injEq] at H
      obtain ⟨rfl, rfl⟩ := H
      go_enter Tryd.func88, Tryd.ntmps88
      try go_wp2_with (first | ((with_reducible refine gate_dst (N := 6) rfl ?_); refine box_event ?hg (N := 6) ?hd (cs := #[.int .i64 a0_0, .int .i64 a0_1, .int .i64 a0_2, .int .u64 a0_3, .int .u64 a0_4, .int .u64 a0_5]) (t := 24) ?hr ?_; (case hd => rfl); (case hg => rfl); (case hr => first | (go_simp; done) | (go_simp; rfl)); intro gb260 hg w45 hbox hb; have n0_ := Aside0.mk (Kd.V_below (Kd.V_elderB (kV HO4.out) gb260 (Nat.le_of_eq hg.symm)) hb); have n1_ := Aside0.mk (Kd.V_below (Kd.V_elderB (kV HO5.out) gb260 (Nat.le_of_eq hg.symm)) hb); have n2_ := Aside0.mk (below_step bB hb); have n3_ := Aside0.mk (hbox); have n4_ := Aside0.mk ((by rw [hg]; exact (below_size bB) : w.heap.size ≤ gb260)); have n5_ := Aside0.mk ((by rw [hg]; exact (below_size bB) : w.heap.size ≤ gb260)); clear HO4; clear HO5; clear HB; have HO4 := n0_; have HO5 := n1_; have HB := n2_; have BK260 := n3_; have GW260 := n4_; have GE260 := n5_; clear n0_ n1_ n2_ n3_ n4_ n5_; clear hb hbox hg) | ((with_reducible refine gate_dst (N := 8) rfl ?_); refine box_event ?hg (N := 8) ?hd (cs := #[.int .u64 a2_0, .int .u64 a2_1]) (t := 57) ?hr ?_; (case hd => rfl); (case hg => rfl); (case hr => first | (go_simp; done) | (go_simp; rfl)); intro gb261 hg w46 hbox hb; have n0_ := Aside0.mk (Kd.V_below (Kd.V_elderB (kV HO4.out) gb261 (Nat.le_of_eq hg.symm)) hb); have n1_ := Aside0.mk (Kd.V_below (Kd.V_elderB (kV HO5.out) gb261 (Nat.le_of_eq hg.symm)) hb); have n2_ := Aside0.mk (blk_below (g := gb260) (o := .cells #[.int .i64 a0_0, .int .i64 a0_1, .int .i64 a0_2, .int .u64 a0_3, .int .u64 a0_4, .int .u64 a0_5] 24 (0, 0)) (kB BK260.out) hb); have n3_ := Aside0.mk (below_step bB hb); have n4_ := Aside0.mk (hbox); have n5_ := Aside0.mk ((by rw [hg]; exact (below_size bB) : w.heap.size ≤ gb261)); have n6_ := Aside0.mk ((by rw [hg]; exact (below_size bB) : w.heap.size ≤ gb261)); have n7_ := Aside0.mk ((by rw [hg]; exact Nat.ne_of_lt (blk_lt (g := gb260) (o := .cells #[.int .i64 a0_0, .int .i64 a0_1, .int .i64 a0_2, .int .u64 a0_3, .int .u64 a0_4, .int .u64 a0_5] 24 (0, 0)) (kB BK260.out)) : gb260 ≠ gb261)); have n8_ := Aside0.mk ((by rw [hg]; exact Nat.ne_of_gt (blk_lt (g := gb260) (o := .cells #[.int .i64 a0_0, .int .i64 a0_1, .int .i64 a0_2, .int .u64 a0_3, .int .u64 a0_4, .int .u64 a0_5] 24 (0, 0)) (kB BK260.out)) : gb261 ≠ gb260)); clear HO4; clear HO5; clear BK260; clear HB; have HO4 := n0_; have HO5 := n1_; have BK260 := n2_; have HB := n3_; have BK261 := n4_; have GW261 := n5_; have GE261 := n6_; have NB260_261 := n7_; have NB261_260 := n8_; clear n0_ n1_ n2_ n3_ n4_ n5_ n6_ n7_ n8_; clear hb hbox hg; have hnb47 := NB261_260.out; have hnc47 := NB260_261.out; have hcz48_0 : w46.cell? ⟨gb261, 0, none⟩ = some (.int .u64 a2_0) := (blk_cell BK261.out 0).trans rfl; have hcz48_1 : w46.cell? ⟨gb261, 1, none⟩ = some (.int .u64 a2_1) := (blk_cell BK261.out 1).trans rfl; have hfz48_0 := blk_frozen BK261.out 0; have hfz48_1 := blk_frozen BK261.out 1))
      have n0_ := Aside0.mk (Kd.V_drew HO4.out)
      have n1_ := Aside0.mk (Kd.V_drew HO5.out)
      have n2_ := Aside0.mk (blk_drew BK260.out)
      have n3_ := Aside0.mk (blk_drew BK261.out)
      have n4_ := Aside0.mk (below_drew1 HB.out)
      clear HO4
      clear HO5
      clear BK260
      clear BK261
      clear HB
      have HO4 := n0_
      have HO5 := n1_
      have BK260 := n2_
      have BK261 := n3_
      have HB := n4_
      clear n0_ n1_ n2_ n3_ n4_
      refine start_ (n := 14) (S := fun w' => w'.cell? ⟨gb261, 0, none⟩ = some (.int .u64 a2_0) ∧ w'.cell? ⟨gb261, 1, none⟩ = some (.int .u64 a2_1)) (ds := []) #[false, false, false, false, false, false, false, false, false, false, false, false, false, false] (by kernel_rfl) rfl rfl ⟨(blk_cell BK261.out 0).trans rfl, (blk_cell BK261.out 1).trans rfl⟩ (fun hHeld => ?_); refine with_tabW spec_rootsIn.tab5 spec_rootsIn.bits5 (fun HT_ HW_ => ?_)
      generalize w46.drew = w49 at HO4 HO5 BK260 BK261 HB hHeld ⊢
      refine pure_ (i := 0) (N := some 29) (v := ?_) (a' := ?_) #[true, false, false, false, false, false, false, false, false, false, false, false, false, false] rfl rfl (any_of HT_.out (by kernel_rfl)) (fun _ _ _ h => h) (Or.inl ⟨by rfl, ?_⟩) ?_ ?_
      rotate_left
      ·intro w'
       go_simp
       with_reducible rfl
      rotate_left
      ·simp only [Act.put, List.setIfInBounds_toArray, List.set_cons_zero, List.set_cons_succ, i64_w, i32_w]
       rfl
      refine pure_ (i := 2) (N := some 31) (v := ?_) (a' := ?_) #[true, false, true, false, false, false, false, false, false, false, false, false, false, false] rfl rfl (any_of HT_.out (by kernel_rfl)) (fun _ _ _ h => h) (Or.inl ⟨by rfl, ?_⟩) ?_ ?_
      rotate_left
      ·intro w'
       go_simp
       with_reducible rfl
      rotate_left
      ·simp only [Act.put, List.setIfInBounds_toArray, List.set_cons_zero, List.set_cons_succ, i64_w, i32_w]
       rfl
      refine pure_ (i := 4) (N := some 33) (v := ?_) (a' := ?_) #[true, false, true, false, true, false, false, false, false, false, false, false, false, false] rfl rfl (any_of HT_.out (by kernel_rfl)) (fun _ _ _ h => h) (Or.inl ⟨by rfl, ?_⟩) ?_ ?_
      rotate_left
      ·intro w'
       go_simp
       with_reducible rfl
      rotate_left
      ·simp only [Act.put, List.setIfInBounds_toArray, List.set_cons_zero, List.set_cons_succ, i64_w, i32_w]
       rfl
      refine pure_ (i := 9) (N := some 38) (v := ?_) (a' := ?_) #[true, false, true, false, true, false, false, false, false, true, false, false, false, false] rfl rfl (any_of HT_.out (by kernel_rfl)) (fun _ _ _ h => h) (Or.inl ⟨by rfl, ?_⟩) ?_ ?_
      rotate_left
      ·intro w'
       go_simp
       with_reducible rfl
      rotate_left
      ·simp only [Act.put, List.setIfInBounds_toArray, List.set_cons_zero, List.set_cons_succ, i64_w, i32_w]
       rfl
      refine pure_ (i := 10) (N := some 39) (v := ?_) (a' := ?_) #[true, false, true, false, true, false, false, false, false, true, true, false, false, false] rfl rfl (any_of HT_.out (by kernel_rfl)) (fun _ _ _ h => h) (Or.inl ⟨by rfl, ?_⟩) ?_ ?_
      rotate_left
      ·intro w'
       go_simp
       with_reducible rfl
      rotate_left
      ·simp only [Act.put, List.setIfInBounds_toArray, List.set_cons_zero, List.set_cons_succ, i64_w, i32_w]
       rfl
      refine pure_ (i := 11) (N := some 40) (v := ?_) (a' := ?_) #[true, false, true, false, true, false, false, false, false, true, true, true, false, false] rfl rfl (any_of HT_.out (by kernel_rfl)) (fun _ _ _ h => h) (Or.inl ⟨by rfl, ?_⟩) ?_ ?_
      rotate_left
      ·intro w'
       go_simp
       with_reducible rfl
      rotate_left
      ·simp only [Act.put, List.setIfInBounds_toArray, List.set_cons_zero, List.set_cons_succ, i64_w, i32_w]
       rfl
      refine take_ (i := 1) (N := some 30) (v := ?_) (a' := ?_) #[true, true, true, false, true, false, false, false, false, true, true, true, false, false] rfl rfl (take_ofW HT_.out HW_.out (by kernel_rfl)) (fun _ _ _ h => h) (Or.inl ⟨by rfl, ?_⟩) hHeld ?_ ?_
      rotate_left
      ·rintro w' ⟨s0, s1⟩
       go_simp
       with_reducible rfl
      rotate_left
      ·simp only [Act.put, List.setIfInBounds_toArray, List.set_cons_zero, List.set_cons_succ, i64_w, i32_w]
       rfl
      refine take_ (i := 3) (N := some 32) (v := ?_) (a' := ?_) #[true, true, true, true, true, false, false, false, false, true, true, true, false, false] rfl rfl (take_ofW HT_.out HW_.out (by kernel_rfl)) (fun _ _ _ h => h) (Or.inl ⟨by rfl, ?_⟩) hHeld ?_ ?_
      rotate_left
      ·rintro w' ⟨s0, s1⟩
       go_simp
       with_reducible rfl
      rotate_left
      ·simp only [Act.put, List.setIfInBounds_toArray, List.set_cons_zero, List.set_cons_succ, i64_w, i32_w]
       rfl
      refine take_ (i := 5) (N := some 34) (v := ?_) (a' := ?_) #[true, true, true, true, true, true, false, false, false, true, true, true, false, false] rfl rfl (take_ofW HT_.out HW_.out (by kernel_rfl)) (fun _ _ _ h => h) (Or.inl ⟨by rfl, ?_⟩) hHeld ?_ ?_
      rotate_left
      ·rintro w' ⟨s0, s1⟩
       go_simp
       with_reducible rfl
      rotate_left
      ·simp only [Act.put, List.setIfInBounds_toArray, List.set_cons_zero, List.set_cons_succ, i64_w, i32_w]
       rfl
      refine pure_ (i := 6) (N := some 35) (v := ?_) (a' := ?_) #[true, true, true, true, true, true, true, false, false, true, true, true, false, false] rfl rfl (any_of HT_.out (by kernel_rfl)) (fun _ _ _ h => h) (Or.inl ⟨by rfl, ?_⟩) ?_ ?_
      rotate_left
      ·intro w'
       go_simp
       with_reducible rfl
      rotate_left
      ·simp only [Act.put, List.setIfInBounds_toArray, List.set_cons_zero, List.set_cons_succ, i64_w, i32_w]
       rfl
      refine one_ (i := 7) (N := some 36) #[true, true, true, true, true, true, true, true, false, true, true, true, false, false] rfl rfl (one_of HT_.out (by kernel_rfl)) (by decide) (fun K hK => ?_)
      refine goes_ Tryd.func99 (by kernel_rfl) rfl #[.int .u64 (IntKind.u64.wrap (a2_1 - a2_0))] (by rfl) rfl rfl aV ?_
      with_reducible refine (spec_split.calls k (IntKind.u64.wrap (a2_1 - a2_0)) t264 _ A19.out).mono ?_
      rintro e w' ⟨rfl, ⟨nd, rfl⟩⟩
      refine ⟨_, rfl, ?_⟩
      refine hK.out _ _ ⟨(blk_cell BK261.out 0).trans rfl, (blk_cell BK261.out 1).trans rfl⟩ (fun hHeld => ?_)
      clear hK K
      refine norm_ (a' := ?_) ?_ ?_
      rotate_left
      ·show Act.put _ (some 36) _ = _
       simp only [Act.put, List.setIfInBounds_toArray, List.set_cons_zero, List.set_cons_succ, i64_w, i32_w]
       rfl
      refine pure_ (i := 8) (N := some 37) (v := ?_) (a' := ?_) #[true, true, true, true, true, true, true, true, true, true, true, true, false, false] rfl rfl (any_of HT_.out (by kernel_rfl)) (fun _ _ _ h => h) (Or.inl ⟨by rfl, ?_⟩) ?_ ?_
      rotate_left
      ·intro w'
       go_simp
       with_reducible rfl
      rotate_left
      ·simp only [Act.put, List.setIfInBounds_toArray, List.set_cons_zero, List.set_cons_succ, i64_w, i32_w]
       rfl
      refine pure_ (i := 12) (N := some 14) (v := ?_) (a' := ?_) #[true, true, true, true, true, true, true, true, true, true, true, true, true, false] rfl rfl (any_of HT_.out (by kernel_rfl)) (fun _ _ _ h => h) (Or.inl ⟨by rfl, ?_⟩) ?_ ?_
      rotate_left
      ·intro w'
       go_simp
       with_reducible rfl
      rotate_left
      ·simp only [Act.put, List.setIfInBounds_toArray, List.set_cons_zero, List.set_cons_succ, i64_w, i32_w]
       rfl
      refine pure_ (i := 13) (N := some 15) (v := ?_) (a' := ?_) #[true, true, true, true, true, true, true, true, true, true, true, true, true, true] rfl rfl (any_of HT_.out (by kernel_rfl)) (fun _ _ _ h => h) (Or.inl ⟨by rfl, ?_⟩) ?_ ?_
      rotate_left
      ·intro w'
       go_simp
       with_reducible rfl
      rotate_left
      ·simp only [Act.put, List.setIfInBounds_toArray, List.set_cons_zero, List.set_cons_succ, i64_w, i32_w]
       rfl
      refine done_ (done_of HT_.out (by kernel_rfl)) ?_
      try go_wp2
      (try (rw [drewN_self w49]; generalize hq_ : World.drewN w49 _ = w49; have n0_ : Aside0 (Kd.V (Kd.slice 5 (Kd.int .u8)) 27 w49 w.heap.size (fun k_ => ((P4_ k_ ∨ P5_ k_) ∨ w.heap.size ≤ k_) ∧ k_ ≠ gb260 ∧ k_ ≠ gb261) (.slice A4 l4.length c4) l4) := ⟨by rw [← hq_]; exact (by (with_reducible repeat (first | apply Kd.V_alloc | apply Kd.V_drewN | apply Kd.V_drew)); exact Kd.V_mono HO4.out (fun _ hk => ⟨hk.1.1, ⟨hk.1.2, hk.2⟩⟩))⟩; have n1_ : Aside0 (Kd.V (Kd.int .u8) 5 w49 w.heap.size (fun k_ => ((P4_ k_ ∨ P5_ k_) ∨ w.heap.size ≤ k_) ∧ k_ ≠ gb260 ∧ k_ ≠ gb261) (.slice A5 l5.length c5) l5) := ⟨by rw [← hq_]; exact (by (with_reducible repeat (first | apply Kd.V_alloc | apply Kd.V_drewN | apply Kd.V_drew)); exact Kd.V_mono HO5.out (fun _ hk => ⟨hk.1.1, ⟨hk.1.2, hk.2⟩⟩))⟩; have n2_ : Aside0 (w49.heap[gb260]? = some (.cells #[.int .i64 a0_0, .int .i64 a0_1, .int .i64 a0_2, .int .u64 a0_3, .int .u64 a0_4, .int .u64 a0_5] 24 (0, 0))) := ⟨by rw [← hq_]; exact (kB BK260.out)⟩; have n3_ : Aside0 (w49.heap[gb261]? = some (.cells #[.int .u64 a2_0, .int .u64 a2_1] 57 (0, 0))) := ⟨by rw [← hq_]; exact (kB BK261.out)⟩; have n4_ : Aside0 (Below w.heap.size w w49) := ⟨by rw [← hq_]; exact bB⟩; clear HO4 HO5 BK260 BK261 HB hq_; have HO4 := n0_; have HO5 := n1_; have BK260 := n2_; have BK261 := n3_; have HB := n4_; clear n0_ n1_ n2_ n3_ n4_))
      have n0_ := Aside0.mk (Kd.V_drew HO4.out)
      have n1_ := Aside0.mk (Kd.V_drew HO5.out)
      have n2_ := Aside0.mk (blk_drew BK260.out)
      have n3_ := Aside0.mk (blk_drew BK261.out)
      have n4_ := Aside0.mk (below_drew1 HB.out)
      clear HO4
      clear HO5
      clear BK260
      clear BK261
      clear HB
      have HO4 := n0_
      have HO5 := n1_
      have BK260 := n2_
      have BK261 := n3_
      have HB := n4_
      clear n0_ n1_ n2_ n3_ n4_
      have q51 : ((ji38) : Int) ≤ ((l4.length : Int) : Int) := dA
      obtain ⟨i051, hi051, _, hsz51, _⟩ := info_parts info27
      have hroom51 : l4.length ≤ c4 := (Kd.V_reads' HO4.out).2.1
      have hC51 : Kd.F (Kd.slice 5 (Kd.int .u8)) _ _ A4 l4.length l4 := (Kd.V_at (base := w.heap.size) HO4.out).2.2
      have hcut51 := cut_to (P := Tryd.prog) 25 27 .i64 Tryd.underlying25 hi051 A4 l4.length c4 (ji38) dA q51 hroom51
      have hr51 := Kd.F_take (m := ((ji38) : Int).toNat) hC51 (by omega)
      have hy51 : y280.length = ((ji38) : Int).toNat := (by rw [Ny280.out, List.length_take]; omega)
      rw [← Ny280.out] at hr51
      rw [← hy51] at hcut51
      have HO284 := Aside0.mk (show Kd.V (Kd.slice 5 (Kd.int .u8)) 27 _ w.heap.size _ (.slice A4 y280.length c4) y280 from Kd.V_mk (by omega) hr51)
      have HC284 := Aside0.mk (show y280.length ≤ c4 from by omega)
      clear hr51 hC51 hroom51 hi051 hsz51
      have KY51 := Aside0.mk hy51
      clear hy51
      replace q51 := eq_true q51
      refine start_ (n := 16) (S := fun w' => w'.cell? ⟨gb260, 0, none⟩ = some (.int .i64 a0_0) ∧ w'.cell? ⟨gb260, 1, none⟩ = some (.int .i64 a0_1) ∧ w'.cell? ⟨gb260, 2, none⟩ = some (.int .i64 a0_2) ∧ w'.cell? ⟨gb260, 3, none⟩ = some (.int .u64 a0_3) ∧ w'.cell? ⟨gb260, 4, none⟩ = some (.int .u64 a0_4) ∧ w'.cell? ⟨gb260, 5, none⟩ = some (.int .u64 a0_5) ∧ w'.cell? ⟨gb261, 0, none⟩ = some (.int .u64 a2_0) ∧ w'.cell? ⟨gb261, 1, none⟩ = some (.int .u64 a2_1)) (ds := []) #[false, false, false, false, false, false, false, false, false, false, false, false, false, false, false, false] (by kernel_rfl) rfl rfl ⟨(blk_cell BK260.out 0).trans rfl, (blk_cell BK260.out 1).trans rfl, (blk_cell BK260.out 2).trans rfl, (blk_cell BK260.out 3).trans rfl, (blk_cell BK260.out 4).trans rfl, (blk_cell BK260.out 5).trans rfl, (blk_cell BK261.out 0).trans rfl, (blk_cell BK261.out 1).trans rfl⟩ (fun hHeld => ?_); refine with_tabW spec_rootsIn.tab9 spec_rootsIn.bits9 (fun HT_ HW_ => ?_)
      generalize w49.drew = w50 at HO4 HO5 BK260 BK261 HB HO284 hHeld ⊢
      refine pure_ (i := 1) (N := some 69) (v := ?_) (a' := ?_) #[false, true, false, false, false, false, false, false, false, false, false, false, false, false, false, false] rfl rfl (any_of HT_.out (by kernel_rfl)) (fun _ _ _ h => h) (Or.inl ⟨by rfl, ?_⟩) ?_ ?_
      rotate_left
      ·intro w'
       go_simp
       with_reducible rfl
      rotate_left
      ·simp only [Act.put, List.setIfInBounds_toArray, List.set_cons_zero, List.set_cons_succ, i64_w, i32_w]
       rfl
      refine pure_ (i := 2) (N := some 70) (v := ?_) (a' := ?_) #[false, true, true, false, false, false, false, false, false, false, false, false, false, false, false, false] rfl rfl (any_of HT_.out (by kernel_rfl)) (fun _ _ _ h => h) (Or.inl ⟨by rfl, ?_⟩) ?_ ?_
      rotate_left
      ·intro w'
       go_simp
       with_reducible rfl
      rotate_left
      ·simp only [Act.put, List.setIfInBounds_toArray, List.set_cons_zero, List.set_cons_succ, i64_w, i32_w]
       rfl
      refine pure_ (i := 3) (N := some 71) (v := ?_) (a' := ?_) #[false, true, true, true, false, false, false, false, false, false, false, false, false, false, false, false] rfl rfl (any_of HT_.out (by kernel_rfl)) (fun _ _ _ h => h) (Or.inl ⟨by rfl, ?_⟩) ?_ ?_
      rotate_left
      ·intro w'
       go_simp
       with_reducible rfl
      rotate_left
      ·simp only [Act.put, List.setIfInBounds_toArray, List.set_cons_zero, List.set_cons_succ, i64_w, i32_w]
       rfl
      refine pure_ (i := 6) (N := some 74) (v := ?_) (a' := ?_) #[false, true, true, true, false, false, true, false, false, false, false, false, false, false, false, false] rfl rfl (any_of HT_.out (by kernel_rfl)) (fun _ _ _ h => h) (Or.inl ⟨by rfl, ?_⟩) ?_ ?_
      rotate_left
      ·intro w'
       go_simp
       with_reducible rfl
      rotate_left
      ·simp only [Act.put, List.setIfInBounds_toArray, List.set_cons_zero, List.set_cons_succ, i64_w, i32_w]
       rfl
      refine pure_ (i := 7) (N := some 75) (v := ?_) (a' := ?_) #[false, true, true, true, false, false, true, true, false, false, false, false, false, false, false, false] rfl rfl (any_of HT_.out (by kernel_rfl)) (fun _ _ _ h => h) (Or.inl ⟨by rfl, ?_⟩) ?_ ?_
      rotate_left
      ·intro w'
       go_simp
       with_reducible rfl
      rotate_left
      ·simp only [Act.put, List.setIfInBounds_toArray, List.set_cons_zero, List.set_cons_succ, i64_w, i32_w]
       rfl
      refine pure_ (i := 8) (N := some 76) (v := ?_) (a' := ?_) #[false, true, true, true, false, false, true, true, true, false, false, false, false, false, false, false] rfl rfl (any_of HT_.out (by kernel_rfl)) (fun _ _ _ h => h) (Or.inl ⟨by rfl, ?_⟩) ?_ ?_
      rotate_left
      ·intro w'
       go_simp
       with_reducible rfl
      rotate_left
      ·simp only [Act.put, List.setIfInBounds_toArray, List.set_cons_zero, List.set_cons_succ, i64_w, i32_w]
       rfl
      refine pure_ (i := 9) (N := some 77) (v := ?_) (a' := ?_) #[false, true, true, true, false, false, true, true, true, true, false, false, false, false, false, false] rfl rfl (any_of HT_.out (by kernel_rfl)) (fun _ _ _ h => h) (Or.inl ⟨by rfl, ?_⟩) ?_ ?_
      rotate_left
      ·intro w'
       go_simp
       with_reducible rfl
      rotate_left
      ·simp only [Act.put, List.setIfInBounds_toArray, List.set_cons_zero, List.set_cons_succ, i64_w, i32_w]
       rfl
      refine take_ (i := 0) (N := some 68) (v := ?_) (a' := ?_) #[true, true, true, true, false, false, true, true, true, true, false, false, false, false, false, false] rfl rfl (take_ofW HT_.out HW_.out (by kernel_rfl)) (fun _ _ _ h => h) (Or.inl ⟨by rfl, ?_⟩) hHeld ?_ ?_
      rotate_left
      ·rintro w' ⟨s0, s1, s2, s3, s4, s5, s6, s7⟩
       go_simp
       with_reducible rfl
      rotate_left
      ·simp only [Act.put, List.setIfInBounds_toArray, List.set_cons_zero, List.set_cons_succ, i64_w, i32_w]
       rfl
      refine take_ (i := 4) (N := some 72) (v := ?_) (a' := ?_) #[true, true, true, true, true, false, true, true, true, true, false, false, false, false, false, false] rfl rfl (take_ofW HT_.out HW_.out (by kernel_rfl)) (fun _ _ _ h => h) (Or.inl ⟨by rfl, ?_⟩) hHeld ?_ ?_
      rotate_left
      ·rintro w' ⟨s0, s1, s2, s3, s4, s5, s6, s7⟩
       go_simp
       with_reducible rfl
      rotate_left
      ·simp only [Act.put, List.setIfInBounds_toArray, List.set_cons_zero, List.set_cons_succ, i64_w, i32_w]
       rfl
      refine pure_ (i := 5) (N := some 73) (v := ?_) (a' := ?_) #[true, true, true, true, true, true, true, true, true, true, false, false, false, false, false, false] rfl rfl (any_of HT_.out (by kernel_rfl)) (fun _ _ _ h => h) (Or.inl ⟨by rfl, ?_⟩) ?_ ?_
      rotate_left
      ·intro w'
       go_simp
       with_reducible rfl
      rotate_left
      ·simp only [Act.put, List.setIfInBounds_toArray, List.set_cons_zero, List.set_cons_succ, i64_w, i32_w]
       rfl
      refine one_ (i := 10) (N := some 78) #[true, true, true, true, true, true, true, true, true, true, true, false, false, false, false, false] rfl rfl (one_of HT_.out (by kernel_rfl)) (by decide) (fun K hK => ?_)
      refine goes_ Tryd.func88 (by kernel_rfl) rfl #[.agg #[.int .i64 a0_0, .int .i64 a0_1, .int .i64 a0_2, .int .u64 a0_3, .int .u64 a0_4, .int .u64 a0_5], .int .u64 a1, .agg #[.int .u64 (IntKind.u64.wrap (a2_0 + t264)), .int .u64 a2_1], .bool false, .slice A4 y280.length c4, .slice A5 l5.length c5] (by rfl) rfl rfl aV ?_
      with_reducible refine (ih k (by omega) a0_0 a0_1 a0_2 a0_3 a0_4 a0_5 a1 (IntKind.u64.wrap (a2_0 + t264)) a2_1 false (fun k_ => ((((P4_ k_ ∨ P5_ k_) ∨ w.heap.size ≤ k_) ∧ k_ ≠ gb260) ∧ k_ ≠ gb261)) _ _ y280 (fun k_ => ((((P4_ k_ ∨ P5_ k_) ∨ w.heap.size ≤ k_) ∧ k_ ≠ gb260) ∧ k_ ≠ gb261)) _ _ l5 t285 t288 _ ?side1 ?side2 A41.out).mono ?_
      (case side1 => first | exact HO284.out | exact Kd.V_mono HO284.out (fun k_ h_ => by simp only [and_assoc] at h_ ⊢; exact h_))
      (case side2 => first | exact HO5.out | exact Kd.V_mono HO5.out (fun k_ h_ => by simp only [and_assoc] at h_ ⊢; exact h_))
      rintro e w52 ⟨v286, v289, rfl, ho0, ho1, hb⟩
      refine ⟨_, rfl, ?_⟩
      have n0_ := Aside0.mk (Kd.V_below (kV HO4.out) hb)
      have n1_ := Aside0.mk (Kd.V_below (kV HO5.out) hb)
      have n2_ := Aside0.mk (Kd.V_below (kV HO284.out) hb)
      have n3_ := Aside0.mk (Kd.V_lower (Kd.V_mono (ok' := fun k_ => ((P4_ k_ ∨ P5_ k_) ∨ w.heap.size ≤ k_) ∧ k_ ≠ gb260 ∧ k_ ≠ gb261) ho0 (fun k_ hk_ => ⟨Or.elim hk_ (fun hs_ => Or.elim hs_ (fun hs_ => hs_.1.1) (fun hs_ => hs_.1.1)) (fun hn_ => (.inr (Nat.le_trans (below_size bB) hn_))), Or.elim hk_ (fun hs_ => Or.elim hs_ (fun hs_ => hs_.1.2) (fun hs_ => hs_.1.2)) (fun hn_ => (Kd.freshB (g := gb260) (o := .cells #[.int .i64 a0_0, .int .i64 a0_1, .int .i64 a0_2, .int .u64 a0_3, .int .u64 a0_4, .int .u64 a0_5] 24 (0, 0)) (kB BK260.out) k_ hn_)), Or.elim hk_ (fun hs_ => Or.elim hs_ (fun hs_ => hs_.2) (fun hs_ => hs_.2)) (fun hn_ => (Kd.freshB (g := gb261) (o := .cells #[.int .u64 a2_0, .int .u64 a2_1] 57 (0, 0)) (kB BK261.out) k_ hn_))⟩)) (below_size bB))
      have n4_ := Aside0.mk (Kd.V_lower (Kd.V_mono (ok' := fun k_ => ((P4_ k_ ∨ P5_ k_) ∨ w.heap.size ≤ k_) ∧ k_ ≠ gb260 ∧ k_ ≠ gb261) ho1 (fun k_ hk_ => ⟨Or.elim hk_ (fun hs_ => Or.elim hs_ (fun hs_ => hs_.1.1) (fun hs_ => hs_.1.1)) (fun hn_ => (.inr (Nat.le_trans (below_size bB) hn_))), Or.elim hk_ (fun hs_ => Or.elim hs_ (fun hs_ => hs_.1.2) (fun hs_ => hs_.1.2)) (fun hn_ => (Kd.freshB (g := gb260) (o := .cells #[.int .i64 a0_0, .int .i64 a0_1, .int .i64 a0_2, .int .u64 a0_3, .int .u64 a0_4, .int .u64 a0_5] 24 (0, 0)) (kB BK260.out) k_ hn_)), Or.elim hk_ (fun hs_ => Or.elim hs_ (fun hs_ => hs_.2) (fun hs_ => hs_.2)) (fun hn_ => (Kd.freshB (g := gb261) (o := .cells #[.int .u64 a2_0, .int .u64 a2_1] 57 (0, 0)) (kB BK261.out) k_ hn_))⟩)) (below_size bB))
      have n5_ := Aside0.mk (blk_below (g := gb260) (o := .cells #[.int .i64 a0_0, .int .i64 a0_1, .int .i64 a0_2, .int .u64 a0_3, .int .u64 a0_4, .int .u64 a0_5] 24 (0, 0)) (kB BK260.out) hb)
      have n6_ := Aside0.mk (blk_below (g := gb261) (o := .cells #[.int .u64 a2_0, .int .u64 a2_1] 57 (0, 0)) (kB BK261.out) hb)
      have n7_ := Aside0.mk (below_step bB hb)
      clear HO4
      clear HO5
      clear HO284
      clear BK260
      clear BK261
      clear HB
      have HO4 := n0_
      have HO5 := n1_
      have HO284 := n2_
      have HO287 := n3_
      have HO290 := n4_
      have BK260 := n5_
      have BK261 := n6_
      have HB := n7_
      clear n0_ n1_ n2_ n3_ n4_ n5_ n6_ n7_
      (try clear hb)
      (try clear hb2)
      (try clear hk)
      (try clear hi)
      (try clear ho0)
      (try clear ho1)
      refine hK.out _ _ ⟨(blk_cell BK260.out 0).trans rfl, (blk_cell BK260.out 1).trans rfl, (blk_cell BK260.out 2).trans rfl, (blk_cell BK260.out 3).trans rfl, (blk_cell BK260.out 4).trans rfl, (blk_cell BK260.out 5).trans rfl, (blk_cell BK261.out 0).trans rfl, (blk_cell BK261.out 1).trans rfl⟩ (fun hHeld => ?_)
      clear hK K
      refine norm_ (a' := ?_) ?_ ?_
      rotate_left
      ·show Act.put _ (some 78) _ = _
       simp only [Act.put, List.setIfInBounds_toArray, List.set_cons_zero, List.set_cons_succ, i64_w, i32_w]
       rfl
      refine pure_ (i := 11) (N := some 67) (v := ?_) (a' := ?_) #[true, true, true, true, true, true, true, true, true, true, true, true, false, false, false, false] rfl rfl (any_of HT_.out (by kernel_rfl)) (fun _ _ _ h => h) (Or.inl ⟨by rfl, ?_⟩) ?_ ?_
      rotate_left
      ·intro w'
       go_simp
       with_reducible rfl
      rotate_left
      ·simp only [Act.put, List.setIfInBounds_toArray, List.set_cons_zero, List.set_cons_succ, i64_w, i32_w]
       rfl
      refine pure_ (i := 12) (N := some 79) (v := ?_) (a' := ?_) #[true, true, true, true, true, true, true, true, true, true, true, true, true, false, false, false] rfl rfl (any_of HT_.out (by kernel_rfl)) (fun _ _ _ h => h) (Or.inl ⟨by rfl, ?_⟩) ?_ ?_
      rotate_left
      ·intro w'
       go_simp
       with_reducible rfl
      rotate_left
      ·simp only [Act.put, List.setIfInBounds_toArray, List.set_cons_zero, List.set_cons_succ, i64_w, i32_w]
       rfl
      refine pure_ (i := 13) (N := some 80) (v := ?_) (a' := ?_) #[true, true, true, true, true, true, true, true, true, true, true, true, true, true, false, false] rfl rfl (any_of HT_.out (by kernel_rfl)) (fun _ _ _ h => h) (Or.inl ⟨by rfl, ?_⟩) ?_ ?_
      rotate_left
      ·intro w'
       go_simp
       with_reducible rfl
      rotate_left
      ·simp only [Act.put, List.setIfInBounds_toArray, List.set_cons_zero, List.set_cons_succ, i64_w, i32_w]
       rfl
      refine pure_ (i := 14) (N := some 12) (v := ?_) (a' := ?_) #[true, true, true, true, true, true, true, true, true, true, true, true, true, true, true, false] rfl rfl (any_of HT_.out (by kernel_rfl)) (fun _ _ _ h => h) (Or.inl ⟨by rfl, ?_⟩) ?_ ?_
      rotate_left
      ·intro w'
       go_simp
       with_reducible rfl
      rotate_left
      ·simp only [Act.put, List.setIfInBounds_toArray, List.set_cons_zero, List.set_cons_succ, i64_w, i32_w]
       rfl
      refine pure_ (i := 15) (N := some 13) (v := ?_) (a' := ?_) #[true, true, true, true, true, true, true, true, true, true, true, true, true, true, true, true] rfl rfl (any_of HT_.out (by kernel_rfl)) (fun _ _ _ h => h) (Or.inl ⟨by rfl, ?_⟩) ?_ ?_
      rotate_left
      ·intro w'
       go_simp
       with_reducible rfl
      rotate_left
      ·simp only [Act.put, List.setIfInBounds_toArray, List.set_cons_zero, List.set_cons_succ, i64_w, i32_w]
       rfl
      refine done_ (done_of HT_.out (by kernel_rfl)) ?_
      try go_wp2
      have n0_ := Aside0.mk (Kd.V_drew HO4.out)
      have n1_ := Aside0.mk (Kd.V_drew HO5.out)
      have n2_ := Aside0.mk (Kd.V_drew HO284.out)
      have n3_ := Aside0.mk (Kd.V_drew HO287.out)
      have n4_ := Aside0.mk (Kd.V_drew HO290.out)
      have n5_ := Aside0.mk (blk_drew BK260.out)
      have n6_ := Aside0.mk (blk_drew BK261.out)
      have n7_ := Aside0.mk (below_drew1 HB.out)
      clear HO4
      clear HO5
      clear HO284
      clear HO287
      clear HO290
      clear BK260
      clear BK261
      clear HB
      have HO4 := n0_
      have HO5 := n1_
      have HO284 := n2_
      have HO287 := n3_
      have HO290 := n4_
      have BK260 := n5_
      have BK261 := n6_
      have HB := n7_
      clear n0_ n1_ n2_ n3_ n4_ n5_ n6_ n7_
      have p291 : 0 ≤ ((ji38) : Int) := dA
      have q291 : (ji38) < (l4.length : Int) := dA
      obtain ⟨ad291, A291_0, c291_0, e291, hx291_0, hl291_0, hi291_0⟩ := at_L1 (Kd.V_reads' HO4.out).2.2 (ji38) p291 q291
      cases e291
      obtain ⟨ce291, hce291, hMe291, hcc291⟩ := Kd.V_get HO4.out [] (ji38) p291 (by first | exact q291 | exact dA | (have e_ := (Kd.V_reads' HO4.out).1; omega))
      obtain ⟨ua291_0, uc291_0, rfl, ul291_0, ge291_0⟩ := Kd.FK_slice_open hMe291
      have hv291_0 := hcc291 0 _ rfl
      rw [Nat.add_zero, show ((Kd.slice 5 (Kd.int .u8))).sz = 1 from rfl, Nat.mul_one] at hv291_0
      replace hv291_0 := Option.some.inj (hv291_0.symm.trans hx291_0)
      injection hv291_0 with hva_ hvn_ hvc_
      rw [hva_] at ge291_0
      rw [hvc_] at ul291_0
      have HL291_0 := Aside0.mk (show Kd.V (Kd.int .u8) 5 _ w.heap.size _ _ (rd_L1 l4 (ji38)) from Kd.V_mk ul291_0 ge291_0)
      clear hva_ hvn_ hvc_ ge291_0 ul291_0
      clear hcc291 hce291
      have HR291_0 := Aside0.mk hi291_0
      have HC291_0 := Aside0.mk hl291_0
      clear hi291_0 hl291_0
      replace p291 := eq_true p291
      replace q291 := eq_true q291
      have p295 : 0 ≤ ((ji38) : Int) := dA
      have q295 : (ji38) < (l4.length : Int) := dA
      obtain ⟨ad295, A295_0, c295_0, e295, hx295_0, hl295_0, hi295_0⟩ := at_L1 (Kd.V_reads' HO4.out).2.2 (ji38) p295 q295
      obtain rfl : ad291 = ad295 := (by injection e295)
      obtain ⟨ce295, hce295, hMe295, hcc295⟩ := Kd.V_get HO4.out [] (ji38) p295 (by first | exact q295 | exact dA | (have e_ := (Kd.V_reads' HO4.out).1; omega))
      obtain ⟨ua295_0, uc295_0, rfl, ul295_0, ge295_0⟩ := Kd.FK_slice_open hMe295
      have hv295_0 := hcc295 0 _ rfl
      rw [Nat.add_zero, show ((Kd.slice 5 (Kd.int .u8))).sz = 1 from rfl, Nat.mul_one] at hv295_0
      replace hv295_0 := Option.some.inj (hv295_0.symm.trans hx295_0)
      injection hv295_0 with hva_ hvn_ hvc_
      rw [hva_] at ge295_0
      rw [hvc_] at ul295_0
      have HL295_0 := Aside0.mk (show Kd.V (Kd.int .u8) 5 _ w.heap.size _ _ (rd_L1 l4 (ji38)) from Kd.V_mk ul295_0 ge295_0)
      clear hva_ hvn_ hvc_ ge295_0 ul295_0
      clear hcc295 hce295
      have HR295_0 := Aside0.mk hi295_0
      have HC295_0 := Aside0.mk hl295_0
      clear hi295_0 hl295_0
      replace p295 := eq_true p295
      replace q295 := eq_true q295
      have ea_ := Option.some.inj (hx291_0.symm.trans hx295_0)
      injection ea_ with ea_ en_ ec_
      subst ea_
      subst ec_
      clear en_
      obtain ⟨Ao54, co54, eo54⟩ := Kd.V_slice HO287.out
      (first | subst eo54 | (injection eo54 with f1_ f2_ f3_; have f4_ := f1_.symm; have f5_ := f3_.symm; clear f1_ f2_ f3_; subst f4_; subst f5_))
      refine start_ (n := 16) (S := fun w' => w'.cell? ⟨gb260, 0, none⟩ = some (.int .i64 a0_0) ∧ w'.cell? ⟨gb260, 1, none⟩ = some (.int .i64 a0_1) ∧ w'.cell? ⟨gb260, 2, none⟩ = some (.int .i64 a0_2) ∧ w'.cell? ⟨gb260, 3, none⟩ = some (.int .u64 a0_3) ∧ w'.cell? ⟨gb260, 4, none⟩ = some (.int .u64 a0_4) ∧ w'.cell? ⟨gb260, 5, none⟩ = some (.int .u64 a0_5) ∧ w'.cell? (ad291.add ((ji38)).toNat) = some (.slice A291_0 (rd_L1 l4 (ji38)).length c291_0) ∧ w'.cell? (ad291.add ((ji38)).toNat) = some (.slice A291_0 (rd_L1 l4 (ji38)).length c291_0)) (ds := []) #[false, false, false, false, false, false, false, false, false, false, false, false, false, false, false, false] (by kernel_rfl) rfl rfl ⟨(blk_cell BK260.out 0).trans rfl, (blk_cell BK260.out 1).trans rfl, (blk_cell BK260.out 2).trans rfl, (blk_cell BK260.out 3).trans rfl, (blk_cell BK260.out 4).trans rfl, (blk_cell BK260.out 5).trans rfl, hx291_0, hx295_0⟩ (fun hHeld => ?_); refine with_tabW spec_rootsIn.tab10 spec_rootsIn.bits10 (fun HT_ HW_ => ?_)
      generalize w52.drew = w53 at HO4 HO5 HO284 HO287 HO290 BK260 BK261 HB HL291_0 HL295_0 HR291_0 HR295_0 hx291_0 hx295_0 hHeld ⊢
      refine pure_ (i := 1) (N := some 82) (v := ?_) (a' := ?_) #[false, true, false, false, false, false, false, false, false, false, false, false, false, false, false, false] rfl rfl (any_of HT_.out (by kernel_rfl)) (fun _ _ _ h => h) (Or.inl ⟨by rfl, ?_⟩) ?_ ?_
      rotate_left
      ·intro w'
       go_simp
       with_reducible rfl
      rotate_left
      ·simp only [Act.put, List.setIfInBounds_toArray, List.set_cons_zero, List.set_cons_succ, i64_w, i32_w]
       rfl
      refine pure_ (i := 2) (N := some 83) (v := ?_) (a' := ?_) #[false, true, true, false, false, false, false, false, false, false, false, false, false, false, false, false] rfl rfl (any_of HT_.out (by kernel_rfl)) (fun _ _ _ h => h) (Or.inl ⟨by rfl, ?_⟩) ?_ ?_
      rotate_left
      ·intro w'
       go_simp
       with_reducible rfl
      rotate_left
      ·simp only [Act.put, List.setIfInBounds_toArray, List.set_cons_zero, List.set_cons_succ, i64_w, i32_w]
       rfl
      refine pure_ (i := 3) (N := some 84) (v := ?_) (a' := ?_) #[false, true, true, true, false, false, false, false, false, false, false, false, false, false, false, false] rfl rfl (any_of HT_.out (by kernel_rfl)) (fun _ _ _ h => h) (Or.inl ⟨by rfl, ?_⟩) ?_ ?_
      rotate_left
      ·intro w'
       go_simp
       with_reducible rfl
      rotate_left
      ·simp only [Act.put, List.setIfInBounds_toArray, List.set_cons_zero, List.set_cons_succ, i64_w, i32_w]
       rfl
      refine pure_ (i := 5) (N := some 86) (v := ?_) (a' := ?_) #[false, true, true, true, false, true, false, false, false, false, false, false, false, false, false, false] rfl rfl (any_of HT_.out (by kernel_rfl)) (fun _ _ _ h => h) (Or.inl ⟨by rfl, ?_⟩) ?_ ?_
      rotate_left
      ·intro w'
       go_simp
       with_reducible rfl
      rotate_left
      ·simp only [Act.put, List.setIfInBounds_toArray, List.set_cons_zero, List.set_cons_succ, i64_w, i32_w]
       rfl
      refine pure_ (i := 8) (N := some 89) (v := ?_) (a' := ?_) #[false, true, true, true, false, true, false, false, true, false, false, false, false, false, false, false] rfl rfl (any_of HT_.out (by kernel_rfl)) (fun _ _ _ h => h) (Or.inl ⟨by rfl, ?_⟩) ?_ ?_
      rotate_left
      ·intro w'
       go_simp
       with_reducible rfl
      rotate_left
      ·simp only [Act.put, List.setIfInBounds_toArray, List.set_cons_zero, List.set_cons_succ, i64_w, i32_w]
       rfl
      refine pure_ (i := 9) (N := some 90) (v := ?_) (a' := ?_) #[false, true, true, true, false, true, false, false, true, true, false, false, false, false, false, false] rfl rfl (any_of HT_.out (by kernel_rfl)) (fun _ _ _ h => h) (Or.inl ⟨by rfl, ?_⟩) ?_ ?_
      rotate_left
      ·intro w'
       go_simp
       with_reducible rfl
      rotate_left
      ·simp only [Act.put, List.setIfInBounds_toArray, List.set_cons_zero, List.set_cons_succ, i64_w, i32_w]
       rfl
      refine pure_ (i := 10) (N := some 91) (v := ?_) (a' := ?_) #[false, true, true, true, false, true, false, false, true, true, true, false, false, false, false, false] rfl rfl (any_of HT_.out (by kernel_rfl)) (fun _ _ _ h => h) (Or.inl ⟨by rfl, ?_⟩) ?_ ?_
      rotate_left
      ·intro w'
       go_simp
       with_reducible rfl
      rotate_left
      ·simp only [Act.put, List.setIfInBounds_toArray, List.set_cons_zero, List.set_cons_succ, i64_w, i32_w]
       rfl
      refine pure_ (i := 12) (N := some 93) (v := ?_) (a' := ?_) #[false, true, true, true, false, true, false, false, true, true, true, false, true, false, false, false] rfl rfl (any_of HT_.out (by kernel_rfl)) (fun _ _ _ h => h) (Or.inl ⟨by rfl, ?_⟩) ?_ ?_
      rotate_left
      ·intro w'
       go_simp
       with_reducible rfl
      rotate_left
      ·simp only [Act.put, List.setIfInBounds_toArray, List.set_cons_zero, List.set_cons_succ, i64_w, i32_w]
       rfl
      refine take_ (i := 0) (N := some 81) (v := ?_) (a' := ?_) #[true, true, true, true, false, true, false, false, true, true, true, false, true, false, false, false] rfl rfl (take_ofW HT_.out HW_.out (by kernel_rfl)) (fun _ _ _ h => h) (Or.inl ⟨by rfl, ?_⟩) hHeld ?_ ?_
      rotate_left
      ·rintro w' ⟨s0, s1, s2, s3, s4, s5, s6, s7⟩
       go_simp
       with_reducible rfl
      rotate_left
      ·simp only [Act.put, List.setIfInBounds_toArray, List.set_cons_zero, List.set_cons_succ, i64_w, i32_w]
       rfl
      refine take_ (i := 4) (N := some 85) (v := ?_) (a' := ?_) #[true, true, true, true, true, true, false, false, true, true, true, false, true, false, false, false] rfl rfl (take_ofW HT_.out HW_.out (by kernel_rfl)) (fun _ _ _ h => h) (Or.inl ⟨by rfl, ?_⟩) hHeld ?_ ?_
      rotate_left
      ·rintro w' ⟨s0, s1, s2, s3, s4, s5, s6, s7⟩
       go_simp
       with_reducible rfl
      rotate_left
      ·simp only [Act.put, List.setIfInBounds_toArray, List.set_cons_zero, List.set_cons_succ, i64_w, i32_w]
       rfl
      refine take_ (i := 7) (N := some 88) (v := ?_) (a' := ?_) #[true, true, true, true, true, true, false, true, true, true, true, false, true, false, false, false] rfl rfl (take_ofW HT_.out HW_.out (by kernel_rfl)) (fun _ _ _ h => h) (Or.inl ⟨by rfl, ?_⟩) hHeld ?_ ?_
      rotate_left
      ·rintro w' ⟨s0, s1, s2, s3, s4, s5, s6, s7⟩
       go_simp
       with_reducible rfl
      rotate_left
      ·simp only [Act.put, List.setIfInBounds_toArray, List.set_cons_zero, List.set_cons_succ, i64_w, i32_w]
       rfl
      refine take_ (i := 11) (N := some 92) (v := ?_) (a' := ?_) #[true, true, true, true, true, true, false, true, true, true, true, true, true, false, false, false] rfl rfl (take_ofW HT_.out HW_.out (by kernel_rfl)) (fun _ _ _ h => h) (Or.inl ⟨by rfl, ?_⟩) hHeld ?_ ?_
      rotate_left
      ·rintro w' ⟨s0, s1, s2, s3, s4, s5, s6, s7⟩
       go_simp
       with_reducible rfl
      rotate_left
      ·simp only [Act.put, List.setIfInBounds_toArray, List.set_cons_zero, List.set_cons_succ, i64_w, i32_w]
       rfl
      refine one_ (i := 6) (N := some 87) #[true, true, true, true, true, true, true, true, true, true, true, true, true, false, false, false] rfl rfl (one_of HT_.out (by kernel_rfl)) (by decide) (fun K hK => ?_)
      refine goes_ Tryd.func97 (by kernel_rfl) rfl #[.agg #[.int .i64 a0_0, .int .i64 a0_1, .int .i64 a0_2, .int .u64 a0_3, .int .u64 a0_4, .int .u64 a0_5], .slice A291_0 (rd_L1 l4 (ji38)).length c291_0, .slice Ao54 t285.length co54] (by rfl) rfl rfl (by (try simp only [List.map_toArray, List.map_cons, List.map_nil]); first | done | (simp only [hji38]; rfl) | rfl | (simp only [List.length_drop, List.length_take]; rfl)) ?_
      with_reducible refine (spec_HashChildren.calls k a0_0 a0_1 a0_2 a0_3 a0_4 a0_5 _ _ (rd_L1 l4 (ji38)) _ _ t285 t292 _ ?side1 ?side2 ?side3 ?side4 A43.out).mono ?_
      (case side1 => repeat (first | exact (by repeat (first | (with_reducible exact HR291_0.out) | (with_reducible refine Kd.C_alloc ?_ _) | (with_reducible refine Kd.C_drewN ?_ _) | (with_reducible refine Kd.C_drew ?_) | exact HR291_0.out)) | (with_reducible refine Kd.C_alloc ?_ _) | (with_reducible refine Kd.C_drewN ?_ _) | (with_reducible refine Kd.C_drew ?_)))
      (case side2 => exact HC291_0.out)
      (case side3 => repeat (first | exact (Kd.V_reads' HO287.out).2.2 | (with_reducible refine Kd.C_alloc ?_ _) | (with_reducible refine Kd.C_drewN ?_ _) | (with_reducible refine Kd.C_drew ?_)))
      (case side4 => exact (Kd.V_reads' HO287.out).2.1)
      rintro e w55 ⟨v293, rfl, ho0, hb⟩
      have HS6_ := (hb.cell (World.block_lt_of_cell? _ _ (hHeld.2.2.2.2.2.2.1))).trans (hHeld.2.2.2.2.2.2.1)
      have HS7_ := (hb.cell (World.block_lt_of_cell? _ _ (hHeld.2.2.2.2.2.2.2))).trans (hHeld.2.2.2.2.2.2.2)
      refine ⟨_, rfl, ?_⟩
      have n0_ := Aside0.mk (Kd.V_elder' (kV HO4.out) (Kd.R_base ho0) hb)
      have n1_ := Aside0.mk (Kd.V_elder' (kV HO5.out) (Kd.R_base ho0) hb)
      have n2_ := Aside0.mk (Kd.V_elder' (kV HO284.out) (Kd.R_base ho0) hb)
      have n3_ := Aside0.mk (Kd.V_elder' (kV HO287.out) (Kd.R_base ho0) hb)
      have n4_ := Aside0.mk (Kd.V_elder' (kV HO290.out) (Kd.R_base ho0) hb)
      have n5_ := Aside0.mk (Kd.V_elder' (kV HL291_0.out) (Kd.R_base ho0) hb)
      have n6_ := Aside0.mk (Kd.V_elder' (kV HL295_0.out) (Kd.R_base ho0) hb)
      have n7_ := Aside0.mk (Kd.R_lower (Kd.R_newM (M := fun k_ => (w.heap.size ≤ k_)) ho0 (below_size bB) (fun k_ h_ => h_)) (below_size bB))
      have n8_ := Aside0.mk (blk_below (g := gb260) (o := .cells #[.int .i64 a0_0, .int .i64 a0_1, .int .i64 a0_2, .int .u64 a0_3, .int .u64 a0_4, .int .u64 a0_5] 24 (0, 0)) (kB BK260.out) hb)
      have n9_ := Aside0.mk (blk_below (g := gb261) (o := .cells #[.int .u64 a2_0, .int .u64 a2_1] 57 (0, 0)) (kB BK261.out) hb)
      have n10_ := Aside0.mk (Kd.C_below (by repeat (first | (with_reducible exact HR291_0.out) | (with_reducible refine Kd.C_alloc ?_ _) | (with_reducible refine Kd.C_drewN ?_ _) | (with_reducible refine Kd.C_drew ?_) | exact HR291_0.out)) hb)
      have n11_ := Aside0.mk (Kd.C_below (by repeat (first | (with_reducible exact HR295_0.out) | (with_reducible refine Kd.C_alloc ?_ _) | (with_reducible refine Kd.C_drewN ?_ _) | (with_reducible refine Kd.C_drew ?_) | exact HR295_0.out)) hb)
      have n12_ := Aside0.mk (below_step bB hb)
      clear HO4
      clear HO5
      clear HO284
      clear HO287
      clear HO290
      clear HL291_0
      clear HL295_0
      clear BK260
      clear BK261
      clear HR291_0
      clear HR295_0
      clear HB
      have HO4 := n0_
      have HO5 := n1_
      have HO284 := n2_
      have HO287 := n3_
      have HO290 := n4_
      have HL291_0 := n5_
      have HL295_0 := n6_
      have HO294 := n7_
      have BK260 := n8_
      have BK261 := n9_
      have HR291_0 := n10_
      have HR295_0 := n11_
      have HB := n12_
      clear n0_ n1_ n2_ n3_ n4_ n5_ n6_ n7_ n8_ n9_ n10_ n11_ n12_
      (try clear hb)
      (try clear hb2)
      (try clear hk)
      (try clear hi)
      (try clear ho0)
      obtain ⟨Ao56, co56, eo56⟩ := Kd.V_slice HO290.out
      (first | subst eo56 | (injection eo56 with f1_ f2_ f3_; have f4_ := f1_.symm; have f5_ := f3_.symm; clear f1_ f2_ f3_; subst f4_; subst f5_))
      refine hK.out _ _ ⟨(blk_cell BK260.out 0).trans rfl, (blk_cell BK260.out 1).trans rfl, (blk_cell BK260.out 2).trans rfl, (blk_cell BK260.out 3).trans rfl, (blk_cell BK260.out 4).trans rfl, (blk_cell BK260.out 5).trans rfl, HS6_, HS7_⟩ (fun hHeld => ?_)
      clear hK K
      refine norm_ (a' := ?_) ?_ ?_
      rotate_left
      ·show Act.put _ (some 87) _ = _
       simp only [Act.put, List.setIfInBounds_toArray, List.set_cons_zero, List.set_cons_succ, i64_w, i32_w]
       rfl
      refine one_ (i := 13) (N := some 94) #[true, true, true, true, true, true, true, true, true, true, true, true, true, true, false, false] rfl rfl (one_of HT_.out (by kernel_rfl)) (by decide) (fun K hK => ?_)
      refine goes_ Tryd.func97 (by kernel_rfl) rfl #[.agg #[.int .i64 a0_0, .int .i64 a0_1, .int .i64 a0_2, .int .u64 a0_3, .int .u64 a0_4, .int .u64 a0_5], .slice A291_0 (rd_L1 l4 (ji38)).length c291_0, .slice Ao56 t288.length co56] (by rfl) rfl rfl (by (try simp only [List.map_toArray, List.map_cons, List.map_nil]); first | done | (simp only [hji38]; rfl) | rfl | (simp only [List.length_drop, List.length_take]; rfl)) ?_
      with_reducible refine (spec_HashChildren.calls k a0_0 a0_1 a0_2 a0_3 a0_4 a0_5 _ _ (rd_L1 l4 (ji38)) _ _ t288 t296 _ ?side1 ?side2 ?side3 ?side4 A44.out).mono ?_
      (case side1 => repeat (first | exact (by repeat (first | (with_reducible exact HR295_0.out) | (with_reducible refine Kd.C_alloc ?_ _) | (with_reducible refine Kd.C_drewN ?_ _) | (with_reducible refine Kd.C_drew ?_) | exact HR295_0.out)) | (with_reducible refine Kd.C_alloc ?_ _) | (with_reducible refine Kd.C_drewN ?_ _) | (with_reducible refine Kd.C_drew ?_)))
      (case side2 => exact HC295_0.out)
      (case side3 => repeat (first | exact (Kd.V_reads' HO290.out).2.2 | (with_reducible refine Kd.C_alloc ?_ _) | (with_reducible refine Kd.C_drewN ?_ _) | (with_reducible refine Kd.C_drew ?_)))
      (case side4 => exact (Kd.V_reads' HO290.out).2.1)
      rintro e w57 ⟨v297, rfl, ho0, hb⟩
      have HS6_ := (hb.cell (World.block_lt_of_cell? _ _ (hHeld.2.2.2.2.2.2.1))).trans (hHeld.2.2.2.2.2.2.1)
      have HS7_ := (hb.cell (World.block_lt_of_cell? _ _ (hHeld.2.2.2.2.2.2.2))).trans (hHeld.2.2.2.2.2.2.2)
      refine ⟨_, rfl, ?_⟩
      have n0_ := Aside0.mk (Kd.V_elder' (kV HO4.out) (Kd.R_base ho0) hb)
      have n1_ := Aside0.mk (Kd.V_elder' (kV HO5.out) (Kd.R_base ho0) hb)
      have n2_ := Aside0.mk (Kd.V_elder' (kV HO284.out) (Kd.R_base ho0) hb)
      have n3_ := Aside0.mk (Kd.V_elder' (kV HO287.out) (Kd.R_base ho0) hb)
      have n4_ := Aside0.mk (Kd.V_elder' (kV HO290.out) (Kd.R_base ho0) hb)
      have n5_ := Aside0.mk (Kd.V_elder' (kV HL291_0.out) (Kd.R_base ho0) hb)
      have n6_ := Aside0.mk (Kd.V_elder' (kV HL295_0.out) (Kd.R_base ho0) hb)
      have n7_ := Aside0.mk (Kd.R_elder' (kR HO294.out) (Kd.R_base ho0) hb)
      have n8_ := Aside0.mk (Kd.R_lower (Kd.R_new' (Kd.R_newM (M := fun k_ => (w.heap.size ≤ k_)) ho0 (below_size bB) (fun k_ h_ => h_)) (Kd.R_lt (kR HO294.out))) (below_size bB))
      have n9_ := Aside0.mk (blk_below (g := gb260) (o := .cells #[.int .i64 a0_0, .int .i64 a0_1, .int .i64 a0_2, .int .u64 a0_3, .int .u64 a0_4, .int .u64 a0_5] 24 (0, 0)) (kB BK260.out) hb)
      have n10_ := Aside0.mk (blk_below (g := gb261) (o := .cells #[.int .u64 a2_0, .int .u64 a2_1] 57 (0, 0)) (kB BK261.out) hb)
      have n11_ := Aside0.mk (Kd.C_below (by repeat (first | (with_reducible exact HR291_0.out) | (with_reducible refine Kd.C_alloc ?_ _) | (with_reducible refine Kd.C_drewN ?_ _) | (with_reducible refine Kd.C_drew ?_) | exact HR291_0.out)) hb)
      have n12_ := Aside0.mk (Kd.C_below (by repeat (first | (with_reducible exact HR295_0.out) | (with_reducible refine Kd.C_alloc ?_ _) | (with_reducible refine Kd.C_drewN ?_ _) | (with_reducible refine Kd.C_drew ?_) | exact HR295_0.out)) hb)
      have n13_ := Aside0.mk (below_step bB hb)
      clear HO4
      clear HO5
      clear HO284
      clear HO287
      clear HO290
      clear HL291_0
      clear HL295_0
      clear HO294
      clear BK260
      clear BK261
      clear HR291_0
      clear HR295_0
      clear HB
      have HO4 := n0_
      have HO5 := n1_
      have HO284 := n2_
      have HO287 := n3_
      have HO290 := n4_
      have HL291_0 := n5_
      have HL295_0 := n6_
      have HO294 := n7_
      have HO298 := n8_
      have BK260 := n9_
      have BK261 := n10_
      have HR291_0 := n11_
      have HR295_0 := n12_
      have HB := n13_
      clear n0_ n1_ n2_ n3_ n4_ n5_ n6_ n7_ n8_ n9_ n10_ n11_ n12_ n13_
      (try clear hb)
      (try clear hb2)
      (try clear hk)
      (try clear hi)
      (try clear ho0)
      refine hK.out _ _ ⟨(blk_cell BK260.out 0).trans rfl, (blk_cell BK260.out 1).trans rfl, (blk_cell BK260.out 2).trans rfl, (blk_cell BK260.out 3).trans rfl, (blk_cell BK260.out 4).trans rfl, (blk_cell BK260.out 5).trans rfl, HS6_, HS7_⟩ (fun hHeld => ?_)
      clear hK K
      refine norm_ (a' := ?_) ?_ ?_
      rotate_left
      ·show Act.put _ (some 94) _ = _
       simp only [Act.put, List.setIfInBounds_toArray, List.set_cons_zero, List.set_cons_succ, i64_w, i32_w]
       rfl
      refine pure_ (i := 14) (N := some 12) (v := ?_) (a' := ?_) #[true, true, true, true, true, true, true, true, true, true, true, true, true, true, true, false] rfl rfl (any_of HT_.out (by kernel_rfl)) (fun _ _ _ h => h) (Or.inl ⟨by rfl, ?_⟩) ?_ ?_
      rotate_left
      ·intro w'
       go_simp
       with_reducible rfl
      rotate_left
      ·simp only [Act.put, List.setIfInBounds_toArray, List.set_cons_zero, List.set_cons_succ, i64_w, i32_w]
       rfl
      refine pure_ (i := 15) (N := some 13) (v := ?_) (a' := ?_) #[true, true, true, true, true, true, true, true, true, true, true, true, true, true, true, true] rfl rfl (any_of HT_.out (by kernel_rfl)) (fun _ _ _ h => h) (Or.inl ⟨by rfl, ?_⟩) ?_ ?_
      rotate_left
      ·intro w'
       go_simp
       with_reducible rfl
      rotate_left
      ·simp only [Act.put, List.setIfInBounds_toArray, List.set_cons_zero, List.set_cons_succ, i64_w, i32_w]
       rfl
      refine done_ (done_of HT_.out (by kernel_rfl)) ?_
      try go_wp2
      go_ret2
      exact ⟨_, _, by first | rfl | (simp [errW_none, errW_some] <;> rfl) | (simp only [← hji38]; first | rfl | (simp [errW_none, errW_some] <;> rfl)) | (simp [*, errW_none, errW_some] <;> rfl), Kd.V_mono (Kd.R_V (by (with_reducible repeat (first | apply Kd.R_alloc | apply Kd.R_drewN | apply Kd.R_drew)); exact Kd.R_mono HO294.out (fun _ hk => hk.1.1))) (fun k_ hk => by first | exact ⟨(.inr (hk.1)), hk.2⟩ | exact (.inr (hk))), Kd.V_mono (Kd.R_V (by (with_reducible repeat (first | apply Kd.R_alloc | apply Kd.R_drewN | apply Kd.R_drew)); exact Kd.R_mono HO298.out (fun _ hk => hk.1.1))) (fun k_ hk => by first | exact ⟨(.inr (hk.1)), hk.2⟩ | exact (.inr (hk))), bB⟩
     ·rw [if_neg c42] at H
      exact absurd H (by simp)
    ·rw [if_neg c40] at H
     exact absurd H (by simp)
   ·rw [if_neg c39] at H
    exact absurd H (by simp)

end Go.Proofs.YtkmdkmlgahfcpaaDoor.M

