-- Written by a program of ours (wip/xp) out of the translation; Lean checks it.
import Derived.Test.YtkmdkmlgahfcpaaDoorSq
import Derived.Test.YtkmdkmlgahfcpaaDoorMm1
import Derived.Test.YtkmdkmlgahfcpaaDoorMm5
import Derived.Test.YtkmdkmlgahfcpaaDoorMm9
namespace Go.Proofs.YtkmdkmlgahfcpaaDoor.M
open Go.RowKit Go.Proofs.YtkmdkmlgahfcpaaDoorW.PrintWords Go.Proofs.YtkmdkmlgahfcpaaDoorW.PrintLast Go.Proofs.YtkmdkmlgahfcpaaDoorW.PrintMore
attribute [local go_sem] max2_int min2_int max_two min_two max_three min_three max_four min_four   -- for this text's walks alone
set_option linter.unusedVariables false
set_option linter.unusedSimpArgs false

/-! ### spec_Proof: function 37 -/
def spec_Proof.l0 : Nat → List (List Int) → List (List Int) → List (S57) → Int → Int → Int → Int → Int → Int → Int → Int → Option ((List (List Int)))
 | 0, _, _, _, _, _, _, _, _, _, _, _ => none
 | k + 1, x1, x7, x14, x15, x16, x363000, x363001, x363002, x363003, x363004, x363005 => if x16 < x15 then (if 0 ≤ x16 then (if x16 < (x14.length : Int) then ((spec_RootOf.f k x363000 x363001 x363002 x363003 x363004 x363005 x1 ((rd_T57 x14 x16).f0) ((rd_T57 x14 x16).f1)).bind fun t368 => (if x7.length < 5864062014805 then (spec_Proof.l0 k x1 (x7 ++ [t368]) x14 x15 (wrap64 (x16 + 1)) x363000 x363001 x363002 x363003 x363004 x363005) else (none))) else (none)) else (none)) else (some x7)
def spec_Proof.f (k : Nat) (a0_0 : Int) (a0_1 : Int) (a0_2 : Int) (a0_3 : Int) (a0_4 : Int) (a0_5 : Int) (l1 : List (List Int)) (a2 : Int) : Option ((List (List Int))) := (spec_ProofParts.f k a2 (IntKind.u64.wrap ((l1.length : Int)))).bind fun t363 => (spec_Proof.l0 k l1 ([] : List (List Int)) t363 (t363.length : Int) 0 a0_0 a0_1 a0_2 a0_3 a0_4 a0_5)
theorem spec_Proof.mono_l : ∀ k, (∀ y0 y1 y2 y3 y4 y5 y6 y7 y8 y9 y10, LeO (spec_Proof.l0 k y0 y1 y2 y3 y4 y5 y6 y7 y8 y9 y10) (spec_Proof.l0 (k + 1) y0 y1 y2 y3 y4 y5 y6 y7 y8 y9 y10))
 | 0 => fun _ _ _ _ _ _ _ _ _ _ _ r h => by simp [spec_Proof.l0] at h
 | k + 1 => by
  have ih0 := spec_Proof.mono_l k
  ·intro y0 y1 y2 y3 y4 y5 y6 y7 y8 y9 y10
   unfold spec_Proof.l0
   repeat' first
   | (with_reducible exact ih0 _ _ _ _ _ _ _ _ _ _ _)
   | (with_reducible exact spec_ProofParts.mono _ _ _)
   | (with_reducible exact spec_RootOf.mono _ _ _ _ _ _ _ _ _ _)
   | (with_reducible exact LeO.refl _)
   | (with_reducible exact LeO.none _)
   | (with_reducible refine LeO.ite ?_ ?_)
   | (with_reducible refine LeO.bind ?_ (fun _ => ?_))
   | exact ih0 _ _ _ _ _ _ _ _ _ _ _
   | exact spec_ProofParts.mono _ _ _
   | exact spec_RootOf.mono _ _ _ _ _ _ _ _ _ _
   | exact LeO.none _
   | refine LeO.ite ?_ ?_
   | refine LeO.bind ?_ (fun _ => ?_)
theorem spec_Proof.mono : ∀ a0 a1 a2 a3 a4 a5 a6 a7 k, LeO (spec_Proof.f k a0 a1 a2 a3 a4 a5 a6 a7) (spec_Proof.f (k + 1) a0 a1 a2 a3 a4 a5 a6 a7) := by
 intro a0 a1 a2 a3 a4 a5 a6 a7 k
 have ih0 := spec_Proof.mono_l k
 unfold spec_Proof.f
 repeat' first
   | (with_reducible exact ih0 _ _ _ _ _ _ _ _ _ _ _)
   | (with_reducible exact spec_ProofParts.mono _ _ _)
   | (with_reducible exact spec_RootOf.mono _ _ _ _ _ _ _ _ _ _)
   | (with_reducible exact LeO.refl _)
   | (with_reducible exact LeO.none _)
   | (with_reducible refine LeO.ite ?_ ?_)
   | (with_reducible refine LeO.bind ?_ (fun _ => ?_))
   | exact ih0 _ _ _ _ _ _ _ _ _ _ _
   | exact spec_ProofParts.mono _ _ _
   | exact spec_RootOf.mono _ _ _ _ _ _ _ _ _ _
   | exact LeO.none _
   | refine LeO.ite ?_ ?_
   | refine LeO.bind ?_ (fun _ => ?_)
set_option maxHeartbeats 8000000 in
set_option maxRecDepth 100000 in
theorem spec_Proof.calls (k : Nat) (a0_0 : Int) (a0_1 : Int) (a0_2 : Int) (a0_3 : Int) (a0_4 : Int) (a0_5 : Int) (P1_ : Nat → Prop) (A1 : Option Addr) (c1 : Nat) (l1 : List (List Int)) (a2 : Int) (r : List (List Int)) (w : World) (hs1 : Kd.V (Kd.slice 5 (Kd.int .u8)) 27 w w.heap.size (fun k_ => P1_ k_) (.slice A1 l1.length c1) l1) (h : spec_Proof.f k a0_0 a0_1 a0_2 a0_3 a0_4 a0_5 l1 a2 = some r) :
  Calls Tryd.prog 37 #[.agg #[.int .i64 a0_0, .int .i64 a0_1, .int .i64 a0_2, .int .u64 a0_3, .int .u64 a0_4, .int .u64 a0_5], .slice A1 l1.length c1, .int .u64 a2] w fun e w' => ∃ v0_ : Value, e = .returned (v0_) ∧ Kd.N (Kd.slice 5 (Kd.int .u8)) 27 w' w.heap.size (fun k_ => (P1_ k_ ∨ w.heap.size ≤ k_)) v0_ r ∧ Below w.heap.size w w' := by
 have hu24 := Tryd.underlying24
 have hu57 := Tryd.underlying57
 have HO1 := Aside0.mk (show Kd.V (Kd.slice 5 (Kd.int .u8)) 27 w w.heap.size (fun k_ => (P1_ k_ ∨ w.heap.size ≤ k_)) (.slice A1 l1.length c1) l1 from Kd.V_mono hs1 (fun k_ hk => .inl hk))
 have HB := Aside0.mk (Below.refl w.heap.size w)
 have H : ((spec_ProofParts.f k a2 (IntKind.u64.wrap ((l1.length : Int)))).bind fun t363 => (spec_Proof.l0 k l1 ([] : List (List Int)) t363 (t363.length : Int) 0 a0_0 a0_1 a0_2 a0_3 a0_4 a0_5)) = some r := h
 clear h
 replace H := Option.bind_eq_some_iff.mp H
 obtain ⟨t363, A40, H⟩ := H
 replace H : (spec_Proof.l0 k l1 ([] : List (List Int)) t363 (t363.length : Int) 0 a0_0 a0_1 a0_2 a0_3 a0_4 a0_5) = some r := H
 have A4 := Aside0.mk A40
 clear A40
 have H' := Aside0.mk H
 clear H
 go_enter Tryd.func37, Tryd.ntmps37
 go_wp2_with (first | ((with_reducible refine gate_dst (N := 3) rfl ?_); refine box_event ?hg (N := 3) ?hd (cs := #[.int .i64 a0_0, .int .i64 a0_1, .int .i64 a0_2, .int .u64 a0_3, .int .u64 a0_4, .int .u64 a0_5]) (t := 24) ?hr ?_; (case hd => rfl); (case hg => rfl); (case hr => first | (go_simp; done) | (go_simp; rfl)); intro gb362 hg w5 hbox hb; have n0_ := Aside0.mk (Kd.V_below (Kd.V_elderB (kV HO1.out) gb362 (Nat.le_of_eq hg.symm)) hb); have n1_ := Aside0.mk (below_step bB hb); have n2_ := Aside0.mk (hbox); have n3_ := Aside0.mk ((by rw [hg]; exact (below_size bB) : w.heap.size ≤ gb362)); have n4_ := Aside0.mk ((by rw [hg]; exact (below_size bB) : w.heap.size ≤ gb362)); clear HO1; clear HB; have HO1 := n0_; have HB := n1_; have BK362 := n2_; have GW362 := n3_; have GE362 := n4_; clear n0_ n1_ n2_ n3_ n4_; clear hb hbox hg) | ((with_reducible refine gate_callee (f := 50) rfl ?_); refine goesL_ (some 14) rfl rfl Tryd.func50 (by kernel_rfl) rfl #[.int .u64 a2, .int .u64 (IntKind.u64.wrap ((l1.length : Int)))] rfl aV ?_; (with_reducible refine (spec_ProofParts.calls k a2 (IntKind.u64.wrap ((l1.length : Int))) t363 _ A4.out).mono ?_); rintro e w6 ⟨v364, rfl, ho0, hb⟩; refine ⟨_, rfl, ?_⟩; have n0_ := Aside0.mk (Kd.V_elder' (kV HO1.out) (Kd.R_base ho0) hb); have n1_ := Aside0.mk (Kd.R_lower (Kd.R_newM (M := fun k_ => (w.heap.size ≤ k_)) ho0 (below_size bB) (fun k_ h_ => h_)) (below_size bB)); have n2_ := Aside0.mk (blk_below (g := gb362) (o := .cells #[.int .i64 a0_0, .int .i64 a0_1, .int .i64 a0_2, .int .u64 a0_3, .int .u64 a0_4, .int .u64 a0_5] 24 (0, 0)) (kB BK362.out) hb); have n3_ := Aside0.mk (below_step bB hb); clear HO1; clear BK362; clear HB; have HO1 := n0_; have HO365 := n1_; have BK362 := n2_; have HB := n3_; clear n0_ n1_ n2_ n3_; (try clear hb); (try clear hb2); (try clear hk); (try clear hi); (try clear ho0); obtain ⟨Ao7, co7, eo7⟩ := Kd.R_slice HO365.out; subst eo7))
 go_loopg [7, 16] k (fun kq v7 v16 w' => ∃ (x7_1 : List (List Int)) (x16_1 : Int), v16 = .int .i64 x16_1 ∧ Aside0 (spec_Proof.l0 kq l1 x7_1 t363 (t363.length : Int) x16_1 a0_0 a0_1 a0_2 a0_3 a0_4 a0_5 = some r) ∧ Aside0 (kq ≤ k) ∧ Aside0 (Kd.V (Kd.slice 5 (Kd.int .u8)) 27 w' w.heap.size (fun k_ => (P1_ k_ ∨ w.heap.size ≤ k_) ∧ some k_ ≠ (v7 : Value).ownBlock ∧ some k_ ≠ ((.slice Ao7 t363.length co7) : Value).ownBlock ∧ k_ ≠ gb362) (.slice A1 l1.length c1) l1) ∧ Aside0 (Kd.N (Kd.slice 5 (Kd.int .u8)) 27 w' w.heap.size (fun k_ => (P1_ k_ ∨ w.heap.size ≤ k_) ∧ some k_ ≠ ((.slice Ao7 t363.length co7) : Value).ownBlock ∧ k_ ≠ gb362) v7 x7_1) ∧ Aside0 (Kd.R k57 57 w' w.heap.size (fun k_ => (w.heap.size ≤ k_)) (.slice Ao7 t363.length co7) t363) ∧ Aside0 (w'.heap[gb362]? = some (.cells #[.int .i64 a0_0, .int .i64 a0_1, .int .i64 a0_2, .int .u64 a0_3, .int .u64 a0_4, .int .u64 a0_5] 24 (0, 0))) ∧ Aside0 (Below w.heap.size w w'))
 case atStart => exact ⟨(([] : List (List Int))), (0), (by first | rfl | (simp; done) | (simp [*]; done)), H', ⟨Nat.le_refl _⟩, ⟨by (with_reducible repeat (first | apply Kd.V_alloc | apply Kd.V_drewN | apply Kd.V_drew)); exact Kd.V_mono HO1.out (fun _ hk => ⟨hk.1.1, ⟨(by simp [Value.ownBlock]), ⟨hk.2, hk.1.2⟩⟩⟩)⟩, ⟨by first | exact Kd.S_nil _ _ _ _ _ | exact Kd.N_nil _ _ _ _ _ | exact Kd.V_nil _ _ _ _ _ | exact Kd.Q_nil _ _ _ _ _ | exact Kd.R_nil _ _ _ _ _⟩, ⟨by (with_reducible repeat (first | apply Kd.R_alloc | apply Kd.R_drewN | apply Kd.R_drew)); exact Kd.R_mono HO365.out (fun _ hk => hk.1)⟩, ⟨by (with_reducible repeat (first | refine blk_drewN ?_ _ | refine blk_drew ?_ | refine blk_alloc ?_ _)); exact BK362.out⟩, ⟨bB⟩⟩
 case round =>
  clear H'
  try clear c1
  try clear p2
  try clear c3
  try clear c5
  obtain ⟨x7_1, x16_1, rfl, HA, HK1, HO_1, HO_7, HO_14, BK362, HB⟩ := hrel
  cases gk with
  | zero => exact absurd HA.out (by simp [spec_Proof.l0])
  | succ k1 =>
   have H := HA.out
   clear HA
   simp only [spec_Proof.l0] at H
   by_cases c8 : x16_1 < (t363.length : Int)
   ·rw [if_pos c8] at H
    have c8b0 : decide (x16_1 < (t363.length : Int)) = true := decide_eq_true c8
    clear c8
    by_cases c9 : 0 ≤ x16_1
    ·rw [if_pos c9] at H
     have c9b0 : decide (0 ≤ x16_1) = true := decide_eq_true c9
     clear c9
     by_cases c10 : x16_1 < (t363.length : Int)
     ·rw [if_pos c10] at H
      have c10b0 : decide (x16_1 < (t363.length : Int)) = true := decide_eq_true c10
      clear c10
      replace H := Option.bind_eq_some_iff.mp H
      obtain ⟨t368, A110, H⟩ := H
      replace H : (if x7_1.length < 5864062014805 then (spec_Proof.l0 k1 l1 (x7_1 ++ [t368]) t363 (t363.length : Int) (wrap64 (x16_1 + 1)) a0_0 a0_1 a0_2 a0_3 a0_4 a0_5) else (none)) = some r := H
      have A11 := Aside0.mk A110
      clear A110
      by_cases c12 : x7_1.length < 5864062014805
      ·rw [if_pos c12] at H
       have LMc12 := Aside0.mk c12
       clear c12
       obtain ⟨y371, hy371⟩ : ∃ y_ : List (List Int), y_ = (x7_1 ++ [t368]) := ⟨_, rfl⟩
       replace H : (spec_Proof.l0 k1 l1 y371 t363 (t363.length : Int) (wrap64 (x16_1 + 1)) a0_0 a0_1 a0_2 a0_3 a0_4 a0_5) = some r := by first | (rw [hy371]; with_reducible exact H) | (have H2_ := (Option.bind_some _ _).symm.trans H; rw [hy371]; with_reducible exact H2_) | (have H2_ := (Option.bind_some _ _).symm.trans H; with_reducible exact H2_) | with_reducible exact H | (rw [hy371]; exact H) | exact H
       have Ny371 := Aside0.mk hy371
       clear hy371
       have H' := Aside0.mk H
       clear H
       have p366 : 0 ≤ (x16_1 : Int) := dA
       have q366 : x16_1 < (t363.length : Int) := dA
       obtain ⟨ad366, e366, hx366_0, hx366_1⟩ := at_T57 (Kd.R_reads' HO_14.out).2.2 x16_1 p366 q366
       cases e366
       replace p366 := eq_true p366
       replace q366 := eq_true q366
       go_wp2_with (first | ((with_reducible refine gate_dst (N := 9) rfl ?_); refine box_event ?hg (N := 9) ?hd (cs := #[.int .u64 0, .int .u64 0]) (t := 57) ?hr ?_; (case hd => rfl); (case hg => rfl); (case hr => first | (go_simp; done) | (go_simp; rfl)); intro gb367 hg w13 hbox hb; have n0_ := Aside0.mk (Kd.V_below (Kd.V_elderB (kV HO_1.out) gb367 (Nat.le_of_eq hg.symm)) hb); have n1_ := Aside0.mk (Kd.N_below (Kd.N_elderB (by (with_reducible repeat (first | apply Kd.N_alloc | apply Kd.N_drewN | apply Kd.N_drew)); exact HO_7.out) gb367 (Nat.le_of_eq hg.symm)) hb); have n2_ := Aside0.mk (Kd.R_below (Kd.R_elderB (kR HO_14.out) gb367 (Nat.le_of_eq hg.symm)) hb); have n3_ := Aside0.mk (blk_below (g := gb362) (o := .cells #[.int .i64 a0_0, .int .i64 a0_1, .int .i64 a0_2, .int .u64 a0_3, .int .u64 a0_4, .int .u64 a0_5] 24 (0, 0)) (kB BK362.out) hb); have n4_ := Aside0.mk (below_step bB hb); have n5_ := Aside0.mk (hbox); have n6_ := Aside0.mk ((by rw [hg]; exact (below_size bB) : w.heap.size ≤ gb367)); have n7_ := Aside0.mk ((by rw [hg]; exact (below_size bB) : w.heap.size ≤ gb367)); have n8_ := Aside0.mk ((by rw [hg]; exact Nat.ne_of_lt (blk_lt (g := gb362) (o := .cells #[.int .i64 a0_0, .int .i64 a0_1, .int .i64 a0_2, .int .u64 a0_3, .int .u64 a0_4, .int .u64 a0_5] 24 (0, 0)) (kB BK362.out)) : gb362 ≠ gb367)); have n9_ := Aside0.mk ((by rw [hg]; exact Nat.ne_of_gt (blk_lt (g := gb362) (o := .cells #[.int .i64 a0_0, .int .i64 a0_1, .int .i64 a0_2, .int .u64 a0_3, .int .u64 a0_4, .int .u64 a0_5] 24 (0, 0)) (kB BK362.out)) : gb367 ≠ gb362)); clear HO_1; clear HO_7; clear HO_14; clear BK362; clear HB; have HO_1 := n0_; have HO_7 := n1_; have HO_14 := n2_; have BK362 := n3_; have HB := n4_; have BK367 := n5_; have GW367 := n6_; have GE367 := n7_; have NB362_367 := n8_; have NB367_362 := n9_; clear n0_ n1_ n2_ n3_ n4_ n5_ n6_ n7_ n8_ n9_; clear hb hbox hg; have hnb14 := NB367_362.out; have hnc14 := NB362_367.out; have hcz15_0 : w13.cell? ⟨gb367, 0, none⟩ = some (.int .u64 0) := (blk_cell BK367.out 0).trans rfl; have hcz15_1 : w13.cell? ⟨gb367, 1, none⟩ = some (.int .u64 0) := (blk_cell BK367.out 1).trans rfl; have hfz15_0 := blk_frozen BK367.out 0; have hfz15_1 := blk_frozen BK367.out 1) | ((with_reducible refine gate_store (t := 57) (p := 9) rfl ?_); refine store_event (t := 57) (p := 9) (v := ?vo_w16) (w1 := ((w13.setCell ⟨gb367, 0, none⟩ (.int .u64 ((rd_T57 t363 x16_1).f0))).setCell ⟨gb367, 1, none⟩ (.int .u64 ((rd_T57 t363 x16_1).f1)))) ?hg ?ho ?hn ?hr ?_; (case ho => rfl); (case hg => rfl); (case hn => rfl); (case hr => first | (go_simp; done) | (go_simp; rfl)); intro w16 hw; have n0_ : Aside0 (Kd.V (Kd.slice 5 (Kd.int .u8)) 27 w16 w.heap.size (fun k_ => (P1_ k_ ∨ w.heap.size ≤ k_) ∧ some k_ ≠ (u7 : Value).ownBlock ∧ some k_ ≠ (.slice (some ad366) t363.length co7 : Value).ownBlock ∧ k_ ≠ gb362 ∧ k_ ≠ gb367) (.slice A1 l1.length c1) l1) := ⟨(by rw [hw]; exact (by (with_reducible repeat (first | apply Kd.V_alloc | apply Kd.V_drewN | apply Kd.V_drew)); exact Kd.V_mono (Kd.V_far (p := ⟨gb367, 1, none⟩) (Kd.V_far (p := ⟨gb367, 0, none⟩) (Kd.V_mono HO_1.out (fun k_ hk => (⟨hk, hk.2⟩ : _ ∧ k_ ≠ gb367))) (fun _ hk => hk.2) (.int .u64 ((rd_T57 t363 x16_1).f0))) (fun _ hk => hk.2) (.int .u64 ((rd_T57 t363 x16_1).f1))) (fun _ hk => ⟨hk.1.1.1, ⟨hk.1.1.2.1, ⟨hk.1.1.2.2.1, ⟨hk.1.1.2.2.2, hk.1.2⟩⟩⟩⟩)))⟩; have n1_ : Aside0 (Kd.N (Kd.slice 5 (Kd.int .u8)) 27 w16 w.heap.size (fun k_ => (P1_ k_ ∨ w.heap.size ≤ k_) ∧ some k_ ≠ (.slice (some ad366) t363.length co7 : Value).ownBlock ∧ k_ ≠ gb362 ∧ k_ ≠ gb367) u7 x7_1) := ⟨(by rw [hw]; exact (by (with_reducible repeat (first | apply Kd.N_alloc | apply Kd.N_drewN | apply Kd.N_drew)); exact Kd.N_mono (Kd.N_far (p := ⟨gb367, 1, none⟩) (Kd.N_far (p := ⟨gb367, 0, none⟩) (Kd.N_mono HO_7.out (fun k_ hk => (⟨hk, hk.2⟩ : _ ∧ k_ ≠ gb367))) (fun _ hk => hk.2) (.int .u64 ((rd_T57 t363 x16_1).f0))) (fun _ hk => hk.2) (.int .u64 ((rd_T57 t363 x16_1).f1))) (fun _ hk => ⟨hk.1.1.1, ⟨hk.1.1.2.1, ⟨hk.1.1.2.2, hk.1.2⟩⟩⟩)))⟩; have n2_ : Aside0 (Kd.R k57 57 w16 w.heap.size (fun k_ => (w.heap.size ≤ k_) ∧ k_ ≠ gb367) (.slice (some ad366) t363.length co7) t363) := ⟨(by rw [hw]; exact (by (with_reducible repeat (first | apply Kd.R_alloc | apply Kd.R_drewN | apply Kd.R_drew)); exact Kd.R_mono (Kd.R_far (p := ⟨gb367, 1, none⟩) (Kd.R_far (p := ⟨gb367, 0, none⟩) (Kd.R_mono HO_14.out (fun k_ hk => (⟨hk, hk.2⟩ : _ ∧ k_ ≠ gb367))) (fun _ hk => hk.2) (.int .u64 ((rd_T57 t363 x16_1).f0))) (fun _ hk => hk.2) (.int .u64 ((rd_T57 t363 x16_1).f1))) (fun _ hk => ⟨hk.1.1, hk.1.2⟩)))⟩; have n3_ : Aside0 (w16.heap[gb362]? = some (.cells #[.int .i64 a0_0, .int .i64 a0_1, .int .i64 a0_2, .int .u64 a0_3, .int .u64 a0_4, .int .u64 a0_5] 24 (0, 0))) := ⟨(by rw [hw]; exact (by (with_reducible repeat (first | refine blk_drewN ?_ _ | refine blk_drew ?_ | refine blk_alloc ?_ _)); refine blk_far ?_ NB362_367.out _; (with_reducible repeat (first | refine blk_drewN ?_ _ | refine blk_drew ?_ | refine blk_alloc ?_ _)); refine blk_far ?_ NB362_367.out _; (with_reducible repeat (first | refine blk_drewN ?_ _ | refine blk_drew ?_ | refine blk_alloc ?_ _)); exact BK362.out))⟩; have n4_ : Aside0 (w16.heap[gb367]? = some (.cells #[.int .u64 ((rd_T57 t363 x16_1).f0), .int .u64 ((rd_T57 t363 x16_1).f1)] 57 (0, 0))) := ⟨(by rw [hw]; exact (by (with_reducible repeat (first | refine blk_drewN ?_ _ | refine blk_drew ?_ | refine blk_alloc ?_ _)); refine blk_put (cs := #[.int .u64 ((rd_T57 t363 x16_1).f0), .int .u64 0]) ?_ 1 _ rfl; (with_reducible repeat (first | refine blk_drewN ?_ _ | refine blk_drew ?_ | refine blk_alloc ?_ _)); refine blk_put (cs := #[.int .u64 0, .int .u64 0]) ?_ 0 _ rfl; (with_reducible repeat (first | refine blk_drewN ?_ _ | refine blk_drew ?_ | refine blk_alloc ?_ _)); exact BK367.out))⟩; have n5_ : Aside0 (Below w.heap.size w w16) := ⟨(by rw [hw]; exact bB)⟩; clear hw; clear HO_1; clear HO_7; clear HO_14; clear BK362; clear BK367; clear HB; have HO_1 := n0_; have HO_7 := n1_; have HO_14 := n2_; have BK362 := n3_; have BK367 := n4_; have HB := n5_; clear n0_ n1_ n2_ n3_ n4_ n5_; have hcz17_0 : w16.cell? ⟨gb362, 0, none⟩ = some (.int .i64 a0_0) := (blk_cell BK362.out 0).trans rfl; have hcz17_1 : w16.cell? ⟨gb362, 1, none⟩ = some (.int .i64 a0_1) := (blk_cell BK362.out 1).trans rfl; have hcz17_2 : w16.cell? ⟨gb362, 2, none⟩ = some (.int .i64 a0_2) := (blk_cell BK362.out 2).trans rfl; have hcz17_3 : w16.cell? ⟨gb362, 3, none⟩ = some (.int .u64 a0_3) := (blk_cell BK362.out 3).trans rfl; have hcz17_4 : w16.cell? ⟨gb362, 4, none⟩ = some (.int .u64 a0_4) := (blk_cell BK362.out 4).trans rfl; have hcz17_5 : w16.cell? ⟨gb362, 5, none⟩ = some (.int .u64 a0_5) := (blk_cell BK362.out 5).trans rfl; have hfz17_0 := blk_frozen BK362.out 0; have hfz17_1 := blk_frozen BK362.out 1; have hfz17_2 := blk_frozen BK362.out 2; have hfz17_3 := blk_frozen BK362.out 3; have hfz17_4 := blk_frozen BK362.out 4; have hfz17_5 := blk_frozen BK362.out 5; have hcz18_0 : w16.cell? ⟨gb367, 0, none⟩ = some (.int .u64 ((rd_T57 t363 x16_1).f0)) := (blk_cell BK367.out 0).trans rfl; have hcz18_1 : w16.cell? ⟨gb367, 1, none⟩ = some (.int .u64 ((rd_T57 t363 x16_1).f1)) := (blk_cell BK367.out 1).trans rfl; have hfz18_0 := blk_frozen BK367.out 0; have hfz18_1 := blk_frozen BK367.out 1) | ((with_reducible refine gate_callee (f := 31) rfl ?_); refine goesL_ (some 24) rfl rfl Tryd.func31 (by kernel_rfl) rfl #[.agg #[.int .i64 a0_0, .int .i64 a0_1, .int .i64 a0_2, .int .u64 a0_3, .int .u64 a0_4, .int .u64 a0_5], .slice A1 l1.length c1, .agg #[.int .u64 ((rd_T57 t363 x16_1).f0), .int .u64 ((rd_T57 t363 x16_1).f1)]] rfl aV ?_; (with_reducible refine (spec_RootOf.calls k1 a0_0 a0_1 a0_2 a0_3 a0_4 a0_5 (fun k_ => ((P1_ k_ ∨ w.heap.size ≤ k_) ∧ (some k_ ≠ (u7 : Value).ownBlock ∧ (some k_ ≠ (.slice (some ad366) t363.length co7 : Value).ownBlock ∧ (k_ ≠ gb362 ∧ k_ ≠ gb367))))) _ _ l1 ((rd_T57 t363 x16_1).f0) ((rd_T57 t363 x16_1).f1) t368 _ ?side1 A11.out).mono ?_); (case side1 => first | exact HO_1.out | exact Kd.V_mono HO_1.out (fun k_ h_ => by simp only [and_assoc] at h_ ⊢; exact h_)); rintro e w19 ⟨v369, rfl, ho0, hb⟩; refine ⟨_, rfl, ?_⟩; have n0_ := Aside0.mk (Kd.V_below (kV HO_1.out) hb); have n1_ := Aside0.mk (Kd.N_below (by (with_reducible repeat (first | apply Kd.N_alloc | apply Kd.N_drewN | apply Kd.N_drew)); exact HO_7.out) hb); have n2_ := Aside0.mk (Kd.R_below (kR HO_14.out) hb); have n3_ := Aside0.mk (Kd.V_lower (Kd.V_mono (ok' := fun k_ => (P1_ k_ ∨ w.heap.size ≤ k_) ∧ some k_ ≠ (u7 : Value).ownBlock ∧ some k_ ≠ (.slice (some ad366) t363.length co7 : Value).ownBlock ∧ k_ ≠ gb362 ∧ k_ ≠ gb367) ho0 (fun k_ hk_ => ⟨Or.elim hk_ (fun hs_ => hs_.1) (fun hn_ => (.inr (Nat.le_trans (below_size bB) hn_))), Or.elim hk_ (fun hs_ => hs_.2.1) (fun hn_ => (Kd.fresh' (Kd.N_lt (by (with_reducible repeat (first | apply Kd.N_alloc | apply Kd.N_drewN | apply Kd.N_drew)); exact HO_7.out)) k_ hn_)), Or.elim hk_ (fun hs_ => hs_.2.2.1) (fun hn_ => (Kd.fresh' (Kd.R_lt (kR HO_14.out)) k_ hn_)), Or.elim hk_ (fun hs_ => hs_.2.2.2.1) (fun hn_ => (Kd.freshB (g := gb362) (o := .cells #[.int .i64 a0_0, .int .i64 a0_1, .int .i64 a0_2, .int .u64 a0_3, .int .u64 a0_4, .int .u64 a0_5] 24 (0, 0)) (kB BK362.out) k_ hn_)), Or.elim hk_ (fun hs_ => hs_.2.2.2.2) (fun hn_ => (Kd.freshB (g := gb367) (o := .cells #[.int .u64 ((rd_T57 t363 x16_1).f0), .int .u64 ((rd_T57 t363 x16_1).f1)] 57 (0, 0)) (kB BK367.out) k_ hn_))⟩)) (below_size bB)); have n4_ := Aside0.mk (blk_below (g := gb362) (o := .cells #[.int .i64 a0_0, .int .i64 a0_1, .int .i64 a0_2, .int .u64 a0_3, .int .u64 a0_4, .int .u64 a0_5] 24 (0, 0)) (kB BK362.out) hb); have n5_ := Aside0.mk (blk_below (g := gb367) (o := .cells #[.int .u64 ((rd_T57 t363 x16_1).f0), .int .u64 ((rd_T57 t363 x16_1).f1)] 57 (0, 0)) (kB BK367.out) hb); have n6_ := Aside0.mk (below_step bB hb); clear HO_1; clear HO_7; clear HO_14; clear BK362; clear BK367; clear HB; have HO_1 := n0_; have HO_7 := n1_; have HO_14 := n2_; have HO370 := n3_; have BK362 := n4_; have BK367 := n5_; have HB := n6_; clear n0_ n1_ n2_ n3_ n4_ n5_ n6_; (try clear hb); (try clear hb2); (try clear hk); (try clear hi); (try clear ho0); obtain ⟨Ao21, co21, eo21⟩ := Kd.V_slice HO370.out; subst eo21) | ((with_reducible refine gate_builtin (b := .append) (xs := #[.tmp 20, .tmp 25]) rfl ?_); at_builtin; refine Kd.N_append (Kd.slice 5 (Kd.int .u8)) (w0 := w) w.heap.size rfl (.tmp 20) (.tmp 25) 25 27 (.slice none 0 0) 24 rfl Tryd.underlying25 info27 rfl (by decide) (by omega) u7 x7_1 t368 [.slice Ao21 t368.length co21] (fun k_ => (P1_ k_ ∨ w.heap.size ≤ k_) ∧ some k_ ≠ (.slice (some ad366) t363.length co7 : Value).ownBlock ∧ k_ ≠ gb362 ∧ k_ ≠ gb367) (fun k_ => ((fun k_ => (P1_ k_ ∨ w.heap.size ≤ k_) ∧ some k_ ≠ (.slice (some ad366) t363.length co7 : Value).ownBlock ∧ k_ ≠ gb362 ∧ k_ ≠ gb367)) k_ ∧ some k_ ≠ (u7 : Value).ownBlock) rfl rfl ?aP (fun _ hk => hk) ?aF ?aO ?aB ?aS ?aL ?_; (case aP => exact (Kd.FK_slice_mk (Kd.V_reads' (Kd.V_mono (ok' := (fun k_ => ((fun k_ => (P1_ k_ ∨ w.heap.size ≤ k_) ∧ some k_ ≠ (.slice (some ad366) t363.length co7 : Value).ownBlock ∧ k_ ≠ gb362 ∧ k_ ≠ gb367)) k_ ∧ some k_ ≠ (u7 : Value).ownBlock)) (HO370.out) (fun k_ hk => ⟨⟨hk.1, ⟨hk.2.2.1, ⟨hk.2.2.2.1, hk.2.2.2.2⟩⟩⟩, hk.2.1⟩))).2.1 (Kd.V_F (Kd.V_mono (ok' := (fun k_ => ((fun k_ => (P1_ k_ ∨ w.heap.size ≤ k_) ∧ some k_ ≠ (.slice (some ad366) t363.length co7 : Value).ownBlock ∧ k_ ≠ gb362 ∧ k_ ≠ gb367)) k_ ∧ some k_ ≠ (u7 : Value).ownBlock)) (HO370.out) (fun k_ hk => ⟨⟨hk.1, ⟨hk.2.2.1, ⟨hk.2.2.2.1, hk.2.2.2.2⟩⟩⟩, hk.2.1⟩))))); (case aB => exact bB); (case aF => exact (fun k_ hk => ⟨(.inr (Nat.le_trans (below_size bB) hk)), Kd.fresh' (Kd.R_lt (kR HO_14.out)) k_ hk, Kd.freshB (g := gb362) (o := .cells #[.int .i64 a0_0, .int .i64 a0_1, .int .i64 a0_2, .int .u64 a0_3, .int .u64 a0_4, .int .u64 a0_5] 24 (0, 0)) (kB BK362.out) k_ hk, Kd.freshB (g := gb367) (o := .cells #[.int .u64 ((rd_T57 t363 x16_1).f0), .int .u64 ((rd_T57 t363 x16_1).f1)] 57 (0, 0)) (kB BK367.out) k_ hk⟩)); (case aO => exact (by (with_reducible repeat (first | apply Kd.N_alloc | apply Kd.N_drewN | apply Kd.N_drew)); exact HO_7.out)); (case aS => exact (below_size bB)); (case aL => have := LMc12.out; omega); intro v372 w20 ho hb hg hat; rw [← Ny371.out] at ho; have n0_ := Aside0.mk (Kd.V_afterv (ok := (fun k_ => (P1_ k_ ∨ w.heap.size ≤ k_) ∧ some k_ ≠ (.slice (some ad366) t363.length co7 : Value).ownBlock ∧ k_ ≠ gb362 ∧ k_ ≠ gb367)) (by (with_reducible repeat (first | apply Kd.V_alloc | apply Kd.V_drewN | apply Kd.V_drew)); exact Kd.V_mono HO_1.out (fun _ hk => ⟨⟨hk.1, ⟨hk.2.2.1, ⟨hk.2.2.2.1, hk.2.2.2.2⟩⟩⟩, hk.2.1⟩)) hg hat); have n1_ := Aside0.mk (Kd.R_over' (kR HO_14.out) (Kd.N_typed (by (with_reducible repeat (first | apply Kd.N_alloc | apply Kd.N_drewN | apply Kd.N_drew)); exact HO_7.out)) (by decide) hg); have n2_ := Aside0.mk (blk_grown (g := gb362) (o := .cells #[.int .i64 a0_0, .int .i64 a0_1, .int .i64 a0_2, .int .u64 a0_3, .int .u64 a0_4, .int .u64 a0_5] 24 (0, 0)) (kB BK362.out) hg (Kd.N_ne HO_7.out BK362.out (by decide))); have n3_ := Aside0.mk (blk_grown (g := gb367) (o := .cells #[.int .u64 ((rd_T57 t363 x16_1).f0), .int .u64 ((rd_T57 t363 x16_1).f1)] 57 (0, 0)) (kB BK367.out) hg (Kd.N_ne HO_7.out BK367.out (by decide))); have n4_ := Aside0.mk (Kd.V_afterv (ok := (fun k_ => (P1_ k_ ∨ w.heap.size ≤ k_) ∧ some k_ ≠ (.slice (some ad366) t363.length co7 : Value).ownBlock ∧ k_ ≠ gb362 ∧ k_ ≠ gb367)) (by (with_reducible repeat (first | apply Kd.V_alloc | apply Kd.V_drewN | apply Kd.V_drew)); exact Kd.V_mono HO370.out (fun _ hk => ⟨⟨hk.1, ⟨hk.2.2.1, ⟨hk.2.2.2.1, hk.2.2.2.2⟩⟩⟩, hk.2.1⟩)) hg hat); have n5_ := Aside0.mk (hb); have n6_ := Aside0.mk (ho); clear HO_1; clear HO_14; clear BK362; clear BK367; clear HO370; clear HB; clear HO_7; have HO_1 := n0_; have HO_14 := n1_; have BK362 := n2_; have BK367 := n3_; have HO370 := n4_; have HB := n5_; have HO373 := n6_; clear n0_ n1_ n2_ n3_ n4_ n5_ n6_; clear ho hb hg hat))
       go_roundg k1
       case measure => have := HK1.out; omega
       case rel => exact ⟨(y371), (wrap64 (x16_1 + 1)), (by first | rfl | (simp; done) | (simp [*]; done)), H', ⟨by have := HK1.out; omega⟩, ⟨by (with_reducible repeat (first | apply Kd.V_alloc | apply Kd.V_drewN | apply Kd.V_drew)); exact Kd.V_mono HO_1.out (fun _ hk => ⟨hk.1.1, ⟨hk.2, ⟨hk.1.2.1, hk.1.2.2.1⟩⟩⟩)⟩, ⟨by (with_reducible repeat (first | apply Kd.N_alloc | apply Kd.N_drewN | apply Kd.N_drew)); exact Kd.N_mono HO373.out (fun _ hk => ⟨hk.1, ⟨hk.2.1, hk.2.2.1⟩⟩)⟩, ⟨by (with_reducible repeat (first | apply Kd.R_alloc | apply Kd.R_drewN | apply Kd.R_drew)); exact Kd.R_mono HO_14.out (fun _ hk => hk.1)⟩, ⟨by (with_reducible repeat (first | refine blk_drewN ?_ _ | refine blk_drew ?_ | refine blk_alloc ?_ _)); exact BK362.out⟩, ⟨bB⟩⟩
      ·rw [if_neg c12] at H
       exact absurd H (by simp)
     ·rw [if_neg c10] at H
      exact absurd H (by simp)
    ·rw [if_neg c9] at H
     exact absurd H (by simp)
   ·rw [if_neg c8] at H
    have c8b0 : decide (x16_1 < (t363.length : Int)) = false := decide_eq_false c8
    clear c8
    obtain rfl := Option.some.inj H
    go_wp2
    go_ret
    exact ⟨_, by first | rfl | (simp [errW_none, errW_some] <;> rfl) | (simp [*, errW_none, errW_some] <;> rfl), by (with_reducible repeat (first | apply Kd.N_alloc | apply Kd.N_drewN | apply Kd.N_drew)); exact Kd.N_mono HO_7.out (fun _ hk => hk.1), bB⟩

end Go.Proofs.YtkmdkmlgahfcpaaDoor.M

