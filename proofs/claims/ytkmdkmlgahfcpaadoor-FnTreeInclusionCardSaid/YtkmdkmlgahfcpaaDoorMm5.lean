-- Written by a program of ours (wip/xp) out of the translation; Lean checks it.
import Derived.Test.YtkmdkmlgahfcpaaDoorSq
import Derived.Test.YtkmdkmlgahfcpaaDoorMm1
import Derived.Test.YtkmdkmlgahfcpaaDoorMm3
import Derived.Test.YtkmdkmlgahfcpaaDoorMm4
namespace Go.Proofs.YtkmdkmlgahfcpaaDoor.M
open Go.RowKit Go.Proofs.YtkmdkmlgahfcpaaDoorW.PrintWords Go.Proofs.YtkmdkmlgahfcpaaDoorW.PrintLast Go.Proofs.YtkmdkmlgahfcpaaDoorW.PrintMore
attribute [local go_sem] max2_int min2_int max_two min_two max_three min_three max_four min_four   -- for this text's walks alone
set_option linter.unusedVariables false
set_option linter.unusedSimpArgs false

/-! ### spec_Path: function 33 -/
def spec_Path.l0 : Nat → List (List Int) → List (List Int) → List (S57) → Int → Int → Int → Int → Int → Int → Int → Int → Option ((List (List Int)))
 | 0, _, _, _, _, _, _, _, _, _, _, _ => none
 | k + 1, x1, x7, x14, x15, x16, x213000, x213001, x213002, x213003, x213004, x213005 => if x16 < x15 then (if 0 ≤ x16 then (if x16 < (x14.length : Int) then ((spec_RootOf.f k x213000 x213001 x213002 x213003 x213004 x213005 x1 ((rd_T57 x14 x16).f0) ((rd_T57 x14 x16).f1)).bind fun t218 => (if x7.length < 5864062014805 then (spec_Path.l0 k x1 (x7 ++ [t218]) x14 x15 (wrap64 (x16 + 1)) x213000 x213001 x213002 x213003 x213004 x213005) else (none))) else (none)) else (none)) else (some x7)
def spec_Path.f (k : Nat) (a0_0 : Int) (a0_1 : Int) (a0_2 : Int) (a0_3 : Int) (a0_4 : Int) (a0_5 : Int) (l1 : List (List Int)) (a2 : Int) : Option ((List (List Int))) := (spec_PathParts.f k a2 (IntKind.u64.wrap ((l1.length : Int)))).bind fun t213 => (spec_Path.l0 k l1 ([] : List (List Int)) t213 (t213.length : Int) 0 a0_0 a0_1 a0_2 a0_3 a0_4 a0_5)
theorem spec_Path.mono_l : ∀ k, (∀ y0 y1 y2 y3 y4 y5 y6 y7 y8 y9 y10, LeO (spec_Path.l0 k y0 y1 y2 y3 y4 y5 y6 y7 y8 y9 y10) (spec_Path.l0 (k + 1) y0 y1 y2 y3 y4 y5 y6 y7 y8 y9 y10))
 | 0 => fun _ _ _ _ _ _ _ _ _ _ _ r h => by simp [spec_Path.l0] at h
 | k + 1 => by
  have ih0 := spec_Path.mono_l k
  ·intro y0 y1 y2 y3 y4 y5 y6 y7 y8 y9 y10
   unfold spec_Path.l0
   repeat' first
   | (with_reducible exact ih0 _ _ _ _ _ _ _ _ _ _ _)
   | (with_reducible exact spec_PathParts.mono _ _ _)
   | (with_reducible exact spec_RootOf.mono _ _ _ _ _ _ _ _ _ _)
   | (with_reducible exact LeO.refl _)
   | (with_reducible exact LeO.none _)
   | (with_reducible refine LeO.ite ?_ ?_)
   | (with_reducible refine LeO.bind ?_ (fun _ => ?_))
   | exact ih0 _ _ _ _ _ _ _ _ _ _ _
   | exact spec_PathParts.mono _ _ _
   | exact spec_RootOf.mono _ _ _ _ _ _ _ _ _ _
   | exact LeO.none _
   | refine LeO.ite ?_ ?_
   | refine LeO.bind ?_ (fun _ => ?_)
theorem spec_Path.mono : ∀ a0 a1 a2 a3 a4 a5 a6 a7 k, LeO (spec_Path.f k a0 a1 a2 a3 a4 a5 a6 a7) (spec_Path.f (k + 1) a0 a1 a2 a3 a4 a5 a6 a7) := by
 intro a0 a1 a2 a3 a4 a5 a6 a7 k
 have ih0 := spec_Path.mono_l k
 unfold spec_Path.f
 repeat' first
   | (with_reducible exact ih0 _ _ _ _ _ _ _ _ _ _ _)
   | (with_reducible exact spec_PathParts.mono _ _ _)
   | (with_reducible exact spec_RootOf.mono _ _ _ _ _ _ _ _ _ _)
   | (with_reducible exact LeO.refl _)
   | (with_reducible exact LeO.none _)
   | (with_reducible refine LeO.ite ?_ ?_)
   | (with_reducible refine LeO.bind ?_ (fun _ => ?_))
   | exact ih0 _ _ _ _ _ _ _ _ _ _ _
   | exact spec_PathParts.mono _ _ _
   | exact spec_RootOf.mono _ _ _ _ _ _ _ _ _ _
   | exact LeO.none _
   | refine LeO.ite ?_ ?_
   | refine LeO.bind ?_ (fun _ => ?_)
set_option maxHeartbeats 8000000 in
set_option maxRecDepth 100000 in
theorem spec_Path.calls (k : Nat) (a0_0 : Int) (a0_1 : Int) (a0_2 : Int) (a0_3 : Int) (a0_4 : Int) (a0_5 : Int) (P1_ : Nat → Prop) (A1 : Option Addr) (c1 : Nat) (l1 : List (List Int)) (a2 : Int) (r : List (List Int)) (w : World) (hs1 : Kd.V (Kd.slice 5 (Kd.int .u8)) 27 w w.heap.size (fun k_ => P1_ k_) (.slice A1 l1.length c1) l1) (h : spec_Path.f k a0_0 a0_1 a0_2 a0_3 a0_4 a0_5 l1 a2 = some r) :
  Calls Tryd.prog 33 #[.agg #[.int .i64 a0_0, .int .i64 a0_1, .int .i64 a0_2, .int .u64 a0_3, .int .u64 a0_4, .int .u64 a0_5], .slice A1 l1.length c1, .int .u64 a2] w fun e w' => ∃ v0_ : Value, e = .returned (v0_) ∧ Kd.N (Kd.slice 5 (Kd.int .u8)) 27 w' w.heap.size (fun k_ => (P1_ k_ ∨ w.heap.size ≤ k_)) v0_ r ∧ Below w.heap.size w w' := by
 have hu24 := Tryd.underlying24
 have hu57 := Tryd.underlying57
 have HO1 := Aside0.mk (show Kd.V (Kd.slice 5 (Kd.int .u8)) 27 w w.heap.size (fun k_ => (P1_ k_ ∨ w.heap.size ≤ k_)) (.slice A1 l1.length c1) l1 from Kd.V_mono hs1 (fun k_ hk => .inl hk))
 have HB := Aside0.mk (Below.refl w.heap.size w)
 have H : ((spec_PathParts.f k a2 (IntKind.u64.wrap ((l1.length : Int)))).bind fun t213 => (spec_Path.l0 k l1 ([] : List (List Int)) t213 (t213.length : Int) 0 a0_0 a0_1 a0_2 a0_3 a0_4 a0_5)) = some r := h
 clear h
 replace H := Option.bind_eq_some_iff.mp H
 obtain ⟨t213, A40, H⟩ := H
 replace H : (spec_Path.l0 k l1 ([] : List (List Int)) t213 (t213.length : Int) 0 a0_0 a0_1 a0_2 a0_3 a0_4 a0_5) = some r := H
 have A4 := Aside0.mk A40
 clear A40
 have H' := Aside0.mk H
 clear H
 go_enter Tryd.func33, Tryd.ntmps33
 go_wp2_with (first | ((with_reducible refine gate_dst (N := 3) rfl ?_); refine box_event ?hg (N := 3) ?hd (cs := #[.int .i64 a0_0, .int .i64 a0_1, .int .i64 a0_2, .int .u64 a0_3, .int .u64 a0_4, .int .u64 a0_5]) (t := 24) ?hr ?_; (case hd => rfl); (case hg => rfl); (case hr => first | (go_simp; done) | (go_simp; rfl)); intro gb212 hg w5 hbox hb; have n0_ := Aside0.mk (Kd.V_below (Kd.V_elderB (kV HO1.out) gb212 (Nat.le_of_eq hg.symm)) hb); have n1_ := Aside0.mk (below_step bB hb); have n2_ := Aside0.mk (hbox); have n3_ := Aside0.mk ((by rw [hg]; exact (below_size bB) : w.heap.size ≤ gb212)); have n4_ := Aside0.mk ((by rw [hg]; exact (below_size bB) : w.heap.size ≤ gb212)); clear HO1; clear HB; have HO1 := n0_; have HB := n1_; have BK212 := n2_; have GW212 := n3_; have GE212 := n4_; clear n0_ n1_ n2_ n3_ n4_; clear hb hbox hg) | ((with_reducible refine gate_callee (f := 68) rfl ?_); refine goesL_ (some 14) rfl rfl Tryd.func68 (by kernel_rfl) rfl #[.int .u64 a2, .int .u64 (IntKind.u64.wrap ((l1.length : Int)))] rfl aV ?_; (with_reducible refine (spec_PathParts.calls k a2 (IntKind.u64.wrap ((l1.length : Int))) t213 _ A4.out).mono ?_); rintro e w6 ⟨v214, rfl, ho0, hb⟩; refine ⟨_, rfl, ?_⟩; have n0_ := Aside0.mk (Kd.V_elder' (kV HO1.out) (Kd.R_base ho0) hb); have n1_ := Aside0.mk (Kd.R_lower (Kd.R_newM (M := fun k_ => (w.heap.size ≤ k_)) ho0 (below_size bB) (fun k_ h_ => h_)) (below_size bB)); have n2_ := Aside0.mk (blk_below (g := gb212) (o := .cells #[.int .i64 a0_0, .int .i64 a0_1, .int .i64 a0_2, .int .u64 a0_3, .int .u64 a0_4, .int .u64 a0_5] 24 (0, 0)) (kB BK212.out) hb); have n3_ := Aside0.mk (below_step bB hb); clear HO1; clear BK212; clear HB; have HO1 := n0_; have HO215 := n1_; have BK212 := n2_; have HB := n3_; clear n0_ n1_ n2_ n3_; (try clear hb); (try clear hb2); (try clear hk); (try clear hi); (try clear ho0); obtain ⟨Ao7, co7, eo7⟩ := Kd.R_slice HO215.out; subst eo7))
 go_loopg [7, 16] k (fun kq v7 v16 w' => ∃ (x7_1 : List (List Int)) (x16_1 : Int), v16 = .int .i64 x16_1 ∧ Aside0 (spec_Path.l0 kq l1 x7_1 t213 (t213.length : Int) x16_1 a0_0 a0_1 a0_2 a0_3 a0_4 a0_5 = some r) ∧ Aside0 (kq ≤ k) ∧ Aside0 (Kd.V (Kd.slice 5 (Kd.int .u8)) 27 w' w.heap.size (fun k_ => (P1_ k_ ∨ w.heap.size ≤ k_) ∧ some k_ ≠ (v7 : Value).ownBlock ∧ some k_ ≠ ((.slice Ao7 t213.length co7) : Value).ownBlock ∧ k_ ≠ gb212) (.slice A1 l1.length c1) l1) ∧ Aside0 (Kd.N (Kd.slice 5 (Kd.int .u8)) 27 w' w.heap.size (fun k_ => (P1_ k_ ∨ w.heap.size ≤ k_) ∧ some k_ ≠ ((.slice Ao7 t213.length co7) : Value).ownBlock ∧ k_ ≠ gb212) v7 x7_1) ∧ Aside0 (Kd.R k57 57 w' w.heap.size (fun k_ => (w.heap.size ≤ k_)) (.slice Ao7 t213.length co7) t213) ∧ Aside0 (w'.heap[gb212]? = some (.cells #[.int .i64 a0_0, .int .i64 a0_1, .int .i64 a0_2, .int .u64 a0_3, .int .u64 a0_4, .int .u64 a0_5] 24 (0, 0))) ∧ Aside0 (Below w.heap.size w w'))
 case atStart => exact ⟨(([] : List (List Int))), (0), (by first | rfl | (simp; done) | (simp [*]; done)), H', ⟨Nat.le_refl _⟩, ⟨by (with_reducible repeat (first | apply Kd.V_alloc | apply Kd.V_drewN | apply Kd.V_drew)); exact Kd.V_mono HO1.out (fun _ hk => ⟨hk.1.1, ⟨(by simp [Value.ownBlock]), ⟨hk.2, hk.1.2⟩⟩⟩)⟩, ⟨by first | exact Kd.S_nil _ _ _ _ _ | exact Kd.N_nil _ _ _ _ _ | exact Kd.V_nil _ _ _ _ _ | exact Kd.Q_nil _ _ _ _ _ | exact Kd.R_nil _ _ _ _ _⟩, ⟨by (with_reducible repeat (first | apply Kd.R_alloc | apply Kd.R_drewN | apply Kd.R_drew)); exact Kd.R_mono HO215.out (fun _ hk => hk.1)⟩, ⟨by (with_reducible repeat (first | refine blk_drewN ?_ _ | refine blk_drew ?_ | refine blk_alloc ?_ _)); exact BK212.out⟩, ⟨bB⟩⟩
 case round =>
  clear H'
  try clear c1
  try clear p2
  try clear c3
  try clear c6
  obtain ⟨x7_1, x16_1, rfl, HA, HK1, HO_1, HO_7, HO_14, BK212, HB⟩ := hrel
  cases gk with
  | zero => exact absurd HA.out (by simp [spec_Path.l0])
  | succ k1 =>
   have H := HA.out
   clear HA
   simp only [spec_Path.l0] at H
   by_cases c8 : x16_1 < (t213.length : Int)
   ·rw [if_pos c8] at H
    have c8b0 : decide (x16_1 < (t213.length : Int)) = true := decide_eq_true c8
    clear c8
    by_cases c9 : 0 ≤ x16_1
    ·rw [if_pos c9] at H
     have c9b0 : decide (0 ≤ x16_1) = true := decide_eq_true c9
     clear c9
     by_cases c10 : x16_1 < (t213.length : Int)
     ·rw [if_pos c10] at H
      have c10b0 : decide (x16_1 < (t213.length : Int)) = true := decide_eq_true c10
      clear c10
      replace H := Option.bind_eq_some_iff.mp H
      obtain ⟨t218, A110, H⟩ := H
      replace H : (if x7_1.length < 5864062014805 then (spec_Path.l0 k1 l1 (x7_1 ++ [t218]) t213 (t213.length : Int) (wrap64 (x16_1 + 1)) a0_0 a0_1 a0_2 a0_3 a0_4 a0_5) else (none)) = some r := H
      have A11 := Aside0.mk A110
      clear A110
      by_cases c12 : x7_1.length < 5864062014805
      ·rw [if_pos c12] at H
       have LMc12 := Aside0.mk c12
       clear c12
       obtain ⟨y221, hy221⟩ : ∃ y_ : List (List Int), y_ = (x7_1 ++ [t218]) := ⟨_, rfl⟩
       replace H : (spec_Path.l0 k1 l1 y221 t213 (t213.length : Int) (wrap64 (x16_1 + 1)) a0_0 a0_1 a0_2 a0_3 a0_4 a0_5) = some r := by first | (rw [hy221]; with_reducible exact H) | (have H2_ := (Option.bind_some _ _).symm.trans H; rw [hy221]; with_reducible exact H2_) | (have H2_ := (Option.bind_some _ _).symm.trans H; with_reducible exact H2_) | with_reducible exact H | (rw [hy221]; exact H) | exact H
       have Ny221 := Aside0.mk hy221
       clear hy221
       have H' := Aside0.mk H
       clear H
       have p216 : 0 ≤ (x16_1 : Int) := dA
       have q216 : x16_1 < (t213.length : Int) := dA
       obtain ⟨ad216, e216, hx216_0, hx216_1⟩ := at_T57 (Kd.R_reads' HO_14.out).2.2 x16_1 p216 q216
       cases e216
       replace p216 := eq_true p216
       replace q216 := eq_true q216
       go_wp2_with (first | ((with_reducible refine gate_dst (N := 9) rfl ?_); refine box_event ?hg (N := 9) ?hd (cs := #[.int .u64 0, .int .u64 0]) (t := 57) ?hr ?_; (case hd => rfl); (case hg => rfl); (case hr => first | (go_simp; done) | (go_simp; rfl)); intro gb217 hg w13 hbox hb; have n0_ := Aside0.mk (Kd.V_below (Kd.V_elderB (kV HO_1.out) gb217 (Nat.le_of_eq hg.symm)) hb); have n1_ := Aside0.mk (Kd.N_below (Kd.N_elderB (by (with_reducible repeat (first | apply Kd.N_alloc | apply Kd.N_drewN | apply Kd.N_drew)); exact HO_7.out) gb217 (Nat.le_of_eq hg.symm)) hb); have n2_ := Aside0.mk (Kd.R_below (Kd.R_elderB (kR HO_14.out) gb217 (Nat.le_of_eq hg.symm)) hb); have n3_ := Aside0.mk (blk_below (g := gb212) (o := .cells #[.int .i64 a0_0, .int .i64 a0_1, .int .i64 a0_2, .int .u64 a0_3, .int .u64 a0_4, .int .u64 a0_5] 24 (0, 0)) (kB BK212.out) hb); have n4_ := Aside0.mk (below_step bB hb); have n5_ := Aside0.mk (hbox); have n6_ := Aside0.mk ((by rw [hg]; exact (below_size bB) : w.heap.size ≤ gb217)); have n7_ := Aside0.mk ((by rw [hg]; exact (below_size bB) : w.heap.size ≤ gb217)); have n8_ := Aside0.mk ((by rw [hg]; exact Nat.ne_of_lt (blk_lt (g := gb212) (o := .cells #[.int .i64 a0_0, .int .i64 a0_1, .int .i64 a0_2, .int .u64 a0_3, .int .u64 a0_4, .int .u64 a0_5] 24 (0, 0)) (kB BK212.out)) : gb212 ≠ gb217)); have n9_ := Aside0.mk ((by rw [hg]; exact Nat.ne_of_gt (blk_lt (g := gb212) (o := .cells #[.int .i64 a0_0, .int .i64 a0_1, .int .i64 a0_2, .int .u64 a0_3, .int .u64 a0_4, .int .u64 a0_5] 24 (0, 0)) (kB BK212.out)) : gb217 ≠ gb212)); clear HO_1; clear HO_7; clear HO_14; clear BK212; clear HB; have HO_1 := n0_; have HO_7 := n1_; have HO_14 := n2_; have BK212 := n3_; have HB := n4_; have BK217 := n5_; have GW217 := n6_; have GE217 := n7_; have NB212_217 := n8_; have NB217_212 := n9_; clear n0_ n1_ n2_ n3_ n4_ n5_ n6_ n7_ n8_ n9_; clear hb hbox hg; have hnb14 := NB217_212.out; have hnc14 := NB212_217.out; have hcz15_0 : w13.cell? ⟨gb217, 0, none⟩ = some (.int .u64 0) := (blk_cell BK217.out 0).trans rfl; have hcz15_1 : w13.cell? ⟨gb217, 1, none⟩ = some (.int .u64 0) := (blk_cell BK217.out 1).trans rfl; have hfz15_0 := blk_frozen BK217.out 0; have hfz15_1 := blk_frozen BK217.out 1) | ((with_reducible refine gate_store (t := 57) (p := 9) rfl ?_); refine store_event (t := 57) (p := 9) (v := ?vo_w16) (w1 := ((w13.setCell ⟨gb217, 0, none⟩ (.int .u64 ((rd_T57 t213 x16_1).f0))).setCell ⟨gb217, 1, none⟩ (.int .u64 ((rd_T57 t213 x16_1).f1)))) ?hg ?ho ?hn ?hr ?_; (case ho => rfl); (case hg => rfl); (case hn => rfl); (case hr => first | (go_simp; done) | (go_simp; rfl)); intro w16 hw; have n0_ : Aside0 (Kd.V (Kd.slice 5 (Kd.int .u8)) 27 w16 w.heap.size (fun k_ => (P1_ k_ ∨ w.heap.size ≤ k_) ∧ some k_ ≠ (u7 : Value).ownBlock ∧ some k_ ≠ (.slice (some ad216) t213.length co7 : Value).ownBlock ∧ k_ ≠ gb212 ∧ k_ ≠ gb217) (.slice A1 l1.length c1) l1) := ⟨(by rw [hw]; exact (by (with_reducible repeat (first | apply Kd.V_alloc | apply Kd.V_drewN | apply Kd.V_drew)); exact Kd.V_mono (Kd.V_far (p := ⟨gb217, 1, none⟩) (Kd.V_far (p := ⟨gb217, 0, none⟩) (Kd.V_mono HO_1.out (fun k_ hk => (⟨hk, hk.2⟩ : _ ∧ k_ ≠ gb217))) (fun _ hk => hk.2) (.int .u64 ((rd_T57 t213 x16_1).f0))) (fun _ hk => hk.2) (.int .u64 ((rd_T57 t213 x16_1).f1))) (fun _ hk => ⟨hk.1.1.1, ⟨hk.1.1.2.1, ⟨hk.1.1.2.2.1, ⟨hk.1.1.2.2.2, hk.1.2⟩⟩⟩⟩)))⟩; have n1_ : Aside0 (Kd.N (Kd.slice 5 (Kd.int .u8)) 27 w16 w.heap.size (fun k_ => (P1_ k_ ∨ w.heap.size ≤ k_) ∧ some k_ ≠ (.slice (some ad216) t213.length co7 : Value).ownBlock ∧ k_ ≠ gb212 ∧ k_ ≠ gb217) u7 x7_1) := ⟨(by rw [hw]; exact (by (with_reducible repeat (first | apply Kd.N_alloc | apply Kd.N_drewN | apply Kd.N_drew)); exact Kd.N_mono (Kd.N_far (p := ⟨gb217, 1, none⟩) (Kd.N_far (p := ⟨gb217, 0, none⟩) (Kd.N_mono HO_7.out (fun k_ hk => (⟨hk, hk.2⟩ : _ ∧ k_ ≠ gb217))) (fun _ hk => hk.2) (.int .u64 ((rd_T57 t213 x16_1).f0))) (fun _ hk => hk.2) (.int .u64 ((rd_T57 t213 x16_1).f1))) (fun _ hk => ⟨hk.1.1.1, ⟨hk.1.1.2.1, ⟨hk.1.1.2.2, hk.1.2⟩⟩⟩)))⟩; have n2_ : Aside0 (Kd.R k57 57 w16 w.heap.size (fun k_ => (w.heap.size ≤ k_) ∧ k_ ≠ gb217) (.slice (some ad216) t213.length co7) t213) := ⟨(by rw [hw]; exact (by (with_reducible repeat (first | apply Kd.R_alloc | apply Kd.R_drewN | apply Kd.R_drew)); exact Kd.R_mono (Kd.R_far (p := ⟨gb217, 1, none⟩) (Kd.R_far (p := ⟨gb217, 0, none⟩) (Kd.R_mono HO_14.out (fun k_ hk => (⟨hk, hk.2⟩ : _ ∧ k_ ≠ gb217))) (fun _ hk => hk.2) (.int .u64 ((rd_T57 t213 x16_1).f0))) (fun _ hk => hk.2) (.int .u64 ((rd_T57 t213 x16_1).f1))) (fun _ hk => ⟨hk.1.1, hk.1.2⟩)))⟩; have n3_ : Aside0 (w16.heap[gb212]? = some (.cells #[.int .i64 a0_0, .int .i64 a0_1, .int .i64 a0_2, .int .u64 a0_3, .int .u64 a0_4, .int .u64 a0_5] 24 (0, 0))) := ⟨(by rw [hw]; exact (by (with_reducible repeat (first | refine blk_drewN ?_ _ | refine blk_drew ?_ | refine blk_alloc ?_ _)); refine blk_far ?_ NB212_217.out _; (with_reducible repeat (first | refine blk_drewN ?_ _ | refine blk_drew ?_ | refine blk_alloc ?_ _)); refine blk_far ?_ NB212_217.out _; (with_reducible repeat (first | refine blk_drewN ?_ _ | refine blk_drew ?_ | refine blk_alloc ?_ _)); exact BK212.out))⟩; have n4_ : Aside0 (w16.heap[gb217]? = some (.cells #[.int .u64 ((rd_T57 t213 x16_1).f0), .int .u64 ((rd_T57 t213 x16_1).f1)] 57 (0, 0))) := ⟨(by rw [hw]; exact (by (with_reducible repeat (first | refine blk_drewN ?_ _ | refine blk_drew ?_ | refine blk_alloc ?_ _)); refine blk_put (cs := #[.int .u64 ((rd_T57 t213 x16_1).f0), .int .u64 0]) ?_ 1 _ rfl; (with_reducible repeat (first | refine blk_drewN ?_ _ | refine blk_drew ?_ | refine blk_alloc ?_ _)); refine blk_put (cs := #[.int .u64 0, .int .u64 0]) ?_ 0 _ rfl; (with_reducible repeat (first | refine blk_drewN ?_ _ | refine blk_drew ?_ | refine blk_alloc ?_ _)); exact BK217.out))⟩; have n5_ : Aside0 (Below w.heap.size w w16) := ⟨(by rw [hw]; exact bB)⟩; clear hw; clear HO_1; clear HO_7; clear HO_14; clear BK212; clear BK217; clear HB; have HO_1 := n0_; have HO_7 := n1_; have HO_14 := n2_; have BK212 := n3_; have BK217 := n4_; have HB := n5_; clear n0_ n1_ n2_ n3_ n4_ n5_; have hcz17_0 : w16.cell? ⟨gb212, 0, none⟩ = some (.int .i64 a0_0) := (blk_cell BK212.out 0).trans rfl; have hcz17_1 : w16.cell? ⟨gb212, 1, none⟩ = some (.int .i64 a0_1) := (blk_cell BK212.out 1).trans rfl; have hcz17_2 : w16.cell? ⟨gb212, 2, none⟩ = some (.int .i64 a0_2) := (blk_cell BK212.out 2).trans rfl; have hcz17_3 : w16.cell? ⟨gb212, 3, none⟩ = some (.int .u64 a0_3) := (blk_cell BK212.out 3).trans rfl; have hcz17_4 : w16.cell? ⟨gb212, 4, none⟩ = some (.int .u64 a0_4) := (blk_cell BK212.out 4).trans rfl; have hcz17_5 : w16.cell? ⟨gb212, 5, none⟩ = some (.int .u64 a0_5) := (blk_cell BK212.out 5).trans rfl; have hfz17_0 := blk_frozen BK212.out 0; have hfz17_1 := blk_frozen BK212.out 1; have hfz17_2 := blk_frozen BK212.out 2; have hfz17_3 := blk_frozen BK212.out 3; have hfz17_4 := blk_frozen BK212.out 4; have hfz17_5 := blk_frozen BK212.out 5; have hcz18_0 : w16.cell? ⟨gb217, 0, none⟩ = some (.int .u64 ((rd_T57 t213 x16_1).f0)) := (blk_cell BK217.out 0).trans rfl; have hcz18_1 : w16.cell? ⟨gb217, 1, none⟩ = some (.int .u64 ((rd_T57 t213 x16_1).f1)) := (blk_cell BK217.out 1).trans rfl; have hfz18_0 := blk_frozen BK217.out 0; have hfz18_1 := blk_frozen BK217.out 1) | ((with_reducible refine gate_callee (f := 31) rfl ?_); refine goesL_ (some 24) rfl rfl Tryd.func31 (by kernel_rfl) rfl #[.agg #[.int .i64 a0_0, .int .i64 a0_1, .int .i64 a0_2, .int .u64 a0_3, .int .u64 a0_4, .int .u64 a0_5], .slice A1 l1.length c1, .agg #[.int .u64 ((rd_T57 t213 x16_1).f0), .int .u64 ((rd_T57 t213 x16_1).f1)]] rfl aV ?_; (with_reducible refine (spec_RootOf.calls k1 a0_0 a0_1 a0_2 a0_3 a0_4 a0_5 (fun k_ => ((P1_ k_ ∨ w.heap.size ≤ k_) ∧ (some k_ ≠ (u7 : Value).ownBlock ∧ (some k_ ≠ (.slice (some ad216) t213.length co7 : Value).ownBlock ∧ (k_ ≠ gb212 ∧ k_ ≠ gb217))))) _ _ l1 ((rd_T57 t213 x16_1).f0) ((rd_T57 t213 x16_1).f1) t218 _ ?side1 A11.out).mono ?_); (case side1 => first | exact HO_1.out | exact Kd.V_mono HO_1.out (fun k_ h_ => by simp only [and_assoc] at h_ ⊢; exact h_)); rintro e w19 ⟨v219, rfl, ho0, hb⟩; refine ⟨_, rfl, ?_⟩; have n0_ := Aside0.mk (Kd.V_below (kV HO_1.out) hb); have n1_ := Aside0.mk (Kd.N_below (by (with_reducible repeat (first | apply Kd.N_alloc | apply Kd.N_drewN | apply Kd.N_drew)); exact HO_7.out) hb); have n2_ := Aside0.mk (Kd.R_below (kR HO_14.out) hb); have n3_ := Aside0.mk (Kd.V_lower (Kd.V_mono (ok' := fun k_ => (P1_ k_ ∨ w.heap.size ≤ k_) ∧ some k_ ≠ (u7 : Value).ownBlock ∧ some k_ ≠ (.slice (some ad216) t213.length co7 : Value).ownBlock ∧ k_ ≠ gb212 ∧ k_ ≠ gb217) ho0 (fun k_ hk_ => ⟨Or.elim hk_ (fun hs_ => hs_.1) (fun hn_ => (.inr (Nat.le_trans (below_size bB) hn_))), Or.elim hk_ (fun hs_ => hs_.2.1) (fun hn_ => (Kd.fresh' (Kd.N_lt (by (with_reducible repeat (first | apply Kd.N_alloc | apply Kd.N_drewN | apply Kd.N_drew)); exact HO_7.out)) k_ hn_)), Or.elim hk_ (fun hs_ => hs_.2.2.1) (fun hn_ => (Kd.fresh' (Kd.R_lt (kR HO_14.out)) k_ hn_)), Or.elim hk_ (fun hs_ => hs_.2.2.2.1) (fun hn_ => (Kd.freshB (g := gb212) (o := .cells #[.int .i64 a0_0, .int .i64 a0_1, .int .i64 a0_2, .int .u64 a0_3, .int .u64 a0_4, .int .u64 a0_5] 24 (0, 0)) (kB BK212.out) k_ hn_)), Or.elim hk_ (fun hs_ => hs_.2.2.2.2) (fun hn_ => (Kd.freshB (g := gb217) (o := .cells #[.int .u64 ((rd_T57 t213 x16_1).f0), .int .u64 ((rd_T57 t213 x16_1).f1)] 57 (0, 0)) (kB BK217.out) k_ hn_))⟩)) (below_size bB)); have n4_ := Aside0.mk (blk_below (g := gb212) (o := .cells #[.int .i64 a0_0, .int .i64 a0_1, .int .i64 a0_2, .int .u64 a0_3, .int .u64 a0_4, .int .u64 a0_5] 24 (0, 0)) (kB BK212.out) hb); have n5_ := Aside0.mk (blk_below (g := gb217) (o := .cells #[.int .u64 ((rd_T57 t213 x16_1).f0), .int .u64 ((rd_T57 t213 x16_1).f1)] 57 (0, 0)) (kB BK217.out) hb); have n6_ := Aside0.mk (below_step bB hb); clear HO_1; clear HO_7; clear HO_14; clear BK212; clear BK217; clear HB; have HO_1 := n0_; have HO_7 := n1_; have HO_14 := n2_; have HO220 := n3_; have BK212 := n4_; have BK217 := n5_; have HB := n6_; clear n0_ n1_ n2_ n3_ n4_ n5_ n6_; (try clear hb); (try clear hb2); (try clear hk); (try clear hi); (try clear ho0); obtain ⟨Ao21, co21, eo21⟩ := Kd.V_slice HO220.out; subst eo21) | ((with_reducible refine gate_builtin (b := .append) (xs := #[.tmp 20, .tmp 25]) rfl ?_); at_builtin; refine Kd.N_append (Kd.slice 5 (Kd.int .u8)) (w0 := w) w.heap.size rfl (.tmp 20) (.tmp 25) 25 27 (.slice none 0 0) 24 rfl Tryd.underlying25 info27 rfl (by decide) (by omega) u7 x7_1 t218 [.slice Ao21 t218.length co21] (fun k_ => (P1_ k_ ∨ w.heap.size ≤ k_) ∧ some k_ ≠ (.slice (some ad216) t213.length co7 : Value).ownBlock ∧ k_ ≠ gb212 ∧ k_ ≠ gb217) (fun k_ => ((fun k_ => (P1_ k_ ∨ w.heap.size ≤ k_) ∧ some k_ ≠ (.slice (some ad216) t213.length co7 : Value).ownBlock ∧ k_ ≠ gb212 ∧ k_ ≠ gb217)) k_ ∧ some k_ ≠ (u7 : Value).ownBlock) rfl rfl ?aP (fun _ hk => hk) ?aF ?aO ?aB ?aS ?aL ?_; (case aP => exact (Kd.FK_slice_mk (Kd.V_reads' (Kd.V_mono (ok' := (fun k_ => ((fun k_ => (P1_ k_ ∨ w.heap.size ≤ k_) ∧ some k_ ≠ (.slice (some ad216) t213.length co7 : Value).ownBlock ∧ k_ ≠ gb212 ∧ k_ ≠ gb217)) k_ ∧ some k_ ≠ (u7 : Value).ownBlock)) (HO220.out) (fun k_ hk => ⟨⟨hk.1, ⟨hk.2.2.1, ⟨hk.2.2.2.1, hk.2.2.2.2⟩⟩⟩, hk.2.1⟩))).2.1 (Kd.V_F (Kd.V_mono (ok' := (fun k_ => ((fun k_ => (P1_ k_ ∨ w.heap.size ≤ k_) ∧ some k_ ≠ (.slice (some ad216) t213.length co7 : Value).ownBlock ∧ k_ ≠ gb212 ∧ k_ ≠ gb217)) k_ ∧ some k_ ≠ (u7 : Value).ownBlock)) (HO220.out) (fun k_ hk => ⟨⟨hk.1, ⟨hk.2.2.1, ⟨hk.2.2.2.1, hk.2.2.2.2⟩⟩⟩, hk.2.1⟩))))); (case aB => exact bB); (case aF => exact (fun k_ hk => ⟨(.inr (Nat.le_trans (below_size bB) hk)), Kd.fresh' (Kd.R_lt (kR HO_14.out)) k_ hk, Kd.freshB (g := gb212) (o := .cells #[.int .i64 a0_0, .int .i64 a0_1, .int .i64 a0_2, .int .u64 a0_3, .int .u64 a0_4, .int .u64 a0_5] 24 (0, 0)) (kB BK212.out) k_ hk, Kd.freshB (g := gb217) (o := .cells #[.int .u64 ((rd_T57 t213 x16_1).f0), .int .u64 ((rd_T57 t213 x16_1).f1)] 57 (0, 0)) (kB BK217.out) k_ hk⟩)); (case aO => exact (by (with_reducible repeat (first | apply Kd.N_alloc | apply Kd.N_drewN | apply Kd.N_drew)); exact HO_7.out)); (case aS => exact (below_size bB)); (case aL => have := LMc12.out; omega); intro v222 w20 ho hb hg hat; rw [← Ny221.out] at ho; have n0_ := Aside0.mk (Kd.V_afterv (ok := (fun k_ => (P1_ k_ ∨ w.heap.size ≤ k_) ∧ some k_ ≠ (.slice (some ad216) t213.length co7 : Value).ownBlock ∧ k_ ≠ gb212 ∧ k_ ≠ gb217)) (by (with_reducible repeat (first | apply Kd.V_alloc | apply Kd.V_drewN | apply Kd.V_drew)); exact Kd.V_mono HO_1.out (fun _ hk => ⟨⟨hk.1, ⟨hk.2.2.1, ⟨hk.2.2.2.1, hk.2.2.2.2⟩⟩⟩, hk.2.1⟩)) hg hat); have n1_ := Aside0.mk (Kd.R_over' (kR HO_14.out) (Kd.N_typed (by (with_reducible repeat (first | apply Kd.N_alloc | apply Kd.N_drewN | apply Kd.N_drew)); exact HO_7.out)) (by decide) hg); have n2_ := Aside0.mk (blk_grown (g := gb212) (o := .cells #[.int .i64 a0_0, .int .i64 a0_1, .int .i64 a0_2, .int .u64 a0_3, .int .u64 a0_4, .int .u64 a0_5] 24 (0, 0)) (kB BK212.out) hg (Kd.N_ne HO_7.out BK212.out (by decide))); have n3_ := Aside0.mk (blk_grown (g := gb217) (o := .cells #[.int .u64 ((rd_T57 t213 x16_1).f0), .int .u64 ((rd_T57 t213 x16_1).f1)] 57 (0, 0)) (kB BK217.out) hg (Kd.N_ne HO_7.out BK217.out (by decide))); have n4_ := Aside0.mk (Kd.V_afterv (ok := (fun k_ => (P1_ k_ ∨ w.heap.size ≤ k_) ∧ some k_ ≠ (.slice (some ad216) t213.length co7 : Value).ownBlock ∧ k_ ≠ gb212 ∧ k_ ≠ gb217)) (by (with_reducible repeat (first | apply Kd.V_alloc | apply Kd.V_drewN | apply Kd.V_drew)); exact Kd.V_mono HO220.out (fun _ hk => ⟨⟨hk.1, ⟨hk.2.2.1, ⟨hk.2.2.2.1, hk.2.2.2.2⟩⟩⟩, hk.2.1⟩)) hg hat); have n5_ := Aside0.mk (hb); have n6_ := Aside0.mk (ho); clear HO_1; clear HO_14; clear BK212; clear BK217; clear HO220; clear HB; clear HO_7; have HO_1 := n0_; have HO_14 := n1_; have BK212 := n2_; have BK217 := n3_; have HO220 := n4_; have HB := n5_; have HO223 := n6_; clear n0_ n1_ n2_ n3_ n4_ n5_ n6_; clear ho hb hg hat))
       go_roundg k1
       case measure => have := HK1.out; omega
       case rel => exact ⟨(y221), (wrap64 (x16_1 + 1)), (by first | rfl | (simp; done) | (simp [*]; done)), H', ⟨by have := HK1.out; omega⟩, ⟨by (with_reducible repeat (first | apply Kd.V_alloc | apply Kd.V_drewN | apply Kd.V_drew)); exact Kd.V_mono HO_1.out (fun _ hk => ⟨hk.1.1, ⟨hk.2, ⟨hk.1.2.1, hk.1.2.2.1⟩⟩⟩)⟩, ⟨by (with_reducible repeat (first | apply Kd.N_alloc | apply Kd.N_drewN | apply Kd.N_drew)); exact Kd.N_mono HO223.out (fun _ hk => ⟨hk.1, ⟨hk.2.1, hk.2.2.1⟩⟩)⟩, ⟨by (with_reducible repeat (first | apply Kd.R_alloc | apply Kd.R_drewN | apply Kd.R_drew)); exact Kd.R_mono HO_14.out (fun _ hk => hk.1)⟩, ⟨by (with_reducible repeat (first | refine blk_drewN ?_ _ | refine blk_drew ?_ | refine blk_alloc ?_ _)); exact BK212.out⟩, ⟨bB⟩⟩
      ·rw [if_neg c12] at H
       exact absurd H (by simp)
     ·rw [if_neg c10] at H
      exact absurd H (by simp)
    ·rw [if_neg c9] at H
     exact absurd H (by simp)
   ·rw [if_neg c8] at H
    have c8b0 : decide (x16_1 < (t213.length : Int)) = false := decide_eq_false c8
    clear c8
    obtain rfl := Option.some.inj H
    go_wp2
    go_ret
    exact ⟨_, by first | rfl | (simp [errW_none, errW_some] <;> rfl) | (simp [*, errW_none, errW_some] <;> rfl), by (with_reducible repeat (first | apply Kd.N_alloc | apply Kd.N_drewN | apply Kd.N_drew)); exact Kd.N_mono HO_7.out (fun _ hk => hk.1), bB⟩


/-! ### impl_word: function 89 -/
mutual
def impl_word.j0 : Nat → Int → Int → Bool → Option (List Int)
 | 0, _, _, _ => none
 | k + 1, x0, x1, x12 => if x12 = true then (impl_word.j1 k x0 8) else (impl_word.j1 k x0 x1)
def impl_word.j1 : Nat → Int → Int → Option (List Int)
 | 0, _, _ => none
 | k + 1, x0, x1 => if 0 ≤ x1 then (if (x1 : Int).toNat ≤ 281474976710656 then ((some (List.replicate (x1 : Int).toNat 0 : List Int)).bind fun y224 => (impl_word.l0 k x0 x1 y224 (y224.length : Int) 0)) else (none)) else (none)
def impl_word.l0 : Nat → Int → Int → List Int → Int → Int → Option (List Int)
 | 0, _, _, _, _, _ => none
 | k + 1, x0, x1, x5, x16, x17 => if x17 < x16 then (if 0 ≤ (wrap64 (8 * x17)) then (if 0 ≤ (wrap64 ((wrap64 (x1 - 1)) - x17)) then (if (wrap64 ((wrap64 (x1 - 1)) - x17)) < (x5.length : Int) then (impl_word.l0 k x0 x1 (x5.set ((wrap64 ((wrap64 (x1 - 1)) - x17)) : Int).toNat ((shr .u64 x0 (wrap64 (8 * x17))) % 256)) x16 (wrap64 (x17 + 1))) else (none)) else (none)) else (none)) else (some x5)
end
def impl_word.f (k : Nat) (a0 : Int) (a1 : Int) : Option (List Int) := if a1 < 1 then (impl_word.j0 k a0 a1 true) else (impl_word.j0 k a0 a1 (decide (a1 > 8)))
theorem impl_word.mono_l : ∀ k, (∀ y0 y1 y2, LeO (impl_word.j0 k y0 y1 y2) (impl_word.j0 (k + 1) y0 y1 y2)) ∧ (∀ y0 y1, LeO (impl_word.j1 k y0 y1) (impl_word.j1 (k + 1) y0 y1)) ∧ (∀ y0 y1 y2 y3 y4, LeO (impl_word.l0 k y0 y1 y2 y3 y4) (impl_word.l0 (k + 1) y0 y1 y2 y3 y4))
 | 0 => ⟨fun _ _ _ r h => by simp [impl_word.j0] at h, fun _ _ r h => by simp [impl_word.j1] at h, fun _ _ _ _ _ r h => by simp [impl_word.l0] at h⟩
 | k + 1 => by
  obtain ⟨ih0, ih1, ih2⟩ := impl_word.mono_l k
  refine ⟨?_, ?_, ?_⟩
  ·intro y0 y1 y2
   unfold impl_word.j0
   repeat' first
   | (with_reducible exact ih0 _ _ _)
   | (with_reducible exact ih1 _ _)
   | (with_reducible exact ih2 _ _ _ _ _)
   | (with_reducible exact LeO.refl _)
   | (with_reducible exact LeO.none _)
   | (with_reducible refine LeO.ite ?_ ?_)
   | (with_reducible refine LeO.bind ?_ (fun _ => ?_))
   | exact ih0 _ _ _
   | exact ih1 _ _
   | exact ih2 _ _ _ _ _
   | exact LeO.none _
   | refine LeO.ite ?_ ?_
   | refine LeO.bind ?_ (fun _ => ?_)
  ·intro y0 y1
   unfold impl_word.j1
   repeat' first
   | (with_reducible exact ih0 _ _ _)
   | (with_reducible exact ih1 _ _)
   | (with_reducible exact ih2 _ _ _ _ _)
   | (with_reducible exact LeO.refl _)
   | (with_reducible exact LeO.none _)
   | (with_reducible refine LeO.ite ?_ ?_)
   | (with_reducible refine LeO.bind ?_ (fun _ => ?_))
   | exact ih0 _ _ _
   | exact ih1 _ _
   | exact ih2 _ _ _ _ _
   | exact LeO.none _
   | refine LeO.ite ?_ ?_
   | refine LeO.bind ?_ (fun _ => ?_)
  ·intro y0 y1 y2 y3 y4
   unfold impl_word.l0
   repeat' first
   | (with_reducible exact ih0 _ _ _)
   | (with_reducible exact ih1 _ _)
   | (with_reducible exact ih2 _ _ _ _ _)
   | (with_reducible exact LeO.refl _)
   | (with_reducible exact LeO.none _)
   | (with_reducible refine LeO.ite ?_ ?_)
   | (with_reducible refine LeO.bind ?_ (fun _ => ?_))
   | exact ih0 _ _ _
   | exact ih1 _ _
   | exact ih2 _ _ _ _ _
   | exact LeO.none _
   | refine LeO.ite ?_ ?_
   | refine LeO.bind ?_ (fun _ => ?_)
theorem impl_word.mono : ∀ a0 a1 k, LeO (impl_word.f k a0 a1) (impl_word.f (k + 1) a0 a1) := by
 intro a0 a1 k
 obtain ⟨ih0, ih1, ih2⟩ := impl_word.mono_l k
 unfold impl_word.f
 repeat' first
   | (with_reducible exact ih0 _ _ _)
   | (with_reducible exact ih1 _ _)
   | (with_reducible exact ih2 _ _ _ _ _)
   | (with_reducible exact LeO.refl _)
   | (with_reducible exact LeO.none _)
   | (with_reducible refine LeO.ite ?_ ?_)
   | (with_reducible refine LeO.bind ?_ (fun _ => ?_))
   | exact ih0 _ _ _
   | exact ih1 _ _
   | exact ih2 _ _ _ _ _
   | exact LeO.none _
   | refine LeO.ite ?_ ?_
   | refine LeO.bind ?_ (fun _ => ?_)
set_option maxHeartbeats 8000000 in
set_option maxRecDepth 100000 in
theorem impl_word.calls (k : Nat) (a0 : Int) (a1 : Int) (r : List Int) (w : World) (h : impl_word.f k a0 a1 = some r) :
  Calls Tryd.prog 89 #[.int .u64 a0, .int .i64 a1] w fun e w' => ∃ v0_ : Value, e = .returned (v0_) ∧ Kd.R (Kd.int .u8) 5 w' w.heap.size (fun _ => True) v0_ r ∧ Below w.heap.size w w' := by
 have HB := Aside0.mk (Below.refl w.heap.size w)
 have H : (if a1 < 1 then (impl_word.j0 k a0 a1 true) else (impl_word.j0 k a0 a1 (decide (a1 > 8)))) = some r := h
 clear h
 have HC3 := Aside0.mk H
 clear H
 go_enter Tryd.func89, Tryd.ntmps89
 go_upto_region 1 with (fail)
 go_cut [12] (fun v12 wc => ∃ (kq : Nat) (x12_2 : Bool), v12 = .bool x12_2 ∧ Aside0 (impl_word.j0 kq a0 a1 x12_2 = some r) ∧ Aside0 (kq ≤ k) ∧ Aside0 (Below w.heap.size w wc))
 case first =>
  have H := HC3.out
  clear HC3
  by_cases c4 : a1 < 1
  ·rw [if_pos c4] at H
   have c4b0 : decide (a1 < 1) = true := decide_eq_true c4
   clear c4
   (first | rw [c4b0] | (simp only [i64_w, i32_w]; rw [c4b0]) | skip)
   have H' := Aside0.mk H
   clear H
   go_wp2
   go_meet
   case rel => exact ⟨_, (true), (by first | rfl | (simp; done) | (simp [*]; done)), H', ⟨by first | omega | exact Nat.le_refl _⟩, ⟨bB⟩⟩
  ·rw [if_neg c4] at H
   have c4b0 : decide (a1 < 1) = false := decide_eq_false c4
   clear c4
   (first | rw [c4b0] | (simp only [i64_w, i32_w]; rw [c4b0]) | skip)
   have H' := Aside0.mk H
   clear H
   go_wp2
   go_meet
   case rel => exact ⟨_, (decide (a1 > 8)), (by first | rfl | (simp; done) | (simp [*]; done)), H', ⟨by first | omega | exact Nat.le_refl _⟩, ⟨bB⟩⟩
 case rest =>
  clear HC3
  try clear p2
  try clear c4
  try clear c4b0
  obtain ⟨kq, x12_2, rfl, HA, HJ2, HB⟩ := hcut
  cases kq with
  | zero => exact absurd HA.out (by simp [impl_word.j0])
  | succ kj2 =>
   have H := HA.out
   clear HA
   simp only [impl_word.j0] at H
   have HC5 := Aside0.mk H
   clear H
   go_upto_if 12 with (fail)
   go_cut [1] (fun v1 wc => ∃ (kq : Nat) (x1_4 : Int), v1 = .int .i64 x1_4 ∧ Aside0 (impl_word.j1 kq a0 x1_4 = some r) ∧ Aside0 (kq ≤ kj2) ∧ Aside0 (Below w.heap.size w wc))
   case first =>
    have H := HC5.out
    clear HC5
    by_cases c6 : x12_2 = true
    ·subst c6
     have H1 : (impl_word.j1 kj2 a0 8) = some r := by rw [if_pos rfl] at H; exact H
     clear H
     have H := H1
     clear H1
     have H' := Aside0.mk H
     clear H
     go_wp2
     go_meet
     case rel => exact ⟨_, (8), (by first | rfl | (simp; done) | (simp [*]; done)), H', ⟨by have := HJ2.out; first | omega | exact Nat.le_refl _⟩, ⟨bB⟩⟩
    ·replace c6 := Bool.eq_false_iff.mpr c6
     subst c6
     have H1 : (impl_word.j1 kj2 a0 a1) = some r := by rw [if_neg (show ¬ (false = true) by decide)] at H; exact H
     clear H
     have H := H1
     clear H1
     have H' := Aside0.mk H
     clear H
     go_wp2
     go_meet
     case rel => exact ⟨_, (a1), (by first | rfl | (simp; done) | (simp [*]; done)), H', ⟨by have := HJ2.out; first | omega | exact Nat.le_refl _⟩, ⟨bB⟩⟩
   case rest =>
    clear HC5
    try clear p2
    try clear c4
    try clear c4b0
    try clear c6
    try clear p2
    obtain ⟨kq, x1_4, rfl, HA, HJ4, HB⟩ := hcut
    cases kq with
    | zero => exact absurd HA.out (by simp [impl_word.j1])
    | succ kj4 =>
     have H := HA.out
     clear HA
     simp only [impl_word.j1] at H
     by_cases c7 : 0 ≤ x1_4
     ·rw [if_pos c7] at H
      have c7b0 := eq_true c7
      have c7b1 : decide (0 ≤ x1_4) = true := decide_eq_true c7
      clear c7
      by_cases c8 : (x1_4 : Int).toNat ≤ 281474976710656
      ·rw [if_pos c8] at H
       have c8b0 := eq_true c8
       have c8b1 : decide ((x1_4 : Int).toNat ≤ 281474976710656) = true := decide_eq_true c8
       clear c8
       obtain ⟨y224, hy224⟩ : ∃ y_ : List Int, y_ = (List.replicate (x1_4 : Int).toNat 0) := ⟨_, rfl⟩
       replace H : (impl_word.l0 kj4 a0 x1_4 y224 (y224.length : Int) 0) = some r := by first | (rw [hy224]; with_reducible exact H) | (have H2_ := (Option.bind_some _ _).symm.trans H; rw [hy224]; with_reducible exact H2_) | (have H2_ := (Option.bind_some _ _).symm.trans H; with_reducible exact H2_) | with_reducible exact H | (rw [hy224]; exact H) | exact H
       have Ny224 := Aside0.mk hy224
       clear hy224
       have H' := Aside0.mk H
       clear H
       go_wp2_with (first | ((with_reducible refine gate_dst (N := 14) rfl ?_); refine Kd.R_make (Kd.int .u8) _ 5 rfl (N := 14) rfl 27 _ _ rfl x1_4 rfl rfl Tryd.underlying27 (.int .u8 0) 1 info5 rfl (by decide) (by omega) 0 (ok := fun _ => True) (okp := fun _ => True) rfl (fun _ hk => hk) trivial dA (Nat.le_trans (Nat.mul_le_mul_right _ (dA : x1_4.toNat ≤ 281474976710656)) (by omega)) (Below.refl _ _) (Nat.le_refl _) ?_; intro v225 w9 ho10 hb hg_ hnew_; clear hg_ hnew_; (first | rw [← Ny224.out] at ho10 | (simp only [Int.reduceToNat] at ho10; rw [← Ny224.out] at ho10)); have n0_ := Aside0.mk (Kd.R_lower ho10 (below_size bB)); have n1_ := Aside0.mk (below_step bB hb); clear HB; have HO226 := n0_; have HB := n1_; clear n0_ n1_; clear hb ho10; obtain ⟨Ao11, co11, eo11⟩ := Kd.R_slice HO226.out; subst eo11))
       go_loopg [17] kj4 (fun kq v17 w' => ∃ (x5_3 : List Int) (x17_3 : Int), v17 = .int .i64 x17_3 ∧ Aside0 (impl_word.l0 kq a0 x1_4 x5_3 (y224.length : Int) x17_3 = some r) ∧ Aside0 (kq ≤ kj4) ∧ Aside0 (Kd.R (Kd.int .u8) 5 w' w.heap.size (fun _ => True) (.slice Ao11 y224.length co11) x5_3) ∧ Aside0 (Below w.heap.size w w'))
       case atStart => exact ⟨(y224), (0), (by first | rfl | (simp; done) | (simp [*]; done)), H', ⟨Nat.le_refl _⟩, ⟨kR HO226.out⟩, ⟨bB⟩⟩
       case round =>
        clear H'
        try clear p2
        try clear c4
        try clear c4b0
        try clear c6
        try clear c7
        try clear c7b0
        try clear c7b1
        try clear c8
        try clear c8b0
        try clear c8b1
        try clear p2
        obtain ⟨x5_3, x17_3, rfl, HA, HK3, HO_5, HB⟩ := hrel
        have hl5_3 := (Kd.R_reads' HO_5.out).1
        rw [hl5_3] at HO_5
        (try simp only [hl5_3])
        cases gk with
        | zero => exact absurd HA.out (by simp [impl_word.l0])
        | succ k3 =>
         have H := HA.out
         clear HA
         simp only [impl_word.l0] at H
         by_cases c12 : x17_3 < (y224.length : Int)
         ·rw [if_pos c12] at H
          have c12b0 : decide (x17_3 < (y224.length : Int)) = true := decide_eq_true c12
          (try (have c12b0hl5_3 := c12b0; rw [hl5_3] at c12b0hl5_3))
          clear c12
          obtain ⟨ji13, hji13⟩ : ∃ j_ : Int, (wrap64 (8 * x17_3)) = j_ := ⟨_, rfl⟩
          replace H : (if 0 ≤ (ji13) then (if 0 ≤ (wrap64 ((wrap64 (x1_4 - 1)) - x17_3)) then (if (wrap64 ((wrap64 (x1_4 - 1)) - x17_3)) < (x5_3.length : Int) then (impl_word.l0 k3 a0 x1_4 (x5_3.set ((wrap64 ((wrap64 (x1_4 - 1)) - x17_3)) : Int).toNat ((shr .u64 a0 (ji13)) % 256)) (y224.length : Int) (wrap64 (x17_3 + 1))) else (none)) else (none)) else (none)) = some r := by first | (rw [hji13] at H; exact H) | (simp only [hji13] at H ⊢; exact H)
          have hji13w : (IntKind.i64.wrap (8 * x17_3)) = ji13 := (i64_w _).trans hji13
          by_cases c14 : 0 ≤ (ji13)
          ·rw [if_pos c14] at H
           have c14b0 := eq_true c14
           have c14b1 : decide (0 ≤ (ji13)) = true := decide_eq_true c14
           clear c14
           obtain ⟨ji15, hji15⟩ : ∃ j_ : Int, (shr .u64 a0 (ji13)) = j_ := ⟨_, rfl⟩
           replace H : (if 0 ≤ (wrap64 ((wrap64 (x1_4 - 1)) - x17_3)) then (if (wrap64 ((wrap64 (x1_4 - 1)) - x17_3)) < (x5_3.length : Int) then (impl_word.l0 k3 a0 x1_4 (x5_3.set ((wrap64 ((wrap64 (x1_4 - 1)) - x17_3)) : Int).toNat ((ji15) % 256)) (y224.length : Int) (wrap64 (x17_3 + 1))) else (none)) else (none)) = some r := by first | (rw [hji15] at H; exact H) | (simp only [hji15] at H ⊢; exact H)
           have hji15_ : (a0 / 2 ^ min (ji13).toNat 64) = ji15 := hji15
           have hji15z : (ji13) ≤ 64 → (a0 / 2 ^ (ji13).toNat) = ji15 := shr_small hji15
           obtain ⟨ji16, hji16⟩ : ∃ j_ : Int, (wrap64 ((wrap64 (x1_4 - 1)) - x17_3)) = j_ := ⟨_, rfl⟩
           replace H : (if 0 ≤ (ji16) then (if (ji16) < (x5_3.length : Int) then (impl_word.l0 k3 a0 x1_4 (x5_3.set ((ji16) : Int).toNat ((ji15) % 256)) (y224.length : Int) (wrap64 (x17_3 + 1))) else (none)) else (none)) = some r := by first | (rw [hji16] at H; exact H) | (simp only [hji16] at H ⊢; exact H)
           have hji16w : (IntKind.i64.wrap ((wrap64 (x1_4 - 1)) - x17_3)) = ji16 := (i64_w _).trans hji16
           by_cases c17 : 0 ≤ (ji16)
           ·rw [if_pos c17] at H
            have c17b0 : decide (0 ≤ (ji16)) = true := decide_eq_true c17
            clear c17
            by_cases c18 : (ji16) < (x5_3.length : Int)
            ·rw [if_pos c18] at H
             have c18b0 : decide ((ji16) < (x5_3.length : Int)) = true := decide_eq_true c18
             (try (have c18b0hl5_3 := c18b0; rw [hl5_3] at c18b0hl5_3))
             clear c18
             obtain ⟨y227, hy227⟩ : ∃ y_ : List Int, y_ = (x5_3.set ((ji16) : Int).toNat ((ji15) % 256)) := ⟨_, rfl⟩
             replace H : (impl_word.l0 k3 a0 x1_4 y227 (y224.length : Int) (wrap64 (x17_3 + 1))) = some r := by first | (rw [hy227]; with_reducible exact H) | (have H2_ := (Option.bind_some _ _).symm.trans H; rw [hy227]; with_reducible exact H2_) | (have H2_ := (Option.bind_some _ _).symm.trans H; with_reducible exact H2_) | with_reducible exact H | (rw [hy227]; exact H) | exact H
             have Ny227 := Aside0.mk hy227
             clear hy227
             have H' := Aside0.mk H
             clear H
             have p19 : 0 ≤ ((ji16) : Int) := dA
             have q19 : ((ji16) : Int) < ((x5_3.length : Int) : Int) := dA
             obtain ⟨go19, co19, eo19, gb19, gl19, cl19, HG19⟩ := Kd.R_form HO_5.out (by omega)
             (first | cases eo19 | (injection eo19 with ea_ en_ ec_; (first | subst ea_ | (injection ea_ with ea_; subst ea_)); subst ec_; clear en_))
             have GB19 := Aside0.mk gb19
             have GG19 := Aside0.mk HG19
             clear gb19 gl19 HG19
             obtain ⟨hx19_0, hf19_0⟩ := Kd.R_celln 0 HO_5.out ((ji16) : Int) p19 q19
             replace p19 := eq_true p19
             replace q19 := eq_true q19
             have HP20 := Kd.R_putg HO_5.out ((ji16) : Int) ((ji15) % 256)
             go_wp2_with (first | ((with_reducible refine gate_store (t := 5) (p := 30) rfl ?_); refine store_event (t := 5) (p := 30) (v := ?vo_w21) (w1 := (wr.setCell ⟨go19, ((ji16) : Int).toNat, none⟩ (.int .u8 ((ji15) % 256)))) ?hg ?ho ?hn ?hr ?_; (case ho => rfl); (case hg => rfl); (case hn => rfl); (case hr => first | (go_simp; done) | (go_simp; rfl)); intro w21 hw; have hg : wr.grownBy w21 (some go19) := (by rw [hw]; exact HP20.2); have hp_ : Kd.R (Kd.int .u8) 5 w21 w.heap.size (fun _ => True) (.slice (some ⟨go19, 0, none⟩) x5_3.length co11) y227 := (by rw [hw, Ny227.out]; exact HP20.1); clear HP20; have n0_ := Aside0.mk (hp_); have n1_ := Aside0.mk ((by rw [hw]; exact below_set (HB.out) GB19.out : Below w.heap.size w w21)); clear HO_5; clear HB; have HO_5 := n0_; have HB := n1_; clear n0_ n1_; clear hg hw hp_))
             (try simp only [← hl5_3])
             go_roundg k3
             case measure => have := HJ2.out; have := HJ4.out; have := HK3.out; omega
             case rel => exact ⟨(y227), (wrap64 (x17_3 + 1)), (by first | rfl | (simp; done) | (simp [*]; done)), H', ⟨by have := HJ2.out; have := HJ4.out; have := HK3.out; omega⟩, ⟨by (try simp only [hl5_3]); (with_reducible repeat (first | apply Kd.R_alloc | apply Kd.R_drewN | apply Kd.R_drew)); exact HO_5.out⟩, ⟨bB⟩⟩
            ·rw [if_neg c18] at H
             exact absurd H (by simp)
           ·rw [if_neg c17] at H
            exact absurd H (by simp)
          ·rw [if_neg c14] at H
           exact absurd H (by simp)
         ·rw [if_neg c12] at H
          have c12b0 : decide (x17_3 < (y224.length : Int)) = false := decide_eq_false c12
          (try (have c12b0hl5_3 := c12b0; rw [hl5_3] at c12b0hl5_3))
          clear c12
          obtain rfl := Option.some.inj H
          go_wp2
          go_ret
          exact ⟨_, by first | rfl | (simp [errW_none, errW_some] <;> rfl) | (simp [*, errW_none, errW_some] <;> rfl), by (with_reducible repeat (first | apply Kd.R_alloc | apply Kd.R_drewN | apply Kd.R_drew)); exact HO_5.out, bB⟩
      ·rw [if_neg c8] at H
       exact absurd H (by simp)
     ·rw [if_neg c7] at H
      exact absurd H (by simp)


/-! ### impl_mixed: function 90 -/
def impl_mixed.l0 : Nat → Int → List Int → Int → Int → Option (Int)
 | 0, _, _, _, _ => none
 | k + 1, x0, x7, x8, x9 => if x9 < x8 then (if 0 ≤ x9 then (if x9 < (x7.length : Int) then (impl_mixed.l0 k (IntKind.u64.wrap ((Go.bits .xor .u64 x0 (IntKind.u64.wrap (rd x7 x9))) * 1099511628211)) x7 x8 (wrap64 (x9 + 1))) else (none)) else (none)) else (some x0)
def impl_mixed.f (k : Nat) (a0 : Int) (l1 : List Int) : Option (Int) := impl_mixed.l0 k a0 l1 (l1.length : Int) 0
theorem impl_mixed.mono_l : ∀ k, (∀ y0 y1 y2 y3, LeO (impl_mixed.l0 k y0 y1 y2 y3) (impl_mixed.l0 (k + 1) y0 y1 y2 y3))
 | 0 => fun _ _ _ _ r h => by simp [impl_mixed.l0] at h
 | k + 1 => by
  have ih0 := impl_mixed.mono_l k
  ·intro y0 y1 y2 y3
   unfold impl_mixed.l0
   repeat' first
   | (with_reducible exact ih0 _ _ _ _)
   | (with_reducible exact LeO.refl _)
   | (with_reducible exact LeO.none _)
   | (with_reducible refine LeO.ite ?_ ?_)
   | (with_reducible refine LeO.bind ?_ (fun _ => ?_))
   | exact ih0 _ _ _ _
   | exact LeO.none _
   | refine LeO.ite ?_ ?_
   | refine LeO.bind ?_ (fun _ => ?_)
theorem impl_mixed.mono : ∀ a0 a1 k, LeO (impl_mixed.f k a0 a1) (impl_mixed.f (k + 1) a0 a1) := by
 intro a0 a1 k
 have ih0 := impl_mixed.mono_l k
 unfold impl_mixed.f
 repeat' first
   | (with_reducible exact ih0 _ _ _ _)
   | (with_reducible exact LeO.refl _)
   | (with_reducible exact LeO.none _)
   | (with_reducible refine LeO.ite ?_ ?_)
   | (with_reducible refine LeO.bind ?_ (fun _ => ?_))
   | exact ih0 _ _ _ _
   | exact LeO.none _
   | refine LeO.ite ?_ ?_
   | refine LeO.bind ?_ (fun _ => ?_)
set_option maxHeartbeats 8000000 in
set_option maxRecDepth 100000 in
theorem impl_mixed.calls (k : Nat) (a0 : Int) (A1 : Option Addr) (c1 : Nat) (l1 : List Int) (r : Int) (w : World) (hr1 : Kd.C (Kd.int .u8) w A1 l1.length l1) (hc1 : l1.length ≤ c1) (h : impl_mixed.f k a0 l1 = some r) :
  Calls Tryd.prog 90 #[.int .u64 a0, .slice A1 l1.length c1] w fun e w' => e = .returned (.int .u64 r) ∧ Drawn0 w w' := by
 have HR1 := Aside0.mk hr1
 have HC1 := Aside0.mk hc1
 clear hr1 hc1
 have H : (impl_mixed.l0 k a0 l1 (l1.length : Int) 0) = some r := h
 clear h
 have H' := Aside0.mk H
 clear H
 go_enter Tryd.func90, Tryd.ntmps90
 go_wp2
 go_loopg [0, 9] k (fun kq v0 v9 w' => ∃ (x0_1 : Int) (x9_1 : Int), v0 = .int .u64 x0_1 ∧ v9 = .int .i64 x9_1 ∧ Aside0 (impl_mixed.l0 kq x0_1 l1 (l1.length : Int) x9_1 = some r) ∧ Aside0 (kq ≤ k) ∧ Drawn0 w w')
 case atStart => exact ⟨(a0), (0), (by first | rfl | (simp; done) | (simp [*]; done)), (by first | rfl | (simp; done) | (simp [*]; done)), H', ⟨Nat.le_refl _⟩, by repeat (first | exact Drawn0.refl _ | apply Drawn0.step)⟩
 case round =>
  clear H'
  try clear c1
  try clear p2
  obtain ⟨x0_1, x9_1, rfl, rfl, HA, HK1, ⟨m1, rfl⟩⟩ := hrel
  cases gk with
  | zero => exact absurd HA.out (by simp [impl_mixed.l0])
  | succ k1 =>
   have H := HA.out
   clear HA
   simp only [impl_mixed.l0] at H
   by_cases c3 : x9_1 < (l1.length : Int)
   ·rw [if_pos c3] at H
    have c3b0 : decide (x9_1 < (l1.length : Int)) = true := decide_eq_true c3
    clear c3
    by_cases c4 : 0 ≤ x9_1
    ·rw [if_pos c4] at H
     have c4b0 : decide (0 ≤ x9_1) = true := decide_eq_true c4
     clear c4
     by_cases c5 : x9_1 < (l1.length : Int)
     ·rw [if_pos c5] at H
      have c5b0 : decide (x9_1 < (l1.length : Int)) = true := decide_eq_true c5
      clear c5
      have H' := Aside0.mk H
      clear H
      have p228 : 0 ≤ (x9_1 : Int) := dA
      have q228 : x9_1 < (l1.length : Int) := dA
      obtain ⟨ad228, e228, hx228_0⟩ := Kd.at_int HR1.out x9_1 p228 q228
      cases e228
      replace p228 := eq_true p228
      replace q228 := eq_true q228
      go_wp2
      go_roundg k1
      case measure => have := HK1.out; omega
      case rel => exact ⟨(IntKind.u64.wrap ((Go.bits .xor .u64 x0_1 (IntKind.u64.wrap (rd l1 x9_1))) * 1099511628211)), (wrap64 (x9_1 + 1)), (by first | rfl | (simp; done) | (simp [*]; done)), (by first | rfl | (simp; done) | (simp [*]; done)), H', ⟨by have := HK1.out; omega⟩, by repeat (first | exact Drawn0.refl _ | apply Drawn0.step)⟩
     ·rw [if_neg c5] at H
      exact absurd H (by simp)
    ·rw [if_neg c4] at H
     exact absurd H (by simp)
   ·rw [if_neg c3] at H
    have c3b0 : decide (x9_1 < (l1.length : Int)) = false := decide_eq_false c3
    clear c3
    obtain rfl := Option.some.inj H
    go_wp2
    go_ret
    exact ⟨by first | rfl | (simp; done) | (simp [*]; done), by repeat (first | exact Drawn0.refl _ | apply Drawn0.step)⟩

end Go.Proofs.YtkmdkmlgahfcpaaDoor.M

