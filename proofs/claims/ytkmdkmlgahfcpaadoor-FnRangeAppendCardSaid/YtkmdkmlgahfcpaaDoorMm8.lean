-- Written by a program of ours (wip/xp) out of the translation; Lean checks it.
import Derived.Test.YtkmdkmlgahfcpaaDoorSq
import Derived.Test.YtkmdkmlgahfcpaaDoorMm1
namespace Go.Proofs.YtkmdkmlgahfcpaaDoor.M
open Go.RowKit Go.Proofs.YtkmdkmlgahfcpaaDoorW.PrintWords Go.Proofs.YtkmdkmlgahfcpaaDoorW.PrintLast Go.Proofs.YtkmdkmlgahfcpaaDoorW.PrintMore
attribute [local go_sem] max2_int min2_int max_two min_two max_three min_three max_four min_four   -- for this text's walks alone
set_option linter.unusedVariables false
set_option linter.unusedSimpArgs false

/-! ### spec_hashes: function 60 -/
def spec_hashes.l0 : Nat → List (S60) → List (List Int) → Int → Int → Option ((List (List Int)))
 | 0, _, _, _, _ => none
 | k + 1, x0, x3, x7, x8 => if x8 < x7 then (if 0 ≤ x8 then (if x8 < (x0.length : Int) then (if x3.length < 5864062014805 then (spec_hashes.l0 k x0 (x3 ++ [(rd_T60 x0 x8).f1]) x7 (wrap64 (x8 + 1))) else (none)) else (none)) else (none)) else (some x3)
def spec_hashes.f (k : Nat) (l0 : List (S60)) : Option ((List (List Int))) := spec_hashes.l0 k l0 ([] : List (List Int)) (l0.length : Int) 0
theorem spec_hashes.mono_l : ∀ k, (∀ y0 y1 y2 y3, LeO (spec_hashes.l0 k y0 y1 y2 y3) (spec_hashes.l0 (k + 1) y0 y1 y2 y3))
 | 0 => fun _ _ _ _ r h => by simp [spec_hashes.l0] at h
 | k + 1 => by
  have ih0 := spec_hashes.mono_l k
  ·intro y0 y1 y2 y3
   unfold spec_hashes.l0
   repeat' first
   | (with_reducible exact ih0 _ _ _ _)
   | (with_reducible exact LeO.refl _)
   | (with_reducible exact LeO.none _)
   | (with_reducible refine LeO.ite ?_ ?_)
   | (with_reducible refine LeO.bind ?_ (fun _ => ?_))
   | exact ih0 _ _ _ _
   | exact LeO.none _
   | refine LeO.ite ?_ ?_
   | refine LeO.bind ?_ (fun _ => ?_)
theorem spec_hashes.mono : ∀ a0 k, LeO (spec_hashes.f k a0) (spec_hashes.f (k + 1) a0) := by
 intro a0 k
 have ih0 := spec_hashes.mono_l k
 unfold spec_hashes.f
 repeat' first
   | (with_reducible exact ih0 _ _ _ _)
   | (with_reducible exact LeO.refl _)
   | (with_reducible exact LeO.none _)
   | (with_reducible refine LeO.ite ?_ ?_)
   | (with_reducible refine LeO.bind ?_ (fun _ => ?_))
   | exact ih0 _ _ _ _
   | exact LeO.none _
   | refine LeO.ite ?_ ?_
   | refine LeO.bind ?_ (fun _ => ?_)
set_option maxHeartbeats 8000000 in
set_option maxRecDepth 100000 in
theorem spec_hashes.calls (k : Nat) (P0_ : Nat → Prop) (A0 : Option Addr) (c0 : Nat) (l0 : List (S60)) (r : List (List Int)) (w : World) (hs0 : Kd.V k60 60 w w.heap.size (fun k_ => P0_ k_) (.slice A0 l0.length c0) l0) (h : spec_hashes.f k l0 = some r) :
  Calls Tryd.prog 60 #[.slice A0 l0.length c0] w fun e w' => ∃ v0_ : Value, e = .returned (v0_) ∧ Kd.N (Kd.slice 5 (Kd.int .u8)) 27 w' w.heap.size (fun k_ => (P0_ k_ ∨ w.heap.size ≤ k_)) v0_ r ∧ Below w.heap.size w w' := by
 have hu60 := Tryd.underlying60
 have HO0 := Aside0.mk (show Kd.V k60 60 w w.heap.size (fun k_ => (P0_ k_ ∨ w.heap.size ≤ k_)) (.slice A0 l0.length c0) l0 from Kd.V_mono hs0 (fun k_ hk => .inl hk))
 have HB := Aside0.mk (Below.refl w.heap.size w)
 have H : (spec_hashes.l0 k l0 ([] : List (List Int)) (l0.length : Int) 0) = some r := h
 clear h
 have H' := Aside0.mk H
 clear H
 go_enter Tryd.func60, Tryd.ntmps60
 go_wp2
 go_loopg [3, 8] k (fun kq v3 v8 w' => ∃ (x3_1 : List (List Int)) (x8_1 : Int), v8 = .int .i64 x8_1 ∧ Aside0 (spec_hashes.l0 kq l0 x3_1 (l0.length : Int) x8_1 = some r) ∧ Aside0 (kq ≤ k) ∧ Aside0 (Kd.V k60 60 w' w.heap.size (fun k_ => (P0_ k_ ∨ w.heap.size ≤ k_) ∧ some k_ ≠ (v3 : Value).ownBlock) (.slice A0 l0.length c0) l0) ∧ Aside0 (Kd.N (Kd.slice 5 (Kd.int .u8)) 27 w' w.heap.size (fun k_ => (P0_ k_ ∨ w.heap.size ≤ k_)) v3 x3_1) ∧ Aside0 (Below w.heap.size w w'))
 case atStart => exact ⟨(([] : List (List Int))), (0), (by first | rfl | (simp; done) | (simp [*]; done)), H', ⟨Nat.le_refl _⟩, ⟨by (with_reducible repeat (first | apply Kd.V_alloc | apply Kd.V_drewN | apply Kd.V_drew)); exact Kd.V_mono HO0.out (fun _ hk => ⟨hk, (by simp [Value.ownBlock])⟩)⟩, ⟨by first | exact Kd.S_nil _ _ _ _ _ | exact Kd.N_nil _ _ _ _ _ | exact Kd.V_nil _ _ _ _ _ | exact Kd.Q_nil _ _ _ _ _ | exact Kd.R_nil _ _ _ _ _⟩, ⟨bB⟩⟩
 case round =>
  clear H'
  obtain ⟨x3_1, x8_1, rfl, HA, HK1, HO_0, HO_3, HB⟩ := hrel
  cases gk with
  | zero => exact absurd HA.out (by simp [spec_hashes.l0])
  | succ k1 =>
   have H := HA.out
   clear HA
   simp only [spec_hashes.l0] at H
   by_cases c2 : x8_1 < (l0.length : Int)
   ·rw [if_pos c2] at H
    have c2b0 : decide (x8_1 < (l0.length : Int)) = true := decide_eq_true c2
    clear c2
    by_cases c3 : 0 ≤ x8_1
    ·rw [if_pos c3] at H
     have c3b0 : decide (0 ≤ x8_1) = true := decide_eq_true c3
     clear c3
     by_cases c4 : x8_1 < (l0.length : Int)
     ·rw [if_pos c4] at H
      have c4b0 : decide (x8_1 < (l0.length : Int)) = true := decide_eq_true c4
      clear c4
      by_cases c5 : x3_1.length < 5864062014805
      ·rw [if_pos c5] at H
       have LMc5 := Aside0.mk c5
       clear c5
       obtain ⟨y197, hy197⟩ : ∃ y_ : List (List Int), y_ = (x3_1 ++ [(rd_T60 l0 x8_1).f1]) := ⟨_, rfl⟩
       replace H : (spec_hashes.l0 k1 l0 y197 (l0.length : Int) (wrap64 (x8_1 + 1))) = some r := by first | (rw [hy197]; with_reducible exact H) | (have H2_ := (Option.bind_some _ _).symm.trans H; rw [hy197]; with_reducible exact H2_) | (have H2_ := (Option.bind_some _ _).symm.trans H; with_reducible exact H2_) | with_reducible exact H | (rw [hy197]; exact H) | exact H
       have Ny197 := Aside0.mk hy197
       clear hy197
       have H' := Aside0.mk H
       clear H
       have p195 : 0 ≤ (x8_1 : Int) := dA
       have q195 : x8_1 < (l0.length : Int) := dA
       obtain ⟨ad195, A195_2, c195_2, e195, hx195_0, hx195_1, hx195_2, hl195_2, hi195_2⟩ := at_T60 (Kd.V_reads' HO_0.out).2.2 x8_1 p195 q195
       cases e195
       obtain ⟨ce195, hce195, hMe195, hcc195⟩ := Kd.V_get HO_0.out z60 x8_1 p195 (by first | exact q195 | exact dA | (have e_ := (Kd.V_reads' HO_0.out).1; omega))
       obtain ⟨ua195_2, uc195_2, rfl, ul195_2, ge195_2⟩ := k60_openF hMe195
       have hv195_2 := hcc195 2 _ rfl
       rw [add_field _ _ 2 (by omega)] at hv195_2
       replace hv195_2 := Option.some.inj (hv195_2.symm.trans hx195_2)
       injection hv195_2 with hva_ hvn_ hvc_
       rw [hva_] at ge195_2
       rw [hvc_] at ul195_2
       have HL195_2 := Aside0.mk (show Kd.V (Kd.int .u8) 5 _ w.heap.size _ _ ((rd_T60 l0 x8_1).f1) from Kd.V_mk ul195_2 ge195_2)
       clear hva_ hvn_ hvc_ ge195_2 ul195_2
       clear hcc195 hce195
       have HR195_2 := Aside0.mk hi195_2
       have HC195_2 := Aside0.mk hl195_2
       clear hi195_2 hl195_2
       replace p195 := eq_true p195
       replace q195 := eq_true q195
       go_wp2_with (first | ((with_reducible refine gate_dst (N := 5) rfl ?_); refine box_event ?hg (N := 5) ?hd (cs := #[.int .u64 0, .int .u64 0, .slice none 0 0]) (t := 60) ?hr ?_; (case hd => rfl); (case hg => rfl); (case hr => first | (go_simp; done) | (go_simp; rfl)); intro gb196 hg w6 hbox hb; have n0_ := Aside0.mk (Kd.V_below (Kd.V_elderB (kV HO_0.out) gb196 (Nat.le_of_eq hg.symm)) hb); have n1_ := Aside0.mk (Kd.N_below (Kd.N_elderB (by (with_reducible repeat (first | apply Kd.N_alloc | apply Kd.N_drewN | apply Kd.N_drew)); exact HO_3.out) gb196 (Nat.le_of_eq hg.symm)) hb); have n2_ := Aside0.mk (Kd.V_below (Kd.V_elderB (kV HL195_2.out) gb196 (Nat.le_of_eq hg.symm)) hb); have n3_ := Aside0.mk (Kd.C_below (by repeat (first | (with_reducible exact HR195_2.out) | (with_reducible refine Kd.C_alloc ?_ _) | (with_reducible refine Kd.C_drewN ?_ _) | (with_reducible refine Kd.C_drew ?_) | exact HR195_2.out)) hb); have n4_ := Aside0.mk (below_step bB hb); have n5_ := Aside0.mk (hbox); have n6_ := Aside0.mk ((by rw [hg]; exact (below_size bB) : w.heap.size ≤ gb196)); have n7_ := Aside0.mk ((by rw [hg]; exact (below_size bB) : w.heap.size ≤ gb196)); clear HO_0; clear HO_3; clear HL195_2; clear HR195_2; clear HB; have HO_0 := n0_; have HO_3 := n1_; have HL195_2 := n2_; have HR195_2 := n3_; have HB := n4_; have BK196 := n5_; have GW196 := n6_; have GE196 := n7_; clear n0_ n1_ n2_ n3_ n4_ n5_ n6_ n7_; clear hb hbox hg; have hcz7_0 : w6.cell? ⟨gb196, 0, none⟩ = some (.int .u64 0) := (blk_cell BK196.out 0).trans rfl; have hcz7_1 : w6.cell? ⟨gb196, 1, none⟩ = some (.int .u64 0) := (blk_cell BK196.out 1).trans rfl; have hcz7_2 : w6.cell? ⟨gb196, 2, none⟩ = some (.slice none 0 0) := (blk_cell BK196.out 2).trans rfl; have hfz7_0 := blk_frozen BK196.out 0; have hfz7_1 := blk_frozen BK196.out 1; have hfz7_2 := blk_frozen BK196.out 2) | ((with_reducible refine gate_store (t := 60) (p := 5) rfl ?_); refine store_event (t := 60) (p := 5) (v := ?vo_w8) (w1 := (((w6.setCell ⟨gb196, 0, none⟩ (.int .u64 ((rd_T60 l0 x8_1).f0.f0))).setCell ⟨gb196, 1, none⟩ (.int .u64 ((rd_T60 l0 x8_1).f0.f1))).setCell ⟨gb196, 2, none⟩ (.slice A195_2 ((rd_T60 l0 x8_1).f1).length c195_2))) ?hg ?ho ?hn ?hr ?_; (case ho => rfl); (case hg => rfl); (case hn => rfl); (case hr => first | (go_simp; done) | (go_simp; rfl)); intro w8 hw; have n0_ : Aside0 (Kd.V k60 60 w8 w.heap.size (fun k_ => (P0_ k_ ∨ w.heap.size ≤ k_) ∧ some k_ ≠ (u3 : Value).ownBlock ∧ k_ ≠ gb196) (.slice (some ad195) l0.length c0) l0) := ⟨(by rw [hw]; exact (by (with_reducible repeat (first | apply Kd.V_alloc | apply Kd.V_drewN | apply Kd.V_drew)); exact Kd.V_mono (Kd.V_far (p := ⟨gb196, 2, none⟩) (Kd.V_far (p := ⟨gb196, 1, none⟩) (Kd.V_far (p := ⟨gb196, 0, none⟩) (Kd.V_mono HO_0.out (fun k_ hk => (⟨hk, hk.2⟩ : _ ∧ k_ ≠ gb196))) (fun _ hk => hk.2) (.int .u64 ((rd_T60 l0 x8_1).f0.f0))) (fun _ hk => hk.2) (.int .u64 ((rd_T60 l0 x8_1).f0.f1))) (fun _ hk => hk.2) (.slice A195_2 ((rd_T60 l0 x8_1).f1).length c195_2)) (fun _ hk => ⟨hk.1.1.1, ⟨hk.1.1.2, hk.1.2⟩⟩)))⟩; have n1_ : Aside0 (Kd.N (Kd.slice 5 (Kd.int .u8)) 27 w8 w.heap.size (fun k_ => (P0_ k_ ∨ w.heap.size ≤ k_) ∧ k_ ≠ gb196) u3 x3_1) := ⟨(by rw [hw]; exact (by (with_reducible repeat (first | apply Kd.N_alloc | apply Kd.N_drewN | apply Kd.N_drew)); exact Kd.N_mono (Kd.N_far (p := ⟨gb196, 2, none⟩) (Kd.N_far (p := ⟨gb196, 1, none⟩) (Kd.N_far (p := ⟨gb196, 0, none⟩) (Kd.N_mono HO_3.out (fun k_ hk => (⟨hk, hk.2⟩ : _ ∧ k_ ≠ gb196))) (fun _ hk => hk.2) (.int .u64 ((rd_T60 l0 x8_1).f0.f0))) (fun _ hk => hk.2) (.int .u64 ((rd_T60 l0 x8_1).f0.f1))) (fun _ hk => hk.2) (.slice A195_2 ((rd_T60 l0 x8_1).f1).length c195_2)) (fun _ hk => ⟨hk.1.1, hk.1.2⟩)))⟩; have n2_ : Aside0 (Kd.V (Kd.int .u8) 5 w8 w.heap.size (fun k_ => (P0_ k_ ∨ w.heap.size ≤ k_) ∧ some k_ ≠ (u3 : Value).ownBlock ∧ k_ ≠ gb196) (.slice A195_2 ((rd_T60 l0 x8_1).f1).length c195_2) ((rd_T60 l0 x8_1).f1)) := ⟨(by rw [hw]; exact (by (with_reducible repeat (first | apply Kd.V_alloc | apply Kd.V_drewN | apply Kd.V_drew)); exact Kd.V_mono (Kd.V_far (p := ⟨gb196, 2, none⟩) (Kd.V_far (p := ⟨gb196, 1, none⟩) (Kd.V_far (p := ⟨gb196, 0, none⟩) (Kd.V_mono HL195_2.out (fun k_ hk => (⟨hk, hk.2⟩ : _ ∧ k_ ≠ gb196))) (fun _ hk => hk.2) (.int .u64 ((rd_T60 l0 x8_1).f0.f0))) (fun _ hk => hk.2) (.int .u64 ((rd_T60 l0 x8_1).f0.f1))) (fun _ hk => hk.2) (.slice A195_2 ((rd_T60 l0 x8_1).f1).length c195_2)) (fun _ hk => ⟨hk.1.1.1, ⟨hk.1.1.2, hk.1.2⟩⟩)))⟩; have n3_ : Aside0 (w8.heap[gb196]? = some (.cells #[.int .u64 ((rd_T60 l0 x8_1).f0.f0), .int .u64 ((rd_T60 l0 x8_1).f0.f1), .slice A195_2 ((rd_T60 l0 x8_1).f1).length c195_2] 60 (0, 0))) := ⟨(by rw [hw]; exact (by (with_reducible repeat (first | refine blk_drewN ?_ _ | refine blk_drew ?_ | refine blk_alloc ?_ _)); refine blk_put (cs := #[.int .u64 ((rd_T60 l0 x8_1).f0.f0), .int .u64 ((rd_T60 l0 x8_1).f0.f1), .slice none 0 0]) ?_ 2 _ rfl; (with_reducible repeat (first | refine blk_drewN ?_ _ | refine blk_drew ?_ | refine blk_alloc ?_ _)); refine blk_put (cs := #[.int .u64 ((rd_T60 l0 x8_1).f0.f0), .int .u64 0, .slice none 0 0]) ?_ 1 _ rfl; (with_reducible repeat (first | refine blk_drewN ?_ _ | refine blk_drew ?_ | refine blk_alloc ?_ _)); refine blk_put (cs := #[.int .u64 0, .int .u64 0, .slice none 0 0]) ?_ 0 _ rfl; (with_reducible repeat (first | refine blk_drewN ?_ _ | refine blk_drew ?_ | refine blk_alloc ?_ _)); exact BK196.out))⟩; have n4_ : Aside0 (Below w.heap.size w w8) := ⟨(by rw [hw]; exact bB)⟩; clear hw; clear HO_0; clear HO_3; clear HL195_2; clear BK196; clear HB; have HO_0 := n0_; have HO_3 := n1_; have HL195_2 := n2_; have BK196 := n3_; have HB := n4_; clear n0_ n1_ n2_ n3_ n4_; have hcz9_0 : w8.cell? ⟨gb196, 0, none⟩ = some (.int .u64 ((rd_T60 l0 x8_1).f0.f0)) := (blk_cell BK196.out 0).trans rfl; have hcz9_1 : w8.cell? ⟨gb196, 1, none⟩ = some (.int .u64 ((rd_T60 l0 x8_1).f0.f1)) := (blk_cell BK196.out 1).trans rfl; have hcz9_2 : w8.cell? ⟨gb196, 2, none⟩ = some (.slice A195_2 ((rd_T60 l0 x8_1).f1).length c195_2) := (blk_cell BK196.out 2).trans rfl; have hfz9_0 := blk_frozen BK196.out 0; have hfz9_1 := blk_frozen BK196.out 1; have hfz9_2 := blk_frozen BK196.out 2) | ((with_reducible refine gate_builtin (b := .append) (xs := #[.tmp 12, .tmp 15]) rfl ?_); at_builtin; refine Kd.N_append (Kd.slice 5 (Kd.int .u8)) (w0 := w) w.heap.size rfl (.tmp 12) (.tmp 15) 25 27 (.slice none 0 0) 24 rfl Tryd.underlying25 info27 rfl (by decide) (by omega) u3 x3_1 ((rd_T60 l0 x8_1).f1) [.slice A195_2 ((rd_T60 l0 x8_1).f1).length c195_2] (fun k_ => (P0_ k_ ∨ w.heap.size ≤ k_) ∧ k_ ≠ gb196) (fun k_ => ((fun k_ => (P0_ k_ ∨ w.heap.size ≤ k_) ∧ k_ ≠ gb196)) k_ ∧ some k_ ≠ (u3 : Value).ownBlock) rfl rfl ?aP (fun _ hk => hk) ?aF ?aO ?aB ?aS ?aL ?_; (case aP => exact (Kd.FK_slice_mk (Kd.V_reads' (Kd.V_mono (ok' := (fun k_ => ((fun k_ => (P0_ k_ ∨ w.heap.size ≤ k_) ∧ k_ ≠ gb196)) k_ ∧ some k_ ≠ (u3 : Value).ownBlock)) (HL195_2.out) (fun k_ hk => ⟨⟨hk.1, hk.2.2⟩, hk.2.1⟩))).2.1 (Kd.V_F (Kd.V_mono (ok' := (fun k_ => ((fun k_ => (P0_ k_ ∨ w.heap.size ≤ k_) ∧ k_ ≠ gb196)) k_ ∧ some k_ ≠ (u3 : Value).ownBlock)) (HL195_2.out) (fun k_ hk => ⟨⟨hk.1, hk.2.2⟩, hk.2.1⟩))))); (case aB => exact bB); (case aF => exact (fun k_ hk => ⟨(.inr (Nat.le_trans (below_size bB) hk)), Kd.freshB (g := gb196) (o := .cells #[.int .u64 ((rd_T60 l0 x8_1).f0.f0), .int .u64 ((rd_T60 l0 x8_1).f0.f1), .slice A195_2 ((rd_T60 l0 x8_1).f1).length c195_2] 60 (0, 0)) (kB BK196.out) k_ hk⟩)); (case aO => exact (by (with_reducible repeat (first | apply Kd.N_alloc | apply Kd.N_drewN | apply Kd.N_drew)); exact HO_3.out)); (case aS => exact (below_size bB)); (case aL => have := LMc5.out; omega); intro v198 w10 ho hb hg hat; rw [← Ny197.out] at ho; have n0_ := Aside0.mk (Kd.V_afterv (ok := (fun k_ => (P0_ k_ ∨ w.heap.size ≤ k_) ∧ k_ ≠ gb196)) (by (with_reducible repeat (first | apply Kd.V_alloc | apply Kd.V_drewN | apply Kd.V_drew)); exact Kd.V_mono HO_0.out (fun _ hk => ⟨⟨hk.1, hk.2.2⟩, hk.2.1⟩)) hg hat); have n1_ := Aside0.mk (Kd.V_afterv (ok := (fun k_ => (P0_ k_ ∨ w.heap.size ≤ k_) ∧ k_ ≠ gb196)) (by (with_reducible repeat (first | apply Kd.V_alloc | apply Kd.V_drewN | apply Kd.V_drew)); exact Kd.V_mono HL195_2.out (fun _ hk => ⟨⟨hk.1, hk.2.2⟩, hk.2.1⟩)) hg hat); have n2_ := Aside0.mk (blk_grown (g := gb196) (o := .cells #[.int .u64 ((rd_T60 l0 x8_1).f0.f0), .int .u64 ((rd_T60 l0 x8_1).f0.f1), .slice A195_2 ((rd_T60 l0 x8_1).f1).length c195_2] 60 (0, 0)) (kB BK196.out) hg (Kd.N_ne HO_3.out BK196.out (by decide))); have n3_ := Aside0.mk (hb); have n4_ := Aside0.mk (ho); clear HO_0; clear HL195_2; clear BK196; clear HB; clear HO_3; have HO_0 := n0_; have HL195_2 := n1_; have BK196 := n2_; have HB := n3_; have HO199 := n4_; clear n0_ n1_ n2_ n3_ n4_; clear ho hb hg hat))
       go_roundg k1
       case measure => have := HK1.out; omega
       case rel => exact ⟨(y197), (wrap64 (x8_1 + 1)), (by first | rfl | (simp; done) | (simp [*]; done)), H', ⟨by have := HK1.out; omega⟩, ⟨by (with_reducible repeat (first | apply Kd.V_alloc | apply Kd.V_drewN | apply Kd.V_drew)); exact Kd.V_mono HO_0.out (fun _ hk => ⟨hk.1.1, hk.2⟩)⟩, ⟨by (with_reducible repeat (first | apply Kd.N_alloc | apply Kd.N_drewN | apply Kd.N_drew)); exact Kd.N_mono HO199.out (fun _ hk => hk.1)⟩, ⟨bB⟩⟩
      ·rw [if_neg c5] at H
       exact absurd H (by simp)
     ·rw [if_neg c4] at H
      exact absurd H (by simp)
    ·rw [if_neg c3] at H
     exact absurd H (by simp)
   ·rw [if_neg c2] at H
    have c2b0 : decide (x8_1 < (l0.length : Int)) = false := decide_eq_false c2
    clear c2
    obtain rfl := Option.some.inj H
    go_wp2
    go_ret
    exact ⟨_, by first | rfl | (simp [errW_none, errW_some] <;> rfl) | (simp [*, errW_none, errW_some] <;> rfl), by (with_reducible repeat (first | apply Kd.N_alloc | apply Kd.N_drewN | apply Kd.N_drew)); exact HO_3.out, bB⟩

end Go.Proofs.YtkmdkmlgahfcpaaDoor.M

