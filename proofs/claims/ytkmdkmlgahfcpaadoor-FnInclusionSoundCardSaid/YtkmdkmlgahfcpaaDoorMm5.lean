-- Written by a program of ours (wip/xp) out of the translation; Lean checks it.
import Derived.Test.YtkmdkmlgahfcpaaDoorSq
import Derived.Test.YtkmdkmlgahfcpaaDoorMm1
namespace Go.Proofs.YtkmdkmlgahfcpaaDoor.M
open Go.RowKit Go.Proofs.YtkmdkmlgahfcpaaDoorW.PrintWords Go.Proofs.YtkmdkmlgahfcpaaDoorW.PrintLast Go.Proofs.YtkmdkmlgahfcpaaDoorW.PrintMore
attribute [local go_sem] max2_int min2_int max_two min_two max_three min_three max_four min_four   -- for this text's walks alone
set_option linter.unusedVariables false
set_option linter.unusedSimpArgs false

/-! ### spec_word: function 114 -/
mutual
def spec_word.l0 : Nat → Int → List Int → Int → Int → Int → Int → Int → Int → Int → Int → Option (List Int)
 | 0, _, _, _, _, _, _, _, _, _, _ => none
 | k + 1, x1, x12, x13, x14, x250000, x250001, x250002, x250003, x250004, x250005 => if x14 < x13 then (if 0 ≤ x14 then (if x14 < (x12.length : Int) then (spec_word.l0 k (IntKind.u64.wrap ((Go.bits .xor .u64 x1 (IntKind.u64.wrap (rd x12 x14))) * 1099511628211)) x12 x13 (wrap64 (x14 + 1)) x250000 x250001 x250002 x250003 x250004 x250005) else (none)) else (none)) else (if x250002 < 1 then (spec_word.j1 k x1 x250002 true) else (spec_word.j1 k x1 x250002 (decide (x250002 > 8))))
def spec_word.j1 : Nat → Int → Int → Bool → Option (List Int)
 | 0, _, _, _ => none
 | k + 1, x1, x9, x31 => if x31 = true then (spec_word.j2 k x1 8) else (spec_word.j2 k x1 x9)
def spec_word.j2 : Nat → Int → Int → Option (List Int)
 | 0, _, _ => none
 | k + 1, x1, x9 => spec_word.l1 k x1 ([] : List Int) (wrap64 (x9 - 1))
def spec_word.l1 : Nat → Int → List Int → Int → Option (List Int)
 | 0, _, _, _ => none
 | k + 1, x1, x10, x11 => if x11 ≥ 0 then (if 0 ≤ (wrap64 (8 * x11)) then (if x10.length < 140737488355328 then (spec_word.l1 k x1 (x10 ++ [(shr .u64 x1 (wrap64 (8 * x11))) % 256]) (wrap64 (x11 - 1))) else (none)) else (none)) else (some x10)
end
def spec_word.f (k : Nat) (a0_0 : Int) (a0_1 : Int) (a0_2 : Int) (a0_3 : Int) (a0_4 : Int) (a0_5 : Int) (a1 : Int) (l2 : List Int) : Option (List Int) := spec_word.l0 k a1 l2 (l2.length : Int) 0 a0_0 a0_1 a0_2 a0_3 a0_4 a0_5
theorem spec_word.mono_l : ∀ k, (∀ y0 y1 y2 y3 y4 y5 y6 y7 y8 y9, LeO (spec_word.l0 k y0 y1 y2 y3 y4 y5 y6 y7 y8 y9) (spec_word.l0 (k + 1) y0 y1 y2 y3 y4 y5 y6 y7 y8 y9)) ∧ (∀ y0 y1 y2, LeO (spec_word.j1 k y0 y1 y2) (spec_word.j1 (k + 1) y0 y1 y2)) ∧ (∀ y0 y1, LeO (spec_word.j2 k y0 y1) (spec_word.j2 (k + 1) y0 y1)) ∧ (∀ y0 y1 y2, LeO (spec_word.l1 k y0 y1 y2) (spec_word.l1 (k + 1) y0 y1 y2))
 | 0 => ⟨fun _ _ _ _ _ _ _ _ _ _ r h => by simp [spec_word.l0] at h, fun _ _ _ r h => by simp [spec_word.j1] at h, fun _ _ r h => by simp [spec_word.j2] at h, fun _ _ _ r h => by simp [spec_word.l1] at h⟩
 | k + 1 => by
  obtain ⟨ih0, ih1, ih2, ih3⟩ := spec_word.mono_l k
  refine ⟨?_, ?_, ?_, ?_⟩
  ·intro y0 y1 y2 y3 y4 y5 y6 y7 y8 y9
   unfold spec_word.l0
   repeat' first
   | (with_reducible exact ih0 _ _ _ _ _ _ _ _ _ _)
   | (with_reducible exact ih1 _ _ _)
   | (with_reducible exact ih2 _ _)
   | (with_reducible exact ih3 _ _ _)
   | (with_reducible exact LeO.refl _)
   | (with_reducible exact LeO.none _)
   | (with_reducible refine LeO.ite ?_ ?_)
   | (with_reducible refine LeO.bind ?_ (fun _ => ?_))
   | exact ih0 _ _ _ _ _ _ _ _ _ _
   | exact ih1 _ _ _
   | exact ih2 _ _
   | exact ih3 _ _ _
   | exact LeO.none _
   | refine LeO.ite ?_ ?_
   | refine LeO.bind ?_ (fun _ => ?_)
  ·intro y0 y1 y2
   unfold spec_word.j1
   repeat' first
   | (with_reducible exact ih0 _ _ _ _ _ _ _ _ _ _)
   | (with_reducible exact ih1 _ _ _)
   | (with_reducible exact ih2 _ _)
   | (with_reducible exact ih3 _ _ _)
   | (with_reducible exact LeO.refl _)
   | (with_reducible exact LeO.none _)
   | (with_reducible refine LeO.ite ?_ ?_)
   | (with_reducible refine LeO.bind ?_ (fun _ => ?_))
   | exact ih0 _ _ _ _ _ _ _ _ _ _
   | exact ih1 _ _ _
   | exact ih2 _ _
   | exact ih3 _ _ _
   | exact LeO.none _
   | refine LeO.ite ?_ ?_
   | refine LeO.bind ?_ (fun _ => ?_)
  ·intro y0 y1
   unfold spec_word.j2
   repeat' first
   | (with_reducible exact ih0 _ _ _ _ _ _ _ _ _ _)
   | (with_reducible exact ih1 _ _ _)
   | (with_reducible exact ih2 _ _)
   | (with_reducible exact ih3 _ _ _)
   | (with_reducible exact LeO.refl _)
   | (with_reducible exact LeO.none _)
   | (with_reducible refine LeO.ite ?_ ?_)
   | (with_reducible refine LeO.bind ?_ (fun _ => ?_))
   | exact ih0 _ _ _ _ _ _ _ _ _ _
   | exact ih1 _ _ _
   | exact ih2 _ _
   | exact ih3 _ _ _
   | exact LeO.none _
   | refine LeO.ite ?_ ?_
   | refine LeO.bind ?_ (fun _ => ?_)
  ·intro y0 y1 y2
   unfold spec_word.l1
   repeat' first
   | (with_reducible exact ih0 _ _ _ _ _ _ _ _ _ _)
   | (with_reducible exact ih1 _ _ _)
   | (with_reducible exact ih2 _ _)
   | (with_reducible exact ih3 _ _ _)
   | (with_reducible exact LeO.refl _)
   | (with_reducible exact LeO.none _)
   | (with_reducible refine LeO.ite ?_ ?_)
   | (with_reducible refine LeO.bind ?_ (fun _ => ?_))
   | exact ih0 _ _ _ _ _ _ _ _ _ _
   | exact ih1 _ _ _
   | exact ih2 _ _
   | exact ih3 _ _ _
   | exact LeO.none _
   | refine LeO.ite ?_ ?_
   | refine LeO.bind ?_ (fun _ => ?_)
theorem spec_word.mono : ∀ a0 a1 a2 a3 a4 a5 a6 a7 k, LeO (spec_word.f k a0 a1 a2 a3 a4 a5 a6 a7) (spec_word.f (k + 1) a0 a1 a2 a3 a4 a5 a6 a7) := by
 intro a0 a1 a2 a3 a4 a5 a6 a7 k
 obtain ⟨ih0, ih1, ih2, ih3⟩ := spec_word.mono_l k
 unfold spec_word.f
 repeat' first
   | (with_reducible exact ih0 _ _ _ _ _ _ _ _ _ _)
   | (with_reducible exact ih1 _ _ _)
   | (with_reducible exact ih2 _ _)
   | (with_reducible exact ih3 _ _ _)
   | (with_reducible exact LeO.refl _)
   | (with_reducible exact LeO.none _)
   | (with_reducible refine LeO.ite ?_ ?_)
   | (with_reducible refine LeO.bind ?_ (fun _ => ?_))
   | exact ih0 _ _ _ _ _ _ _ _ _ _
   | exact ih1 _ _ _
   | exact ih2 _ _
   | exact ih3 _ _ _
   | exact LeO.none _
   | refine LeO.ite ?_ ?_
   | refine LeO.bind ?_ (fun _ => ?_)
set_option maxHeartbeats 8000000 in
set_option maxRecDepth 100000 in
theorem spec_word.calls (k : Nat) (a0_0 : Int) (a0_1 : Int) (a0_2 : Int) (a0_3 : Int) (a0_4 : Int) (a0_5 : Int) (a1 : Int) (A2 : Option Addr) (c2 : Nat) (l2 : List Int) (r : List Int) (w : World) (hr2 : Kd.C (Kd.int .u8) w A2 l2.length l2) (hc2 : l2.length ≤ c2) (h : spec_word.f k a0_0 a0_1 a0_2 a0_3 a0_4 a0_5 a1 l2 = some r) :
  Calls Tryd.prog 114 #[.agg #[.int .i64 a0_0, .int .i64 a0_1, .int .i64 a0_2, .int .u64 a0_3, .int .u64 a0_4, .int .u64 a0_5], .int .u64 a1, .slice A2 l2.length c2] w fun e w' => ∃ v0_ : Value, e = .returned (v0_) ∧ Kd.R (Kd.int .u8) 5 w' w.heap.size (fun _ => True) v0_ r ∧ Below w.heap.size w w' := by
 have hu24 := Tryd.underlying24
 have HR2 := Aside0.mk hr2
 have HC2 := Aside0.mk hc2
 clear hr2 hc2
 have HB := Aside0.mk (Below.refl w.heap.size w)
 have H : (spec_word.l0 k a1 l2 (l2.length : Int) 0 a0_0 a0_1 a0_2 a0_3 a0_4 a0_5) = some r := h
 clear h
 have H' := Aside0.mk H
 clear H
 go_enter Tryd.func114, Tryd.ntmps114
 go_wp2_with (first | ((with_reducible refine gate_dst (N := 3) rfl ?_); refine box_event ?hg (N := 3) ?hd (cs := #[.int .i64 a0_0, .int .i64 a0_1, .int .i64 a0_2, .int .u64 a0_3, .int .u64 a0_4, .int .u64 a0_5]) (t := 24) ?hr ?_; (case hd => rfl); (case hg => rfl); (case hr => first | (go_simp; done) | (go_simp; rfl)); intro gb249 hg w4 hbox hb; have n0_ := Aside0.mk (below_step bB hb); have n1_ := Aside0.mk (hbox); have n2_ := Aside0.mk ((by rw [hg]; exact (below_size bB) : w.heap.size ≤ gb249)); have n3_ := Aside0.mk ((by rw [hg]; exact (below_size bB) : w.heap.size ≤ gb249)); clear HB; have HB := n0_; have BK249 := n1_; have GW249 := n2_; have GE249 := n3_; clear n0_ n1_ n2_ n3_; clear hb hbox hg))
 go_loopg [1, 14] k (fun kq v1 v14 w' => ∃ (x1_1 : Int) (x14_1 : Int), v1 = .int .u64 x1_1 ∧ v14 = .int .i64 x14_1 ∧ Aside0 (spec_word.l0 kq x1_1 l2 (l2.length : Int) x14_1 a0_0 a0_1 a0_2 a0_3 a0_4 a0_5 = some r) ∧ Aside0 (kq ≤ k) ∧ Aside0 (w'.heap[gb249]? = some (.cells #[.int .i64 a0_0, .int .i64 a0_1, .int .i64 a0_2, .int .u64 a0_3, .int .u64 a0_4, .int .u64 a0_5] 24 (0, 0))) ∧ Aside0 (Below w.heap.size w w'))
 case atStart => exact ⟨(a1), (0), (by first | rfl | (simp; done) | (simp [*]; done)), (by first | rfl | (simp; done) | (simp [*]; done)), H', ⟨Nat.le_refl _⟩, ⟨by (with_reducible repeat (first | refine blk_drewN ?_ _ | refine blk_drew ?_ | refine blk_alloc ?_ _)); exact BK249.out⟩, ⟨bB⟩⟩
 case round =>
  clear H'
  try clear c1
  try clear c2
  try clear p2
  obtain ⟨x1_1, x14_1, rfl, rfl, HA, HK1, BK249, HB⟩ := hrel
  cases gk with
  | zero => exact absurd HA.out (by simp [spec_word.l0])
  | succ k1 =>
   have H := HA.out
   clear HA
   simp only [spec_word.l0] at H
   by_cases c5 : x14_1 < (l2.length : Int)
   ·rw [if_pos c5] at H
    have c5b0 : decide (x14_1 < (l2.length : Int)) = true := decide_eq_true c5
    clear c5
    by_cases c6 : 0 ≤ x14_1
    ·rw [if_pos c6] at H
     have c6b0 : decide (0 ≤ x14_1) = true := decide_eq_true c6
     clear c6
     by_cases c7 : x14_1 < (l2.length : Int)
     ·rw [if_pos c7] at H
      have c7b0 : decide (x14_1 < (l2.length : Int)) = true := decide_eq_true c7
      clear c7
      have H' := Aside0.mk H
      clear H
      have p250 : 0 ≤ (x14_1 : Int) := dA
      have q250 : x14_1 < (l2.length : Int) := dA
      obtain ⟨ad250, e250, hx250_0⟩ := Kd.at_int HR2.out x14_1 p250 q250
      cases e250
      replace hx250_0 := (HB.out.cell (World.block_lt_of_cell? w _ hx250_0)).trans hx250_0
      replace p250 := eq_true p250
      replace q250 := eq_true q250
      go_wp2
      go_roundg k1
      case measure => have := HK1.out; omega
      case rel => exact ⟨(IntKind.u64.wrap ((Go.bits .xor .u64 x1_1 (IntKind.u64.wrap (rd l2 x14_1))) * 1099511628211)), (wrap64 (x14_1 + 1)), (by first | rfl | (simp; done) | (simp [*]; done)), (by first | rfl | (simp; done) | (simp [*]; done)), H', ⟨by have := HK1.out; omega⟩, ⟨by (with_reducible repeat (first | refine blk_drewN ?_ _ | refine blk_drew ?_ | refine blk_alloc ?_ _)); exact BK249.out⟩, ⟨bB⟩⟩
     ·rw [if_neg c7] at H
      exact absurd H (by simp)
    ·rw [if_neg c6] at H
     exact absurd H (by simp)
   ·rw [if_neg c5] at H
    have c5b0 : decide (x14_1 < (l2.length : Int)) = false := decide_eq_false c5
    clear c5
    have HC8 := Aside0.mk H
    clear H
    have hcz9_0 : wr.cell? ⟨gb249, 0, none⟩ = some (.int .i64 a0_0) := (blk_cell BK249.out 0).trans rfl
    have hcz9_1 : wr.cell? ⟨gb249, 1, none⟩ = some (.int .i64 a0_1) := (blk_cell BK249.out 1).trans rfl
    have hcz9_2 : wr.cell? ⟨gb249, 2, none⟩ = some (.int .i64 a0_2) := (blk_cell BK249.out 2).trans rfl
    have hcz9_3 : wr.cell? ⟨gb249, 3, none⟩ = some (.int .u64 a0_3) := (blk_cell BK249.out 3).trans rfl
    have hcz9_4 : wr.cell? ⟨gb249, 4, none⟩ = some (.int .u64 a0_4) := (blk_cell BK249.out 4).trans rfl
    have hcz9_5 : wr.cell? ⟨gb249, 5, none⟩ = some (.int .u64 a0_5) := (blk_cell BK249.out 5).trans rfl
    have hfz9_0 := blk_frozen BK249.out 0
    have hfz9_1 := blk_frozen BK249.out 1
    have hfz9_2 := blk_frozen BK249.out 2
    have hfz9_3 := blk_frozen BK249.out 3
    have hfz9_4 := blk_frozen BK249.out 4
    have hfz9_5 := blk_frozen BK249.out 5
    go_upto_region 7 with (fail)
    go_cut [31] (fun v31 wc => ∃ (kq : Nat) (x31_7 : Bool), v31 = .bool x31_7 ∧ Aside0 (spec_word.j1 kq x1_1 a0_2 x31_7 = some r) ∧ Aside0 (kq ≤ k1) ∧ Aside0 (wc.heap[gb249]? = some (.cells #[.int .i64 a0_0, .int .i64 a0_1, .int .i64 a0_2, .int .u64 a0_3, .int .u64 a0_4, .int .u64 a0_5] 24 (0, 0))) ∧ Aside0 (Below w.heap.size w wc))
    case first =>
     have H := HC8.out
     clear HC8
     by_cases c10 : a0_2 < 1
     ·rw [if_pos c10] at H
      have c10b0 : decide (a0_2 < 1) = true := decide_eq_true c10
      clear c10
      (first | rw [c10b0] | (simp only [i64_w, i32_w]; rw [c10b0]) | skip)
      have H' := Aside0.mk H
      clear H
      go_wp2
      go_meet
      case rel => exact ⟨_, (true), (by first | rfl | (simp; done) | (simp [*]; done)), H', ⟨by have := HK1.out; first | omega | exact Nat.le_refl _⟩, ⟨by (with_reducible repeat (first | refine blk_drewN ?_ _ | refine blk_drew ?_ | refine blk_alloc ?_ _)); exact BK249.out⟩, ⟨bB⟩⟩
     ·rw [if_neg c10] at H
      have c10b0 : decide (a0_2 < 1) = false := decide_eq_false c10
      clear c10
      (first | rw [c10b0] | (simp only [i64_w, i32_w]; rw [c10b0]) | skip)
      have H' := Aside0.mk H
      clear H
      go_wp2
      go_meet
      case rel => exact ⟨_, (decide (a0_2 > 8)), (by first | rfl | (simp; done) | (simp [*]; done)), H', ⟨by have := HK1.out; first | omega | exact Nat.le_refl _⟩, ⟨by (with_reducible repeat (first | refine blk_drewN ?_ _ | refine blk_drew ?_ | refine blk_alloc ?_ _)); exact BK249.out⟩, ⟨bB⟩⟩
    case rest =>
     clear HC8
     try clear c1
     try clear c2
     try clear p2
     try clear q2
     try clear hx2
     try clear c5
     try clear c5b0
     try clear c6
     try clear c6b0
     try clear p6
     try clear c7
     try clear c7b0
     try clear c10
     try clear c10b0
     try clear hcz9_0
     try clear hcz9_1
     try clear hcz9_2
     try clear hcz9_3
     try clear hcz9_4
     try clear hcz9_5
     try clear hfz9_0
     try clear hfz9_1
     try clear hfz9_2
     try clear hfz9_3
     try clear hfz9_4
     try clear hfz9_5
     try clear hx250_0
     try clear p2
     try clear p250
     try clear q250
     obtain ⟨kq, x31_7, rfl, HA, HJ7, BK249, HB⟩ := hcut
     cases kq with
     | zero => exact absurd HA.out (by simp [spec_word.j1])
     | succ kj7 =>
      have H := HA.out
      clear HA
      simp only [spec_word.j1] at H
      have HC11 := Aside0.mk H
      clear H
      go_upto_if 31 with (fail)
      go_cut [9] (fun v9 wc => ∃ (kq : Nat) (x9_10 : Int), v9 = .int .i64 x9_10 ∧ Aside0 (spec_word.j2 kq x1_1 x9_10 = some r) ∧ Aside0 (kq ≤ kj7) ∧ Aside0 (wc.heap[gb249]? = some (.cells #[.int .i64 a0_0, .int .i64 a0_1, .int .i64 a0_2, .int .u64 a0_3, .int .u64 a0_4, .int .u64 a0_5] 24 (0, 0))) ∧ Aside0 (Below w.heap.size w wc))
      case first =>
       have H := HC11.out
       clear HC11
       by_cases c12 : x31_7 = true
       ·subst c12
        have H1 : (spec_word.j2 kj7 x1_1 8) = some r := by rw [if_pos rfl] at H; exact H
        clear H
        have H := H1
        clear H1
        have H' := Aside0.mk H
        clear H
        go_wp2
        go_meet
        case rel => exact ⟨_, (8), (by first | rfl | (simp; done) | (simp [*]; done)), H', ⟨by have := HK1.out; have := HJ7.out; first | omega | exact Nat.le_refl _⟩, ⟨by (with_reducible repeat (first | refine blk_drewN ?_ _ | refine blk_drew ?_ | refine blk_alloc ?_ _)); exact BK249.out⟩, ⟨bB⟩⟩
       ·replace c12 := Bool.eq_false_iff.mpr c12
        subst c12
        have H1 : (spec_word.j2 kj7 x1_1 a0_2) = some r := by rw [if_neg (show ¬ (false = true) by decide)] at H; exact H
        clear H
        have H := H1
        clear H1
        have H' := Aside0.mk H
        clear H
        go_wp2
        go_meet
        case rel => exact ⟨_, (a0_2), (by first | rfl | (simp; done) | (simp [*]; done)), H', ⟨by have := HK1.out; have := HJ7.out; first | omega | exact Nat.le_refl _⟩, ⟨by (with_reducible repeat (first | refine blk_drewN ?_ _ | refine blk_drew ?_ | refine blk_alloc ?_ _)); exact BK249.out⟩, ⟨bB⟩⟩
      case rest =>
       clear HC11
       try clear c1
       try clear c2
       try clear p2
       try clear q2
       try clear hx2
       try clear c5
       try clear c5b0
       try clear c6
       try clear c6b0
       try clear p6
       try clear c7
       try clear c7b0
       try clear c10
       try clear c10b0
       try clear c11
       try clear c12
       try clear hcz9_0
       try clear hcz9_1
       try clear hcz9_2
       try clear hcz9_3
       try clear hcz9_4
       try clear hcz9_5
       try clear hfz9_0
       try clear hfz9_1
       try clear hfz9_2
       try clear hfz9_3
       try clear hfz9_4
       try clear hfz9_5
       try clear hx250_0
       try clear p2
       try clear p250
       try clear p6
       try clear q2
       try clear q250
       obtain ⟨kq, x9_10, rfl, HA, HJ10, BK249, HB⟩ := hcut
       cases kq with
       | zero => exact absurd HA.out (by simp [spec_word.j2])
       | succ kj10 =>
        have H := HA.out
        clear HA
        simp only [spec_word.j2] at H
        have H' := Aside0.mk H
        clear H
        go_wp2
        go_loopg [10, 11] kj10 (fun kq v10 v11 w' => ∃ (x10_4 : List Int) (x11_4 : Int), v11 = .int .i64 x11_4 ∧ Aside0 (spec_word.l1 kq x1_1 x10_4 x11_4 = some r) ∧ Aside0 (kq ≤ kj10) ∧ Aside0 (Kd.R (Kd.int .u8) 5 w' w.heap.size (fun _ => True) v10 x10_4) ∧ Aside0 (w'.heap[gb249]? = some (.cells #[.int .i64 a0_0, .int .i64 a0_1, .int .i64 a0_2, .int .u64 a0_3, .int .u64 a0_4, .int .u64 a0_5] 24 (0, 0))) ∧ Aside0 (Below w.heap.size w w'))
        case atStart => exact ⟨(([] : List Int)), (wrap64 (x9_10 - 1)), (by first | rfl | (simp; done) | (simp [*]; done)), H', ⟨Nat.le_refl _⟩, ⟨by first | exact Kd.R_nil _ _ _ _ _ | exact Kd.N_nil _ _ _ _ _ | exact Kd.V_nil _ _ _ _ _ | exact Kd.Q_nil _ _ _ _ _ | exact Kd.S_nil _ _ _ _ _⟩, ⟨by (with_reducible repeat (first | refine blk_drewN ?_ _ | refine blk_drew ?_ | refine blk_alloc ?_ _)); exact BK249.out⟩, ⟨bB⟩⟩
        case round =>
         clear H'
         try clear c1
         try clear c2
         try clear p2
         try clear q2
         try clear hx2
         try clear c5
         try clear c5b0
         try clear c6
         try clear c6b0
         try clear p6
         try clear c7
         try clear c7b0
         try clear c10
         try clear c10b0
         try clear c11
         try clear c12
         try clear hcz9_0
         try clear hcz9_1
         try clear hcz9_2
         try clear hcz9_3
         try clear hcz9_4
         try clear hcz9_5
         try clear hfz9_0
         try clear hfz9_1
         try clear hfz9_2
         try clear hfz9_3
         try clear hfz9_4
         try clear hfz9_5
         try clear hx250_0
         try clear p2
         try clear p250
         try clear p6
         try clear q2
         try clear q250
         obtain ⟨x10_4, x11_4, rfl, HA, HK4, HO_10, BK249, HB⟩ := hrel
         cases gk with
         | zero => exact absurd HA.out (by simp [spec_word.l1])
         | succ k4 =>
          have H := HA.out
          clear HA
          simp only [spec_word.l1] at H
          by_cases c13 : x11_4 ≥ 0
          ·rw [if_pos c13] at H
           have c13b0 : decide (0 ≤ x11_4) = true := decide_eq_true c13
           clear c13
           obtain ⟨ji14, hji14⟩ : ∃ j_ : Int, (wrap64 (8 * x11_4)) = j_ := ⟨_, rfl⟩
           replace H : (if 0 ≤ (ji14) then (if x10_4.length < 140737488355328 then (spec_word.l1 k4 x1_1 (x10_4 ++ [(shr .u64 x1_1 (ji14)) % 256]) (wrap64 (x11_4 - 1))) else (none)) else (none)) = some r := by first | (rw [hji14] at H; exact H) | (simp only [hji14] at H ⊢; exact H)
           have hji14w : (IntKind.i64.wrap (8 * x11_4)) = ji14 := (i64_w _).trans hji14
           by_cases c15 : 0 ≤ (ji14)
           ·rw [if_pos c15] at H
            have c15b0 := eq_true c15
            have c15b1 : decide (0 ≤ (ji14)) = true := decide_eq_true c15
            clear c15
            obtain ⟨ji16, hji16⟩ : ∃ j_ : Int, (shr .u64 x1_1 (ji14)) = j_ := ⟨_, rfl⟩
            replace H : (if x10_4.length < 140737488355328 then (spec_word.l1 k4 x1_1 (x10_4 ++ [(ji16) % 256]) (wrap64 (x11_4 - 1))) else (none)) = some r := by first | (rw [hji16] at H; exact H) | (simp only [hji16] at H ⊢; exact H)
            have hji16_ : (x1_1 / 2 ^ min (ji14).toNat 64) = ji16 := hji16
            have hji16z : (ji14) ≤ 64 → (x1_1 / 2 ^ (ji14).toNat) = ji16 := shr_small hji16
            by_cases c17 : x10_4.length < 140737488355328
            ·rw [if_pos c17] at H
             have LMc17 := Aside0.mk c17
             clear c17
             obtain ⟨y251, hy251⟩ : ∃ y_ : List Int, y_ = (x10_4 ++ [(ji16) % 256]) := ⟨_, rfl⟩
             replace H : (spec_word.l1 k4 x1_1 y251 (wrap64 (x11_4 - 1))) = some r := by first | (rw [hy251]; with_reducible exact H) | (have H2_ := (Option.bind_some _ _).symm.trans H; rw [hy251]; with_reducible exact H2_) | (have H2_ := (Option.bind_some _ _).symm.trans H; with_reducible exact H2_) | with_reducible exact H | (rw [hy251]; exact H) | exact H
             have Ny251 := Aside0.mk hy251
             clear hy251
             have H' := Aside0.mk H
             clear H
             go_wp2_with (first | ((with_reducible refine gate_builtin (b := .append) (xs := #[.tmp 38, .tmp 44]) rfl ?_); at_builtin; refine Kd.R_append (Kd.int .u8) (w0 := w) w.heap.size rfl (.tmp 38) (.tmp 44) 27 5 (.int .u8 0) 1 rfl Tryd.underlying27 info5 rfl (by decide) (by omega) u10 x10_4 ((ji16) % 256) [.int .u8 ((ji16) % 256)] (fun _ => True) (fun _ => False) rfl rfl ?aP (fun _ hk => hk.elim) ?aF ?aO ?aB ?aS ?aL ?_; (case aP => exact rfl); (case aB => exact bB); (case aF => exact (fun _ _ => trivial)); (case aO => exact (kR HO_10.out)); (case aS => exact (below_size bB)); (case aL => have := LMc17.out; omega); intro v252 w18 ho hb hg hat; rw [← Ny251.out] at ho; have n0_ := Aside0.mk (blk_grown (g := gb249) (o := .cells #[.int .i64 a0_0, .int .i64 a0_1, .int .i64 a0_2, .int .u64 a0_3, .int .u64 a0_4, .int .u64 a0_5] 24 (0, 0)) (kB BK249.out) hg (Kd.R_ne HO_10.out BK249.out (by decide))); have n1_ := Aside0.mk (hb); have n2_ := Aside0.mk (ho); clear BK249; clear HB; clear HO_10; have BK249 := n0_; have HB := n1_; have HO253 := n2_; clear n0_ n1_ n2_; clear ho hb hg hat))
             go_roundg k4
             case measure => have := HK1.out; have := HJ7.out; have := HJ10.out; have := HK4.out; omega
             case rel => exact ⟨(y251), (wrap64 (x11_4 - 1)), (by first | rfl | (simp; done) | (simp [*]; done)), H', ⟨by have := HK1.out; have := HJ7.out; have := HJ10.out; have := HK4.out; omega⟩, ⟨kR HO253.out⟩, ⟨by (with_reducible repeat (first | refine blk_drewN ?_ _ | refine blk_drew ?_ | refine blk_alloc ?_ _)); exact BK249.out⟩, ⟨bB⟩⟩
            ·rw [if_neg c17] at H
             exact absurd H (by simp)
           ·rw [if_neg c15] at H
            exact absurd H (by simp)
          ·rw [if_neg c13] at H
           have c13b0 : decide (0 ≤ x11_4) = false := decide_eq_false c13
           clear c13
           obtain rfl := Option.some.inj H
           go_wp2
           go_ret
           exact ⟨_, by first | rfl | (simp [errW_none, errW_some] <;> rfl) | (simp [*, errW_none, errW_some] <;> rfl), by (with_reducible repeat (first | apply Kd.R_alloc | apply Kd.R_drewN | apply Kd.R_drew)); exact HO_10.out, bB⟩


/-! ### laws_zzFits2: function 12 -/
def laws_zzFits2.l0 : Nat → List (List Int) → Int → Int → Option (Bool)
 | 0, _, _, _ => none
 | k + 1, x8, x9, x10 => if x10 < x9 then (if 0 ≤ x10 then (if x10 < (x8.length : Int) then (if ((rd_L1 x8 x10).length : Int) > 2147483647 then (some false) else (laws_zzFits2.l0 k x8 x9 (wrap64 (x10 + 1)))) else (none)) else (none)) else (some true)
def laws_zzFits2.f (k : Nat) (l0 : List (List Int)) : Option (Bool) := if (l0.length : Int) > 2147483647 then (some false) else (laws_zzFits2.l0 k l0 (l0.length : Int) 0)
theorem laws_zzFits2.mono_l : ∀ k, (∀ y0 y1 y2, LeO (laws_zzFits2.l0 k y0 y1 y2) (laws_zzFits2.l0 (k + 1) y0 y1 y2))
 | 0 => fun _ _ _ r h => by simp [laws_zzFits2.l0] at h
 | k + 1 => by
  have ih0 := laws_zzFits2.mono_l k
  ·intro y0 y1 y2
   unfold laws_zzFits2.l0
   repeat' first
   | (with_reducible exact ih0 _ _ _)
   | (with_reducible exact LeO.refl _)
   | (with_reducible exact LeO.none _)
   | (with_reducible refine LeO.ite ?_ ?_)
   | (with_reducible refine LeO.bind ?_ (fun _ => ?_))
   | exact ih0 _ _ _
   | exact LeO.none _
   | refine LeO.ite ?_ ?_
   | refine LeO.bind ?_ (fun _ => ?_)
theorem laws_zzFits2.mono : ∀ a0 k, LeO (laws_zzFits2.f k a0) (laws_zzFits2.f (k + 1) a0) := by
 intro a0 k
 have ih0 := laws_zzFits2.mono_l k
 unfold laws_zzFits2.f
 repeat' first
   | (with_reducible exact ih0 _ _ _)
   | (with_reducible exact LeO.refl _)
   | (with_reducible exact LeO.none _)
   | (with_reducible refine LeO.ite ?_ ?_)
   | (with_reducible refine LeO.bind ?_ (fun _ => ?_))
   | exact ih0 _ _ _
   | exact LeO.none _
   | refine LeO.ite ?_ ?_
   | refine LeO.bind ?_ (fun _ => ?_)
set_option maxHeartbeats 8000000 in
set_option maxRecDepth 100000 in
theorem laws_zzFits2.calls (k : Nat) (A0 : Option Addr) (c0 : Nat) (l0 : List (List Int)) (r : Bool) (w : World) (hr0 : Kd.C (Kd.slice 5 (Kd.int .u8)) w A0 l0.length l0) (hc0 : l0.length ≤ c0) (h : laws_zzFits2.f k l0 = some r) :
  Calls Tryd.prog 12 #[.slice A0 l0.length c0] w fun e w' => e = .returned (.bool r) ∧ Drawn0 w w' := by
 have HR0 := Aside0.mk hr0
 have HC0 := Aside0.mk hc0
 clear hr0 hc0
 have H : (if (l0.length : Int) > 2147483647 then (some false) else (laws_zzFits2.l0 k l0 (l0.length : Int) 0)) = some r := h
 clear h
 by_cases c2 : (l0.length : Int) > 2147483647
 ·rw [if_pos c2] at H
  have c2b0 : decide (2147483647 < (l0.length : Int)) = true := decide_eq_true c2
  have c2b1 : decide (2147483647 < l0.length) = true := decide_eq_true (by omega)
  clear c2
  obtain rfl := Option.some.inj H
  go_enter Tryd.func12, Tryd.ntmps12
  go_wp2
  go_ret
  exact ⟨by first | rfl | (simp; done) | (simp [*]; done), by repeat (first | exact Drawn0.refl _ | apply Drawn0.step)⟩
 ·rw [if_neg c2] at H
  have c2b0 : decide (2147483647 < (l0.length : Int)) = false := decide_eq_false c2
  have c2b1 : decide (2147483647 < l0.length) = false := decide_eq_false (by omega)
  clear c2
  have H' := Aside0.mk H
  clear H
  go_enter Tryd.func12, Tryd.ntmps12
  go_wp2
  go_loopg [10] k (fun kq v10 w' => ∃ (x10_1 : Int), v10 = .int .i64 x10_1 ∧ Aside0 (laws_zzFits2.l0 kq l0 (l0.length : Int) x10_1 = some r) ∧ Aside0 (kq ≤ k) ∧ Drawn0 w w')
  case atStart => exact ⟨(0), (by first | rfl | (simp; done) | (simp [*]; done)), H', ⟨Nat.le_refl _⟩, by repeat (first | exact Drawn0.refl _ | apply Drawn0.step)⟩
  case round =>
   clear H'
   try clear c1
   try clear c2
   try clear c2b0
   try clear c2b1
   try clear p2
   obtain ⟨x10_1, rfl, HA, HK1, ⟨m1, rfl⟩⟩ := hrel
   cases gk with
   | zero => exact absurd HA.out (by simp [laws_zzFits2.l0])
   | succ k1 =>
    have H := HA.out
    clear HA
    simp only [laws_zzFits2.l0] at H
    by_cases c3 : x10_1 < (l0.length : Int)
    ·rw [if_pos c3] at H
     have c3b0 : decide (x10_1 < (l0.length : Int)) = true := decide_eq_true c3
     clear c3
     by_cases c4 : 0 ≤ x10_1
     ·rw [if_pos c4] at H
      have c4b0 : decide (0 ≤ x10_1) = true := decide_eq_true c4
      clear c4
      by_cases c5 : x10_1 < (l0.length : Int)
      ·rw [if_pos c5] at H
       have c5b0 : decide (x10_1 < (l0.length : Int)) = true := decide_eq_true c5
       clear c5
       by_cases c6 : ((rd_L1 l0 x10_1).length : Int) > 2147483647
       ·rw [if_pos c6] at H
        have c6b0 : decide (2147483647 < ((rd_L1 l0 x10_1).length : Int)) = true := decide_eq_true c6
        have c6b1 : decide (2147483647 < (rd_L1 l0 x10_1).length) = true := decide_eq_true (by omega)
        clear c6
        obtain rfl := Option.some.inj H
        have p101 : 0 ≤ (x10_1 : Int) := dA
        have q101 : x10_1 < (l0.length : Int) := dA
        obtain ⟨ad101, A101_0, c101_0, e101, hx101_0, hl101_0, hi101_0⟩ := at_L1 HR0.out x10_1 p101 q101
        cases e101
        have HR101_0 := Aside0.mk hi101_0
        have HC101_0 := Aside0.mk hl101_0
        clear hi101_0 hl101_0
        replace p101 := eq_true p101
        replace q101 := eq_true q101
        go_wp2
        go_ret
        exact ⟨by first | rfl | (simp; done) | (simp [*]; done), by repeat (first | exact Drawn0.refl _ | apply Drawn0.step)⟩
       ·rw [if_neg c6] at H
        have c6b0 : decide (2147483647 < ((rd_L1 l0 x10_1).length : Int)) = false := decide_eq_false c6
        have c6b1 : decide (2147483647 < (rd_L1 l0 x10_1).length) = false := decide_eq_false (by omega)
        clear c6
        have H' := Aside0.mk H
        clear H
        have p101 : 0 ≤ (x10_1 : Int) := dA
        have q101 : x10_1 < (l0.length : Int) := dA
        obtain ⟨ad101, A101_0, c101_0, e101, hx101_0, hl101_0, hi101_0⟩ := at_L1 HR0.out x10_1 p101 q101
        cases e101
        have HR101_0 := Aside0.mk hi101_0
        have HC101_0 := Aside0.mk hl101_0
        clear hi101_0 hl101_0
        replace p101 := eq_true p101
        replace q101 := eq_true q101
        go_wp2
        go_roundg k1
        case measure => have := HK1.out; omega
        case rel => exact ⟨(wrap64 (x10_1 + 1)), (by first | rfl | (simp; done) | (simp [*]; done)), H', ⟨by have := HK1.out; omega⟩, by repeat (first | exact Drawn0.refl _ | apply Drawn0.step)⟩
      ·rw [if_neg c5] at H
       exact absurd H (by simp)
     ·rw [if_neg c4] at H
      exact absurd H (by simp)
    ·rw [if_neg c3] at H
     have c3b0 : decide (x10_1 < (l0.length : Int)) = false := decide_eq_false c3
     clear c3
     obtain rfl := Option.some.inj H
     go_wp2
     go_ret
     exact ⟨by first | rfl | (simp; done) | (simp [*]; done), by repeat (first | exact Drawn0.refl _ | apply Drawn0.step)⟩


/-! ### laws_logSmall: function 13 -/
def laws_logSmall.l0 : Nat → List (List Int) → List (List Int) → Int → Int → Option (Bool)
 | 0, _, _, _, _ => none
 | k + 1, x0, x5, x6, x7 => if x7 < x6 then (if 0 ≤ x7 then (if x7 < (x5.length : Int) then (if ((rd_L1 x5 x7).length : Int) > 5000 then (some false) else (laws_logSmall.l0 k x0 x5 x6 (wrap64 (x7 + 1)))) else (none)) else (none)) else (some (decide ((x0.length : Int) ≤ 300)))
def laws_logSmall.f (k : Nat) (l0 : List (List Int)) : Option (Bool) := laws_logSmall.l0 k l0 l0 (l0.length : Int) 0
theorem laws_logSmall.mono_l : ∀ k, (∀ y0 y1 y2 y3, LeO (laws_logSmall.l0 k y0 y1 y2 y3) (laws_logSmall.l0 (k + 1) y0 y1 y2 y3))
 | 0 => fun _ _ _ _ r h => by simp [laws_logSmall.l0] at h
 | k + 1 => by
  have ih0 := laws_logSmall.mono_l k
  ·intro y0 y1 y2 y3
   unfold laws_logSmall.l0
   repeat' first
   | (with_reducible exact ih0 _ _ _ _)
   | (with_reducible exact LeO.refl _)
   | (with_reducible exact LeO.none _)
   | (with_reducible refine LeO.ite ?_ ?_)
   | (with_reducible refine LeO.bind ?_ (fun _ => ?_))
   | exact ih0 _ _ _ _
   | exact LeO.none _
   | refine LeO.ite ?_ ?_
   | refine LeO.bind ?_ (fun _ => ?_)
theorem laws_logSmall.mono : ∀ a0 k, LeO (laws_logSmall.f k a0) (laws_logSmall.f (k + 1) a0) := by
 intro a0 k
 have ih0 := laws_logSmall.mono_l k
 unfold laws_logSmall.f
 repeat' first
   | (with_reducible exact ih0 _ _ _ _)
   | (with_reducible exact LeO.refl _)
   | (with_reducible exact LeO.none _)
   | (with_reducible refine LeO.ite ?_ ?_)
   | (with_reducible refine LeO.bind ?_ (fun _ => ?_))
   | exact ih0 _ _ _ _
   | exact LeO.none _
   | refine LeO.ite ?_ ?_
   | refine LeO.bind ?_ (fun _ => ?_)
set_option maxHeartbeats 8000000 in
set_option maxRecDepth 100000 in
theorem laws_logSmall.calls (k : Nat) (A0 : Option Addr) (c0 : Nat) (l0 : List (List Int)) (r : Bool) (w : World) (hr0 : Kd.C (Kd.slice 5 (Kd.int .u8)) w A0 l0.length l0) (hc0 : l0.length ≤ c0) (h : laws_logSmall.f k l0 = some r) :
  Calls Tryd.prog 13 #[.slice A0 l0.length c0] w fun e w' => e = .returned (.bool r) ∧ Drawn0 w w' := by
 have HR0 := Aside0.mk hr0
 have HC0 := Aside0.mk hc0
 clear hr0 hc0
 have H : (laws_logSmall.l0 k l0 l0 (l0.length : Int) 0) = some r := h
 clear h
 have H' := Aside0.mk H
 clear H
 go_enter Tryd.func13, Tryd.ntmps13
 go_wp2
 go_loopg [7] k (fun kq v7 w' => ∃ (x7_1 : Int), v7 = .int .i64 x7_1 ∧ Aside0 (laws_logSmall.l0 kq l0 l0 (l0.length : Int) x7_1 = some r) ∧ Aside0 (kq ≤ k) ∧ Drawn0 w w')
 case atStart => exact ⟨(0), (by first | rfl | (simp; done) | (simp [*]; done)), H', ⟨Nat.le_refl _⟩, by repeat (first | exact Drawn0.refl _ | apply Drawn0.step)⟩
 case round =>
  clear H'
  try clear c1
  obtain ⟨x7_1, rfl, HA, HK1, ⟨m1, rfl⟩⟩ := hrel
  cases gk with
  | zero => exact absurd HA.out (by simp [laws_logSmall.l0])
  | succ k1 =>
   have H := HA.out
   clear HA
   simp only [laws_logSmall.l0] at H
   by_cases c2 : x7_1 < (l0.length : Int)
   ·rw [if_pos c2] at H
    have c2b0 : decide (x7_1 < (l0.length : Int)) = true := decide_eq_true c2
    clear c2
    by_cases c3 : 0 ≤ x7_1
    ·rw [if_pos c3] at H
     have c3b0 : decide (0 ≤ x7_1) = true := decide_eq_true c3
     clear c3
     by_cases c4 : x7_1 < (l0.length : Int)
     ·rw [if_pos c4] at H
      have c4b0 : decide (x7_1 < (l0.length : Int)) = true := decide_eq_true c4
      clear c4
      by_cases c5 : ((rd_L1 l0 x7_1).length : Int) > 5000
      ·rw [if_pos c5] at H
       have c5b0 : decide (5000 < ((rd_L1 l0 x7_1).length : Int)) = true := decide_eq_true c5
       have c5b1 : decide (5000 < (rd_L1 l0 x7_1).length) = true := decide_eq_true (by omega)
       clear c5
       obtain rfl := Option.some.inj H
       have p102 : 0 ≤ (x7_1 : Int) := dA
       have q102 : x7_1 < (l0.length : Int) := dA
       obtain ⟨ad102, A102_0, c102_0, e102, hx102_0, hl102_0, hi102_0⟩ := at_L1 HR0.out x7_1 p102 q102
       cases e102
       have HR102_0 := Aside0.mk hi102_0
       have HC102_0 := Aside0.mk hl102_0
       clear hi102_0 hl102_0
       replace p102 := eq_true p102
       replace q102 := eq_true q102
       go_wp2
       go_ret
       exact ⟨by first | rfl | (simp; done) | (simp [*]; done), by repeat (first | exact Drawn0.refl _ | apply Drawn0.step)⟩
      ·rw [if_neg c5] at H
       have c5b0 : decide (5000 < ((rd_L1 l0 x7_1).length : Int)) = false := decide_eq_false c5
       have c5b1 : decide (5000 < (rd_L1 l0 x7_1).length) = false := decide_eq_false (by omega)
       clear c5
       have H' := Aside0.mk H
       clear H
       have p102 : 0 ≤ (x7_1 : Int) := dA
       have q102 : x7_1 < (l0.length : Int) := dA
       obtain ⟨ad102, A102_0, c102_0, e102, hx102_0, hl102_0, hi102_0⟩ := at_L1 HR0.out x7_1 p102 q102
       cases e102
       have HR102_0 := Aside0.mk hi102_0
       have HC102_0 := Aside0.mk hl102_0
       clear hi102_0 hl102_0
       replace p102 := eq_true p102
       replace q102 := eq_true q102
       go_wp2
       go_roundg k1
       case measure => have := HK1.out; omega
       case rel => exact ⟨(wrap64 (x7_1 + 1)), (by first | rfl | (simp; done) | (simp [*]; done)), H', ⟨by have := HK1.out; omega⟩, by repeat (first | exact Drawn0.refl _ | apply Drawn0.step)⟩
     ·rw [if_neg c4] at H
      exact absurd H (by simp)
    ·rw [if_neg c3] at H
     exact absurd H (by simp)
   ·rw [if_neg c2] at H
    have c2b0 : decide (x7_1 < (l0.length : Int)) = false := decide_eq_false c2
    clear c2
    obtain rfl := Option.some.inj H
    go_wp2
    go_ret
    exact ⟨by first | rfl | (simp; done) | (simp [*]; done), by repeat (first | exact Drawn0.refl _ | apply Drawn0.step)⟩


/-! ### impl_toy_EmptyRoot: function 137 -/
def impl_toy_EmptyRoot.f (k : Nat) (a0_0 : Int) (a0_1 : Int) (a0_2 : Int) (a0_3 : Int) (a0_4 : Int) (a0_5 : Int) : Option (List Int) := if a0_0 = 1 then ((impl_word.f k a0_3 a0_2).bind fun t169 => (some t169)) else (some (([2] : List Int)))
theorem impl_toy_EmptyRoot.mono : ∀ a0 a1 a2 a3 a4 a5 k, LeO (impl_toy_EmptyRoot.f k a0 a1 a2 a3 a4 a5) (impl_toy_EmptyRoot.f (k + 1) a0 a1 a2 a3 a4 a5) := by
 intro a0 a1 a2 a3 a4 a5 k
 unfold impl_toy_EmptyRoot.f
 repeat' first
   | (with_reducible exact impl_word.mono _ _ _)
   | (with_reducible exact LeO.refl _)
   | (with_reducible exact LeO.none _)
   | (with_reducible refine LeO.ite ?_ ?_)
   | (with_reducible refine LeO.bind ?_ (fun _ => ?_))
   | exact impl_word.mono _ _ _
   | exact LeO.none _
   | refine LeO.ite ?_ ?_
   | refine LeO.bind ?_ (fun _ => ?_)
set_option maxHeartbeats 8000000 in
set_option maxRecDepth 100000 in
theorem impl_toy_EmptyRoot.calls (k : Nat) (a0_0 : Int) (a0_1 : Int) (a0_2 : Int) (a0_3 : Int) (a0_4 : Int) (a0_5 : Int) (r : List Int) (w : World) (h : impl_toy_EmptyRoot.f k a0_0 a0_1 a0_2 a0_3 a0_4 a0_5 = some r) :
  Calls Tryd.prog 137 #[.agg #[.int .i64 a0_0, .int .i64 a0_1, .int .i64 a0_2, .int .u64 a0_3, .int .u64 a0_4, .int .u64 a0_5]] w fun e w' => ∃ v0_ : Value, e = .returned (v0_) ∧ Kd.R (Kd.int .u8) 5 w' w.heap.size (fun _ => True) v0_ r ∧ Below w.heap.size w w' := by
 have hu85 := Tryd.underlying85
 have HB := Aside0.mk (Below.refl w.heap.size w)
 have H : (if a0_0 = 1 then ((impl_word.f k a0_3 a0_2).bind fun t169 => (some t169)) else (some (([2] : List Int)))) = some r := h
 clear h
 by_cases c2 : a0_0 = 1
 ·rw [if_pos c2] at H
  have c2b0 : (a0_0 == 1) = true := beq_iff_eq.mpr c2
  have c2b1 : (a0_0 != 1) = false := bne_eq_false_iff_eq.mpr c2
  clear c2
  replace H := Option.bind_eq_some_iff.mp H
  obtain ⟨t169, A30, H⟩ := H
  replace H : (some t169) = some r := H
  have A3 := Aside0.mk A30
  clear A30
  obtain rfl := Option.some.inj H
  go_enter Tryd.func137, Tryd.ntmps137
  go_wp2_with (first | ((with_reducible refine gate_dst (N := 1) rfl ?_); refine box_event ?hg (N := 1) ?hd (cs := #[.int .i64 a0_0, .int .i64 a0_1, .int .i64 a0_2, .int .u64 a0_3, .int .u64 a0_4, .int .u64 a0_5]) (t := 85) ?hr ?_; (case hd => rfl); (case hg => rfl); (case hr => first | (go_simp; done) | (go_simp; rfl)); intro gb168 hg w4 hbox hb; have n0_ := Aside0.mk (below_step bB hb); have n1_ := Aside0.mk (hbox); have n2_ := Aside0.mk ((by rw [hg]; exact (below_size bB) : w.heap.size ≤ gb168)); have n3_ := Aside0.mk ((by rw [hg]; exact (below_size bB) : w.heap.size ≤ gb168)); clear HB; have HB := n0_; have BK168 := n1_; have GW168 := n2_; have GE168 := n3_; clear n0_ n1_ n2_ n3_; clear hb hbox hg; have hcz5_0 : w4.cell? ⟨gb168, 0, none⟩ = some (.int .i64 a0_0) := (blk_cell BK168.out 0).trans rfl; have hcz5_1 : w4.cell? ⟨gb168, 1, none⟩ = some (.int .i64 a0_1) := (blk_cell BK168.out 1).trans rfl; have hcz5_2 : w4.cell? ⟨gb168, 2, none⟩ = some (.int .i64 a0_2) := (blk_cell BK168.out 2).trans rfl; have hcz5_3 : w4.cell? ⟨gb168, 3, none⟩ = some (.int .u64 a0_3) := (blk_cell BK168.out 3).trans rfl; have hcz5_4 : w4.cell? ⟨gb168, 4, none⟩ = some (.int .u64 a0_4) := (blk_cell BK168.out 4).trans rfl; have hcz5_5 : w4.cell? ⟨gb168, 5, none⟩ = some (.int .u64 a0_5) := (blk_cell BK168.out 5).trans rfl; have hfz5_0 := blk_frozen BK168.out 0; have hfz5_1 := blk_frozen BK168.out 1; have hfz5_2 := blk_frozen BK168.out 2; have hfz5_3 := blk_frozen BK168.out 3; have hfz5_4 := blk_frozen BK168.out 4; have hfz5_5 := blk_frozen BK168.out 5) | ((with_reducible refine gate_callee (f := 89) rfl ?_); refine goesL_ (some 13) rfl rfl Tryd.func89 (by kernel_rfl) rfl #[.int .u64 a0_3, .int .i64 a0_2] rfl aV ?_; (with_reducible refine (impl_word.calls k a0_3 a0_2 t169 _ A3.out).mono ?_); rintro e w6 ⟨v170, rfl, ho0, hb⟩; refine ⟨_, rfl, ?_⟩; have n0_ := Aside0.mk (Kd.R_lower ho0 (below_size bB)); have n1_ := Aside0.mk (blk_below (g := gb168) (o := .cells #[.int .i64 a0_0, .int .i64 a0_1, .int .i64 a0_2, .int .u64 a0_3, .int .u64 a0_4, .int .u64 a0_5] 85 (0, 0)) (kB BK168.out) hb); have n2_ := Aside0.mk (below_step bB hb); clear BK168; clear HB; have HO171 := n0_; have BK168 := n1_; have HB := n2_; clear n0_ n1_ n2_; (try clear hb); (try clear hb2); (try clear hk); (try clear hi); (try clear ho0)))
  go_ret
  exact ⟨_, by first | rfl | (simp [errW_none, errW_some] <;> rfl) | (simp [*, errW_none, errW_some] <;> rfl), by (with_reducible repeat (first | apply Kd.R_alloc | apply Kd.R_drewN | apply Kd.R_drew)); exact HO171.out, bB⟩
 ·rw [if_neg c2] at H
  have c2b0 : (a0_0 == 1) = false := beq_eq_false_iff_ne.mpr c2
  have c2b1 : (a0_0 != 1) = true := bne_iff_ne.mpr c2
  obtain ⟨y172, hy172⟩ : ∃ y_ : List Int, y_ = (([2] : List Int)) := ⟨_, rfl⟩
  replace H : (some y172) = some r := by first | (rw [hy172]; with_reducible exact H) | (have H2_ := (Option.bind_some _ _).symm.trans H; rw [hy172]; with_reducible exact H2_) | (have H2_ := (Option.bind_some _ _).symm.trans H; with_reducible exact H2_) | with_reducible exact H | (rw [hy172]; exact H) | exact H
  have Ny172 := Aside0.mk hy172
  clear hy172
  obtain rfl := Option.some.inj H
  go_enter Tryd.func137, Tryd.ntmps137
  go_wp2_with (first | ((with_reducible refine gate_dst (N := 1) rfl ?_); refine box_event ?hg (N := 1) ?hd (cs := #[.int .i64 a0_0, .int .i64 a0_1, .int .i64 a0_2, .int .u64 a0_3, .int .u64 a0_4, .int .u64 a0_5]) (t := 85) ?hr ?_; (case hd => rfl); (case hg => rfl); (case hr => first | (go_simp; done) | (go_simp; rfl)); intro gb168 hg w7 hbox hb; have n0_ := Aside0.mk (below_step bB hb); have n1_ := Aside0.mk (hbox); have n2_ := Aside0.mk ((by rw [hg]; exact (below_size bB) : w.heap.size ≤ gb168)); have n3_ := Aside0.mk ((by rw [hg]; exact (below_size bB) : w.heap.size ≤ gb168)); clear HB; have HB := n0_; have BK168 := n1_; have GW168 := n2_; have GE168 := n3_; clear n0_ n1_ n2_ n3_; clear hb hbox hg; have hcz8_0 : w7.cell? ⟨gb168, 0, none⟩ = some (.int .i64 a0_0) := (blk_cell BK168.out 0).trans rfl; have hcz8_1 : w7.cell? ⟨gb168, 1, none⟩ = some (.int .i64 a0_1) := (blk_cell BK168.out 1).trans rfl; have hcz8_2 : w7.cell? ⟨gb168, 2, none⟩ = some (.int .i64 a0_2) := (blk_cell BK168.out 2).trans rfl; have hcz8_3 : w7.cell? ⟨gb168, 3, none⟩ = some (.int .u64 a0_3) := (blk_cell BK168.out 3).trans rfl; have hcz8_4 : w7.cell? ⟨gb168, 4, none⟩ = some (.int .u64 a0_4) := (blk_cell BK168.out 4).trans rfl; have hcz8_5 : w7.cell? ⟨gb168, 5, none⟩ = some (.int .u64 a0_5) := (blk_cell BK168.out 5).trans rfl; have hfz8_0 := blk_frozen BK168.out 0; have hfz8_1 := blk_frozen BK168.out 1; have hfz8_2 := blk_frozen BK168.out 2; have hfz8_3 := blk_frozen BK168.out 3; have hfz8_4 := blk_frozen BK168.out 4; have hfz8_5 := blk_frozen BK168.out 5) | ((with_reducible refine gate_dst (N := 14) rfl ?_); refine Kd.R_lit (Kd.int .u8) _ 5 ?hg (N := 14) ?hd (xs := ([2] : List Int)) (inner := [.int .u8 2]) (ok := fun _ => True) (okp := fun _ => True) ?hr ?hp (fun _ hk => hk) trivial (Below.refl _ _) (Nat.le_refl _) (by simp) ?_; (case hd => rfl); (case hg => rfl); (case hr => first | (go_simp; done) | (go_simp; rfl)); (case hp => exact (Reps.one (show Kd.M (Kd.int .u8) _ _ _ 2 [.int .u8 2] from rfl) (Reps.none _ _))); intro v173 w9 ho10 hb hg_ hnew_; clear hg_ hnew_; (first | rw [← Ny172.out] at ho10 | (simp only [Int.reduceToNat] at ho10; rw [← Ny172.out] at ho10)); have n0_ := Aside0.mk (Kd.R_lower ho10 (below_size bB)); have n1_ := Aside0.mk (blk_below (g := gb168) (o := .cells #[.int .i64 a0_0, .int .i64 a0_1, .int .i64 a0_2, .int .u64 a0_3, .int .u64 a0_4, .int .u64 a0_5] 85 (0, 0)) (kB BK168.out) hb); have n2_ := Aside0.mk (below_step bB hb); clear BK168; clear HB; have HO174 := n0_; have BK168 := n1_; have HB := n2_; clear n0_ n1_ n2_; clear hb ho10))
  go_ret
  exact ⟨_, by first | rfl | (simp [errW_none, errW_some] <;> rfl) | (simp [*, errW_none, errW_some] <;> rfl), by (with_reducible repeat (first | apply Kd.R_alloc | apply Kd.R_drewN | apply Kd.R_drew)); exact HO174.out, bB⟩


/-! ### impl_texts: function 46 -/
def impl_texts.l0 : Nat → List (List Int) → List (List Int) → Int → Int → Option ((List (List Int)))
 | 0, _, _, _, _ => none
 | k + 1, x3, x6, x7, x8 => if x8 < x7 then (if 0 ≤ x8 then (if x8 < (x6.length : Int) then ((some (([] : List Int) : List Int)).bind fun y136 => (if y136.length + (rd_L1 x6 x8).length < 140737488355328 then (if x3.length < 5864062014805 then (impl_texts.l0 k (x3 ++ [(y136 ++ (rd_L1 x6 x8))]) x6 x7 (wrap64 (x8 + 1))) else (none)) else (none))) else (none)) else (none)) else (some x3)
def impl_texts.f (k : Nat) (l0 : List (List Int)) : Option ((List (List Int))) := impl_texts.l0 k ([] : List (List Int)) l0 (l0.length : Int) 0
theorem impl_texts.mono_l : ∀ k, (∀ y0 y1 y2 y3, LeO (impl_texts.l0 k y0 y1 y2 y3) (impl_texts.l0 (k + 1) y0 y1 y2 y3))
 | 0 => fun _ _ _ _ r h => by simp [impl_texts.l0] at h
 | k + 1 => by
  have ih0 := impl_texts.mono_l k
  ·intro y0 y1 y2 y3
   unfold impl_texts.l0
   repeat' first
   | (with_reducible exact ih0 _ _ _ _)
   | (with_reducible exact LeO.refl _)
   | (with_reducible exact LeO.none _)
   | (with_reducible refine LeO.ite ?_ ?_)
   | (with_reducible refine LeO.bind ?_ (fun _ => ?_))
   | exact ih0 _ _ _ _
   | exact LeO.none _
   | refine LeO.ite ?_ ?_
   | refine LeO.bind ?_ (fun _ => ?_)
theorem impl_texts.mono : ∀ a0 k, LeO (impl_texts.f k a0) (impl_texts.f (k + 1) a0) := by
 intro a0 k
 have ih0 := impl_texts.mono_l k
 unfold impl_texts.f
 repeat' first
   | (with_reducible exact ih0 _ _ _ _)
   | (with_reducible exact LeO.refl _)
   | (with_reducible exact LeO.none _)
   | (with_reducible refine LeO.ite ?_ ?_)
   | (with_reducible refine LeO.bind ?_ (fun _ => ?_))
   | exact ih0 _ _ _ _
   | exact LeO.none _
   | refine LeO.ite ?_ ?_
   | refine LeO.bind ?_ (fun _ => ?_)
set_option maxHeartbeats 8000000 in
set_option maxRecDepth 100000 in
theorem impl_texts.calls (k : Nat) (A0 : Option Addr) (c0 : Nat) (l0 : List (List Int)) (r : List (List Int)) (w : World) (hr0 : Kd.C (Kd.slice 5 (Kd.int .u8)) w A0 l0.length l0) (hc0 : l0.length ≤ c0) (h : impl_texts.f k l0 = some r) :
  Calls Tryd.prog 46 #[.slice A0 l0.length c0] w fun e w' => ∃ v0_ : Value, e = .returned (v0_) ∧ Kd.S (Kd.slice 5 (Kd.int .u8)) 27 w' w.heap.size (fun _ => True) v0_ r ∧ Below w.heap.size w w' := by
 have HR0 := Aside0.mk hr0
 have HC0 := Aside0.mk hc0
 clear hr0 hc0
 have HB := Aside0.mk (Below.refl w.heap.size w)
 have H : (impl_texts.l0 k ([] : List (List Int)) l0 (l0.length : Int) 0) = some r := h
 clear h
 have H' := Aside0.mk H
 clear H
 go_enter Tryd.func46, Tryd.ntmps46
 go_wp2
 go_loopg [3, 8] k (fun kq v3 v8 w' => ∃ (x3_1 : List (List Int)) (x8_1 : Int), v8 = .int .i64 x8_1 ∧ Aside0 (impl_texts.l0 kq x3_1 l0 (l0.length : Int) x8_1 = some r) ∧ Aside0 (kq ≤ k) ∧ Aside0 (Kd.S (Kd.slice 5 (Kd.int .u8)) 27 w' w.heap.size (fun _ => True) v3 x3_1) ∧ Aside0 (Below w.heap.size w w'))
 case atStart => exact ⟨(([] : List (List Int))), (0), (by first | rfl | (simp; done) | (simp [*]; done)), H', ⟨Nat.le_refl _⟩, ⟨by first | exact Kd.S_nil _ _ _ _ _ | exact Kd.N_nil _ _ _ _ _ | exact Kd.V_nil _ _ _ _ _ | exact Kd.Q_nil _ _ _ _ _ | exact Kd.R_nil _ _ _ _ _⟩, ⟨bB⟩⟩
 case round =>
  clear H'
  obtain ⟨x3_1, x8_1, rfl, HA, HK1, HO_3, HB⟩ := hrel
  cases gk with
  | zero => exact absurd HA.out (by simp [impl_texts.l0])
  | succ k1 =>
   have H := HA.out
   clear HA
   simp only [impl_texts.l0] at H
   by_cases c2 : x8_1 < (l0.length : Int)
   ·rw [if_pos c2] at H
    have c2b0 : decide (x8_1 < (l0.length : Int)) = true := decide_eq_true c2
    clear c2
    by_cases c3 : 0 ≤ x8_1
    ·rw [if_pos c3] at H
     have c3b0 : decide (0 ≤ x8_1) = true := decide_eq_true c3
     clear c3
     by_cases c4 : x8_1 < (l0.length : Int)
     ·rw [if_pos c4] at H
      have c4b0 : decide (x8_1 < (l0.length : Int)) = true := decide_eq_true c4
      clear c4
      obtain ⟨y136, hy136⟩ : ∃ y_ : List Int, y_ = (([] : List Int)) := ⟨_, rfl⟩
      replace H : (if y136.length + (rd_L1 l0 x8_1).length < 140737488355328 then (if x3_1.length < 5864062014805 then (impl_texts.l0 k1 (x3_1 ++ [(y136 ++ (rd_L1 l0 x8_1))]) l0 (l0.length : Int) (wrap64 (x8_1 + 1))) else (none)) else (none)) = some r := by first | (rw [hy136]; with_reducible exact H) | (have H2_ := (Option.bind_some _ _).symm.trans H; rw [hy136]; with_reducible exact H2_) | (have H2_ := (Option.bind_some _ _).symm.trans H; with_reducible exact H2_) | with_reducible exact H | (rw [hy136]; exact H) | exact H
      have Ny136 := Aside0.mk hy136
      clear hy136
      by_cases c5 : y136.length + (rd_L1 l0 x8_1).length < 140737488355328
      ·rw [if_pos c5] at H
       have LMc5 := Aside0.mk c5
       clear c5
       obtain ⟨y139, hy139⟩ : ∃ y_ : List Int, y_ = (y136 ++ (rd_L1 l0 x8_1)) := ⟨_, rfl⟩
       replace H : (if x3_1.length < 5864062014805 then (impl_texts.l0 k1 (x3_1 ++ [y139]) l0 (l0.length : Int) (wrap64 (x8_1 + 1))) else (none)) = some r := by first | (rw [hy139]; with_reducible exact H) | (have H2_ := (Option.bind_some _ _).symm.trans H; rw [hy139]; with_reducible exact H2_) | (have H2_ := (Option.bind_some _ _).symm.trans H; with_reducible exact H2_) | with_reducible exact H | (rw [hy139]; exact H) | exact H
       have Ny139 := Aside0.mk hy139
       clear hy139
       by_cases c6 : x3_1.length < 5864062014805
       ·rw [if_pos c6] at H
        have LMc6 := Aside0.mk c6
        clear c6
        obtain ⟨y142, hy142⟩ : ∃ y_ : List (List Int), y_ = (x3_1 ++ [y139]) := ⟨_, rfl⟩
        replace H : (impl_texts.l0 k1 y142 l0 (l0.length : Int) (wrap64 (x8_1 + 1))) = some r := by first | (rw [hy142]; with_reducible exact H) | (have H2_ := (Option.bind_some _ _).symm.trans H; rw [hy142]; with_reducible exact H2_) | (have H2_ := (Option.bind_some _ _).symm.trans H; with_reducible exact H2_) | with_reducible exact H | (rw [hy142]; exact H) | exact H
        have Ny142 := Aside0.mk hy142
        clear hy142
        have H' := Aside0.mk H
        clear H
        have p135 : 0 ≤ (x8_1 : Int) := dA
        have q135 : x8_1 < (l0.length : Int) := dA
        obtain ⟨ad135, A135_0, c135_0, e135, hx135_0, hl135_0, hi135_0⟩ := at_L1 HR0.out x8_1 p135 q135
        cases e135
        replace hx135_0 := (HB.out.cell (World.block_lt_of_cell? w _ hx135_0)).trans hx135_0
        have HR135_0 := Aside0.mk hi135_0
        have HC135_0 := Aside0.mk hl135_0
        clear hi135_0 hl135_0
        replace p135 := eq_true p135
        replace q135 := eq_true q135
        go_wp2_with (first | ((with_reducible refine gate_dst (N := 13) rfl ?_); refine Kd.R_lit (Kd.int .u8) _ 5 ?hg (N := 13) ?hd (xs := ([] : List Int)) (inner := []) (ok := fun _ => True) (okp := fun _ => True) ?hr ?hp (fun _ hk => hk) trivial (Below.refl _ _) (Nat.le_refl _) (by simp) ?_; (case hd => rfl); (case hg => rfl); (case hr => first | (go_simp; done) | (go_simp; rfl)); (case hp => exact (Reps.none _ _)); intro v137 w7 ho8 hb hg_ hnew_; clear hg_ hnew_; (first | rw [← Ny136.out] at ho8 | (simp only [Int.reduceToNat] at ho8; rw [← Ny136.out] at ho8)); have n0_ := Aside0.mk (Kd.S_elder' (by (with_reducible repeat (first | apply Kd.S_alloc | apply Kd.S_drewN | apply Kd.S_drew)); exact HO_3.out) (Kd.R_base ho8) hb); have n1_ := Aside0.mk (Kd.R_lower ho8 (below_size bB)); have n2_ := Aside0.mk (below_step bB hb); clear HO_3; clear HB; have HO_3 := n0_; have HO138 := n1_; have HB := n2_; clear n0_ n1_ n2_; clear hb ho8) | ((with_reducible refine gate_builtin (b := .append) (xs := #[.tmp 13, .tmp 14]) rfl ?_); at_builtin; refine Kd.R_append_rows (Kd.int .u8) (w0 := w) w.heap.size rfl (.tmp 13) (.tmp 14) 27 5 (.int .u8 0) 1 rfl Tryd.underlying27 info5 rfl (by decide) (by omega) v137 y136 (rd_L1 l0 x8_1) _ _ _ (fun _ => True) (fun _ => False) rfl rfl ?aO ?aR (fun _ _ h => h) (fun _ h => h.elim) ?aF ?aB ?aS ?aL ?_; (case aR => repeat (first | exact (Kd.C_below HR135_0.out HB.out) | (with_reducible refine Kd.C_alloc ?_ _) | (with_reducible refine Kd.C_drewN ?_ _) | (with_reducible refine Kd.C_drew ?_))); (case aB => exact bB); (case aF => exact (fun _ _ => trivial)); (case aO => exact (kR HO138.out)); (case aS => exact (below_size bB)); (case aL => have := LMc5.out; omega); intro v140 w9 ho hb hg hat; rw [← Ny139.out] at ho; have n0_ := Aside0.mk (Kd.S_after (ok := (fun _ => True)) (by (with_reducible repeat (first | apply Kd.S_alloc | apply Kd.S_drewN | apply Kd.S_drew)); exact HO_3.out) hg hat); have n1_ := Aside0.mk (hb); have n2_ := Aside0.mk (ho); clear HO_3; clear HB; clear HO138; have HO_3 := n0_; have HB := n1_; have HO141 := n2_; clear n0_ n1_ n2_; clear ho hb hg hat; obtain ⟨Ao11, co11, eo11⟩ := Kd.R_slice HO141.out; subst eo11) | ((with_reducible refine gate_builtin (b := .append) (xs := #[.tmp 12, .tmp 16]) rfl ?_); at_builtin; refine Kd.S_append (Kd.slice 5 (Kd.int .u8)) (w0 := w) w.heap.size rfl (.tmp 12) (.tmp 16) 25 27 (.slice none 0 0) 24 rfl Tryd.underlying25 info27 rfl (by decide) (by omega) u3 x3_1 y139 [.slice Ao11 y139.length co11] (fun _ => True) (fun k_ => some k_ = (.slice Ao11 y139.length co11 : Value).ownBlock) rfl rfl ?aP (fun k_ hk_ => ((Kd.R_mono (ok' := fun k_ => ((fun _ => True)) k_ ∧ some k_ ≠ (u3 : Value).ownBlock) (Kd.R_apart' (HO141.out) (Kd.S_typed HO_3.out) (by decide)) (fun k_ hk => ⟨trivial, hk.2⟩))).1 k_ hk_.symm) ?aF ?aO ?aB ?aS ?aL ?_; (case aP => exact Kd.M_row (Kd.R_mono (Kd.R_tight rfl (Kd.R_mono (ok' := fun k_ => ((fun _ => True)) k_ ∧ some k_ ≠ (u3 : Value).ownBlock) (Kd.R_apart' (HO141.out) (Kd.S_typed HO_3.out) (by decide)) (fun k_ hk => ⟨trivial, hk.2⟩))) (fun _ h_ => h_))); (case aB => exact bB); (case aF => exact (fun _ _ => trivial)); (case aO => exact (by (with_reducible repeat (first | apply Kd.S_alloc | apply Kd.S_drewN | apply Kd.S_drew)); exact Kd.S_mono HO_3.out (fun k_ hk => ⟨trivial, fun e_ => hk.2 e_⟩))); (case aS => exact (below_size bB)); (case aL => have := LMc6.out; omega); intro v143 w10 ho hb hg hat; rw [← Ny142.out] at ho; have n0_ := Aside0.mk (hb); have n1_ := Aside0.mk (ho); clear HB; clear HO_3; clear HO141; have HB := n0_; have HO144 := n1_; clear n0_ n1_; clear ho hb hg hat))
        go_roundg k1
        case measure => have := HK1.out; omega
        case rel => exact ⟨(y142), (wrap64 (x8_1 + 1)), (by first | rfl | (simp; done) | (simp [*]; done)), H', ⟨by have := HK1.out; omega⟩, ⟨by (with_reducible repeat (first | apply Kd.S_alloc | apply Kd.S_drewN | apply Kd.S_drew)); exact HO144.out⟩, ⟨bB⟩⟩
       ·rw [if_neg c6] at H
        exact absurd H (by simp)
      ·rw [if_neg c5] at H
       exact absurd H (by simp)
     ·rw [if_neg c4] at H
      exact absurd H (by simp)
    ·rw [if_neg c3] at H
     exact absurd H (by simp)
   ·rw [if_neg c2] at H
    have c2b0 : decide (x8_1 < (l0.length : Int)) = false := decide_eq_false c2
    clear c2
    obtain rfl := Option.some.inj H
    go_wp2
    go_ret
    exact ⟨_, by first | rfl | (simp [errW_none, errW_some] <;> rfl) | (simp [*, errW_none, errW_some] <;> rfl), by (with_reducible repeat (first | apply Kd.S_alloc | apply Kd.S_drewN | apply Kd.S_drew)); exact HO_3.out, bB⟩


/-! ### bits_TrailingZeros64: function 83 -/
set_option maxHeartbeats 1000000 in
theorem bits_TrailingZeros64.core (x k idx : Nat) (w : World) (hx0 : ((x : Int) == 0) = false)
  (key : IntKind.u64.wrap (bits BinOp.and IntKind.u64 (x : Int) (IntKind.u64.wrap (-(x : Int))) * 285870213051353865) / 288230376151711744 = (idx : Int))
  (hi : idx < 64) (hk : k < 64) (hcell : w.cell? ⟨0, idx, none⟩ = some (.int .u8 k)) :
  Calls Tryd.prog 83 #[.int .u64 x] w fun e w' => e = .returned (.int .i64 k) ∧ w' = w := by
 go_enter Tryd.func83, Tryd.ntmps83
 go_wp2_with (simp only [key])
 go_ret
 exact ⟨rfl, rfl⟩
theorem bits_TrailingZeros64.zero (w : World) :
  Calls Tryd.prog 83 #[.int .u64 0] w fun e w' => e = .returned (.int .i64 64) ∧ w' = w := by
 go_enter Tryd.func83, Tryd.ntmps83
 go_wp2
 go_ret
 exact ⟨rfl, rfl⟩
theorem bits_TrailingZeros64.any (x : Nat) (hx : x < 18446744073709551616) (w : World) (hT : TabOK w) :
  Calls Tryd.prog 83 #[.int .u64 x] w fun e w' => e = .returned (.int .i64 (Lib.ctz 64 x)) ∧ w' = w := by
 by_cases hx0 : x = 0
 ·subst hx0
  exact bits_TrailingZeros64.zero w
 ·obtain ⟨hlow, hk⟩ := Lib.lowest_bit 64 x hx0 hx
  obtain ⟨hi, htab⟩ := Lib.deBruijn64_at _ hk
  have hcell := hT.tz _ hi
  rw [htab] at hcell
  exact bits_TrailingZeros64.core x _ _ w (by simp; omega) (tz64_key x _ hx hx0 hlow) hi hk hcell
def bits_TrailingZeros64.f (a0 : Int) : Option (Int) := if 0 ≤ a0 ∧ a0 ≤ 18446744073709551615 then some (Lib.ctz 64 a0.toNat : Int) else none
theorem bits_TrailingZeros64.calls (a0 : Int) (r : Int) (w : World) (hT : TabOK w) (h : bits_TrailingZeros64.f a0 = some r) :
  Calls Tryd.prog 83 #[.int .u64 a0] w fun e w' => e = .returned (.int .i64 r) ∧ Drawn0 w w' := by
 unfold bits_TrailingZeros64.f at h
 split at h
 ·rename_i hc
  injection h with h
  subst h
  obtain ⟨x, rfl⟩ : ∃ x : Nat, a0 = (x : Int) := ⟨a0.toNat, by omega⟩
  rw [Int.toNat_natCast]
  refine (bits_TrailingZeros64.any x (by omega) w hT).mono ?_
  rintro e w' ⟨rfl, rfl⟩
  exact ⟨rfl, Drawn0.refl _⟩
 ·cases h


/-! ### compact_NewNodeID: function 92 -/
def compact_NewNodeID.f (a0 : Int) (a1 : Int) : Option (Int × Int) := some (a0, a1)
set_option maxHeartbeats 8000000 in
set_option maxRecDepth 100000 in
theorem compact_NewNodeID.calls (a0 : Int) (a1 : Int) (r1 : Int) (r2 : Int) (w : World) (h : compact_NewNodeID.f a0 a1 = some (r1, r2)) :
  Calls Tryd.prog 92 #[.int .u64 a0, .int .u64 a1] w fun e w' => e = .returned (.agg #[.int .u64 r1, .int .u64 r2]) ∧ Below w.heap.size w w' := by
 have hu106 := Tryd.underlying106
 have HB := Aside0.mk (Below.refl w.heap.size w)
 have H : (some (a0, a1)) = some (r1, r2) := h
 clear h
 simp only [Option.some.injEq, Prod.mk.injEq] at H
 obtain ⟨rfl, rfl⟩ := H
 go_enter Tryd.func92, Tryd.ntmps92
 go_wp2_with (first | ((with_reducible refine gate_dst (N := 4) rfl ?_); refine box_event ?hg (N := 4) ?hd (cs := #[.int .u64 0, .int .u64 0]) (t := 106) ?hr ?_; (case hd => rfl); (case hg => rfl); (case hr => first | (go_simp; done) | (go_simp; rfl)); intro gb152 hg w3 hbox hb; have n0_ := Aside0.mk (below_step bB hb); have n1_ := Aside0.mk (hbox); have n2_ := Aside0.mk ((by rw [hg]; exact (below_size bB) : w.heap.size ≤ gb152)); have n3_ := Aside0.mk ((by rw [hg]; exact (below_size bB) : w.heap.size ≤ gb152)); clear HB; have HB := n0_; have BK152 := n1_; have GW152 := n2_; have GE152 := n3_; clear n0_ n1_ n2_ n3_; clear hb hbox hg; have hcz4_0 : w3.cell? ⟨gb152, 0, none⟩ = some (.int .u64 0) := (blk_cell BK152.out 0).trans rfl; have hcz4_1 : w3.cell? ⟨gb152, 1, none⟩ = some (.int .u64 0) := (blk_cell BK152.out 1).trans rfl; have hfz4_0 := blk_frozen BK152.out 0; have hfz4_1 := blk_frozen BK152.out 1))
 refine bodyPost_ret (results_cell_row rfl _ _ gb152 106 #[.int .u64 a0, .int .u64 a1] (0, 0) _ rfl (by (with_reducible repeat (first | refine blk_drewN ?_ _ | refine blk_drew ?_ | refine blk_alloc ?_ _)); refine blk_put (cs := #[.int .u64 a0, .int .u64 0]) ?_ 1 _ rfl; (with_reducible repeat (first | refine blk_drewN ?_ _ | refine blk_drew ?_ | refine blk_alloc ?_ _)); refine blk_put (cs := #[.int .u64 0, .int .u64 0]) ?_ 0 _ rfl; (with_reducible repeat (first | refine blk_drewN ?_ _ | refine blk_drew ?_ | refine blk_alloc ?_ _)); exact BK152.out) Tryd.underlying106 rfl (by kernel_rfl)) rfl ?_
 exact ⟨by first | rfl | (simp [errW_none, errW_some] <;> rfl) | (simp [*, errW_none, errW_some] <;> rfl), bB⟩

end Go.Proofs.YtkmdkmlgahfcpaaDoor.M

