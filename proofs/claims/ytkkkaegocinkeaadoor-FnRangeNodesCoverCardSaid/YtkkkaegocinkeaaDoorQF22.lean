-- Written by a program of ours (wip/xp) out of the translation; Lean checks it.
import Derived.Test.YtkkkaegocinkeaaDoorQ0
import Derived.Test.YtkkkaegocinkeaaDoorQF25
namespace Go.Proofs.YtkkkaegocinkeaaDoor.Q
open Go.RowKit Go.Proofs.YtkkkaegocinkeaaDoorW.PrintWords Go.Proofs.YtkkkaegocinkeaaDoorW.PrintLast Go.Proofs.YtkkkaegocinkeaaDoorW.PrintMore
attribute [local go_sem] max2_int min2_int max_two min_two max_three min_three max_four min_four   -- for this text's walks alone
set_option linter.unusedVariables false
set_option linter.unusedSimpArgs false

/-! ### impl_fromNodes: function 22 -/
def impl_fromNodes.l0 : Nat → List (S28) → List (S52) → Int → Int → Option ((List (S28)))
  | 0, _, _, _, _ => none
  | k + 1, x3, x6, x7, x8 => if x8 < x7 then (if 0 ≤ x8 then (if x8 < (x6.length : Int) then ((impl_fromNode.f ((rd_T52 x6 x8).f0) ((rd_T52 x6 x8).f1)).bind fun bt110 => (if x3.length < 8796093022208 then (impl_fromNodes.l0 k (x3 ++ [(⟨bt110.1, bt110.2⟩ : S28)]) x6 x7 (wrap64 (x8 + 1))) else (none))) else (none)) else (none)) else (some x3)
def impl_fromNodes.f (k : Nat) (l0 : List (S52)) : Option ((List (S28))) := impl_fromNodes.l0 k ([] : List (S28)) l0 (l0.length : Int) 0
theorem impl_fromNodes.mono_l : ∀ k, (∀ y0 y1 y2 y3, LeO (impl_fromNodes.l0 k y0 y1 y2 y3) (impl_fromNodes.l0 (k + 1) y0 y1 y2 y3))
  | 0 => fun _ _ _ _ r h => by simp [impl_fromNodes.l0] at h
  | k + 1 => by
    have ih0 := impl_fromNodes.mono_l k
    · intro y0 y1 y2 y3
      unfold impl_fromNodes.l0
      repeat' first
      | (with_reducible exact ih0 _ _ _ _)
      | (with_reducible exact LeO.refl _)
      | (with_reducible exact LeO.none _)
      | (with_reducible refine LeO.ite ?_ ?_)
      | (with_reducible refine LeO.bind ?_ (fun _ => ?_))
      | exact ih0 _ _ _ _
      | exact LeO.none _
      | refine LeO.ite ?_ ?_
      | refine LeO.bind ?_ (fun _ => ?_)
theorem impl_fromNodes.mono : ∀ a0 k, LeO (impl_fromNodes.f k a0) (impl_fromNodes.f (k + 1) a0) := by
  intro a0 k
  have ih0 := impl_fromNodes.mono_l k
  unfold impl_fromNodes.f
  repeat' first
      | (with_reducible exact ih0 _ _ _ _)
      | (with_reducible exact LeO.refl _)
      | (with_reducible exact LeO.none _)
      | (with_reducible refine LeO.ite ?_ ?_)
      | (with_reducible refine LeO.bind ?_ (fun _ => ?_))
      | exact ih0 _ _ _ _
      | exact LeO.none _
      | refine LeO.ite ?_ ?_
      | refine LeO.bind ?_ (fun _ => ?_)
set_option maxHeartbeats 8000000 in
set_option maxRecDepth 100000 in
theorem impl_fromNodes.calls (k : Nat) (A0 : Option Addr) (c0 : Nat) (l0 : List (S52)) (r : List (S28)) (w : World) (hr0 : Kd.C k52 w A0 l0.length l0) (hc0 : l0.length ≤ c0) (h : impl_fromNodes.f k l0 = some r) :
    Calls Tryd.prog 22 #[.slice A0 l0.length c0] w fun e w' => ∃ v0_ : Value, e = .returned (v0_) ∧ Kd.R k28 28 w' w.heap.size (fun _ => True) v0_ r ∧ Below w.heap.size w w' := by
  have hu52 := Tryd.underlying52
  have HR0 := Aside0.mk hr0
  have HC0 := Aside0.mk hc0
  clear hr0 hc0
  have HB := Aside0.mk (Below.refl w.heap.size w)
  have H : (impl_fromNodes.l0 k ([] : List (S28)) l0 (l0.length : Int) 0) = some r := h
  clear h
  have H' := Aside0.mk H
  clear H
  go_enter Tryd.func22, Tryd.ntmps22
  go_wp2
  go_loopg [3, 8] k (fun kq v3 v8 w' => ∃ (x3_1 : List (S28)) (x8_1 : Int), v8 = .int .i64 x8_1 ∧ Aside0 (impl_fromNodes.l0 kq x3_1 l0 (l0.length : Int) x8_1 = some r) ∧ Aside0 (kq ≤ k) ∧ Aside0 (Kd.R k28 28 w' w.heap.size (fun _ => True) v3 x3_1) ∧ Aside0 (Below w.heap.size w w'))
  case atStart => exact ⟨(([] : List (S28))), (0), (by first | rfl | (simp; done) | (simp [*]; done)), H', ⟨Nat.le_refl _⟩, ⟨by first | exact Kd.R_nil _ _ _ _ _ | exact Kd.N_nil _ _ _ _ _ | exact Kd.V_nil _ _ _ _ _ | exact Kd.Q_nil _ _ _ _ _ | exact Kd.S_nil _ _ _ _ _⟩, ⟨by repeat (first | (with_reducible first | exact HB.out | apply below_alloc | apply pw_below_drewN | apply below_drew1) | exact HB.out)⟩⟩
  case round =>
    clear H'
    obtain ⟨x3_1, x8_1, rfl, HA, HK1, HO_3, HB⟩ := hrel
    cases gk with
    | zero => exact absurd HA.out (by simp [impl_fromNodes.l0])
    | succ k1 =>
      have H := HA.out
      clear HA
      simp only [impl_fromNodes.l0] at H
      by_cases c2 : x8_1 < (l0.length : Int)
      · rw [if_pos c2] at H
        have c2b0 : decide (x8_1 < (l0.length : Int)) = true := decide_eq_true c2
        clear c2
        by_cases c3 : 0 ≤ x8_1
        · rw [if_pos c3] at H
          have c3b0 : decide (0 ≤ x8_1) = true := decide_eq_true c3
          clear c3
          by_cases c4 : x8_1 < (l0.length : Int)
          · rw [if_pos c4] at H
            have c4b0 : decide (x8_1 < (l0.length : Int)) = true := decide_eq_true c4
            clear c4
            replace H := Option.bind_eq_some_iff.mp H
            obtain ⟨⟨t110, t111⟩, A50, H⟩ := H
            replace H : (if x3_1.length < 8796093022208 then (impl_fromNodes.l0 k1 (x3_1 ++ [(⟨t110, t111⟩ : S28)]) l0 (l0.length : Int) (wrap64 (x8_1 + 1))) else (none)) = some r := H
            have A5 := Aside0.mk A50
            clear A50
            by_cases c6 : x3_1.length < 8796093022208
            · rw [if_pos c6] at H
              have LMc6 := Aside0.mk c6
              clear c6
              obtain ⟨y112, hy112⟩ : ∃ y_ : List (S28), y_ = (x3_1 ++ [(⟨t110, t111⟩ : S28)]) := ⟨_, rfl⟩
              replace H : (impl_fromNodes.l0 k1 y112 l0 (l0.length : Int) (wrap64 (x8_1 + 1))) = some r := by first | (rw [hy112]; with_reducible exact H) | (have H2_ := (Option.bind_some _ _).symm.trans H; rw [hy112]; with_reducible exact H2_) | (have H2_ := (Option.bind_some _ _).symm.trans H; with_reducible exact H2_) | with_reducible exact H | (rw [hy112]; exact H) | exact H
              have Ny112 := Aside0.mk hy112
              clear hy112
              have H' := Aside0.mk H
              clear H
              have p108 : 0 ≤ (x8_1 : Int) := of_decide_eq_true (by first | (with_reducible assumption) | assumption)
              have q108 : x8_1 < (l0.length : Int) := of_decide_eq_true (by first | (with_reducible assumption) | assumption)
              obtain ⟨ad108, e108, hx108_0, hx108_1⟩ := at_T52 HR0.out x8_1 p108 q108
              cases e108
              replace hx108_0 := (HB.out.cell (World.block_lt_of_cell? w _ hx108_0)).trans hx108_0
              replace hx108_1 := (HB.out.cell (World.block_lt_of_cell? w _ hx108_1)).trans hx108_1
              replace p108 := eq_true p108
              replace q108 := eq_true q108
              go_wp2_with (first | ((with_reducible refine gate_dst (N := 5) rfl ?_); refine box_event ?hg (N := 5) ?hd (cs := #[.int .u64 0, .int .u64 0]) (t := 52) ?hr ?_; (case hd => rfl); (case hg => rfl); (case hr => first | (go_simp; done) | (go_simp; rfl)); intro gb109 hg w7 hbox hb; have n0_ := Aside0.mk (Kd.R_below (by (with_reducible repeat (first | apply Kd.R_alloc | apply Kd.R_drewN | apply Kd.R_drew)); exact HO_3.out) hb); have n1_ := Aside0.mk (below_step (by repeat (first | (with_reducible first | exact HB.out | apply below_alloc | apply pw_below_drewN | apply below_drew1) | exact HB.out)) hb); have n2_ := Aside0.mk (hbox); have n3_ := Aside0.mk ((by rw [hg]; exact (below_size (by repeat (first | (with_reducible first | exact HB.out | apply below_alloc | apply pw_below_drewN | apply below_drew1) | exact HB.out))) : w.heap.size ≤ gb109)); have n4_ := Aside0.mk ((by rw [hg]; exact (below_size (by repeat (first | (with_reducible first | exact HB.out | apply below_alloc | apply pw_below_drewN | apply below_drew1) | exact HB.out))) : w.heap.size ≤ gb109)); clear HO_3; clear HB; have HO_3 := n0_; have HB := n1_; have BK109 := n2_; have GW109 := n3_; have GE109 := n4_; clear n0_ n1_ n2_ n3_ n4_; clear hb hbox hg; have hcz8_0 : w7.cell? ⟨gb109, 0, none⟩ = some (.int .u64 0) := (blk_cell BK109.out 0).trans rfl; have hcz8_1 : w7.cell? ⟨gb109, 1, none⟩ = some (.int .u64 0) := (blk_cell BK109.out 1).trans rfl; have hfz8_0 := blk_frozen BK109.out 0; have hfz8_1 := blk_frozen BK109.out 1) | ((with_reducible refine gate_callee (f := 25) rfl ?_); refine goesL_ (some 14) rfl rfl Tryd.func25 (by kernel_rfl) rfl #[.agg #[.int .u64 ((rd_T52 l0 x8_1).f0), .int .u64 ((rd_T52 l0 x8_1).f1)]] rfl (by (try simp only [List.map_toArray, List.map_cons, List.map_nil]); first | done | rfl | (simp only [List.length_drop, List.length_take]; rfl)) ?_; (with_reducible refine (impl_fromNode.calls ((rd_T52 l0 x8_1).f0) ((rd_T52 l0 x8_1).f1) t110 t111 _ A5.out).mono ?_); rintro e w9 ⟨rfl, hb⟩; refine ⟨_, rfl, ?_⟩; have n0_ := Aside0.mk (Kd.R_below (by (with_reducible repeat (first | apply Kd.R_alloc | apply Kd.R_drewN | apply Kd.R_drew)); exact (Kd.R_mono (Kd.R_far (p := ⟨gb109, 1, none⟩) (Kd.R_far (p := ⟨gb109, 0, none⟩) (Kd.R_types HO_3.out BK109.out (by decide)) (fun _ hk => hk.2) (.int .u64 ((rd_T52 l0 x8_1).f0))) (fun _ hk => hk.2) (.int .u64 ((rd_T52 l0 x8_1).f1))) (fun _ h_ => h_.1))) hb); have n1_ := Aside0.mk (blk_below (g := gb109) (o := .cells #[.int .u64 ((rd_T52 l0 x8_1).f0), .int .u64 ((rd_T52 l0 x8_1).f1)] 52 (0, 0)) (by (with_reducible repeat (first | refine blk_drewN ?_ _ | refine blk_drew ?_ | refine blk_alloc ?_ _)); refine blk_put (cs := #[.int .u64 ((rd_T52 l0 x8_1).f0), .int .u64 0]) ?_ 1 _ rfl; (with_reducible repeat (first | refine blk_drewN ?_ _ | refine blk_drew ?_ | refine blk_alloc ?_ _)); refine blk_put (cs := #[.int .u64 0, .int .u64 0]) ?_ 0 _ rfl; (with_reducible repeat (first | refine blk_drewN ?_ _ | refine blk_drew ?_ | refine blk_alloc ?_ _)); exact BK109.out) hb); have n2_ := Aside0.mk (below_step (by repeat (first | (with_reducible first | exact HB.out | apply below_alloc | apply pw_below_drewN | apply below_drew1 | refine below_set ?_ GE109.out) | exact HB.out)) hb); clear HO_3; clear BK109; clear HB; have HO_3 := n0_; have BK109 := n1_; have HB := n2_; clear n0_ n1_ n2_; (try clear hb); (try clear hb2); (try clear hk); (try clear hi)) | ((with_reducible refine gate_builtin (b := .append) (xs := #[.tmp 12, .tmp 15]) rfl ?_); at_builtin; refine Kd.R_append k28 (w0 := w) w.heap.size rfl (.tmp 12) (.tmp 15) 24 28 (.agg #[(.int .u64 0), (.int .u64 0)]) 16 rfl Tryd.underlying24 info28 rfl (by decide) (by omega) u3 x3_1 (⟨t110, t111⟩ : S28) [.int .u64 t110, .int .u64 t111] (fun _ => True) (fun _ => False) rfl rfl ?aP (fun _ hk => hk.elim) ?aF ?aO ?aB ?aS ?aL ?_; (case aP => exact k28_mkM _ _ _ (⟨t110, t111⟩ : S28)); (case aB => exact (by repeat (first | (with_reducible first | exact HB.out | apply below_alloc | apply pw_below_drewN | apply below_drew1 | refine below_set ?_ GE109.out) | exact HB.out))); (case aF => exact (fun _ _ => trivial)); (case aO => exact (by (with_reducible repeat (first | apply Kd.R_alloc | apply Kd.R_drewN | apply Kd.R_drew)); exact HO_3.out)); (case aS => exact (below_size (by repeat (first | (with_reducible first | exact HB.out | apply below_alloc | apply pw_below_drewN | apply below_drew1 | refine below_set ?_ GE109.out) | exact HB.out)))); (case aL => have := LMc6.out; omega); intro v113 w10 ho hb hg hat; rw [← Ny112.out] at ho; have n0_ := Aside0.mk (blk_grown (g := gb109) (o := .cells #[.int .u64 ((rd_T52 l0 x8_1).f0), .int .u64 ((rd_T52 l0 x8_1).f1)] 52 (0, 0)) (by (with_reducible repeat (first | refine blk_drewN ?_ _ | refine blk_drew ?_ | refine blk_alloc ?_ _)); exact BK109.out) hg (Kd.R_ne HO_3.out BK109.out (by decide))); have n1_ := Aside0.mk (hb); have n2_ := Aside0.mk (ho); clear BK109; clear HB; clear HO_3; have BK109 := n0_; have HB := n1_; have HO114 := n2_; clear n0_ n1_ n2_; clear ho hb hg hat))
              go_roundg k1
              case measure => have := HK1.out; omega
              case rel => exact ⟨(y112), (wrap64 (x8_1 + 1)), (by first | rfl | (simp; done) | (simp [*]; done)), H', ⟨by have := HK1.out; omega⟩, ⟨by (with_reducible repeat (first | apply Kd.R_alloc | apply Kd.R_drewN | apply Kd.R_drew)); exact HO114.out⟩, ⟨by repeat (first | (with_reducible first | exact HB.out | apply below_alloc | apply pw_below_drewN | apply below_drew1 | refine below_set ?_ GE109.out) | exact HB.out)⟩⟩
            · rw [if_neg c6] at H
              exact absurd H (by simp)
          · rw [if_neg c4] at H
            exact absurd H (by simp)
        · rw [if_neg c3] at H
          exact absurd H (by simp)
      · rw [if_neg c2] at H
        have c2b0 : decide (x8_1 < (l0.length : Int)) = false := decide_eq_false c2
        clear c2
        obtain rfl := Option.some.inj H
        go_wp2
        go_ret
        exact ⟨_, by first | rfl | (simp [errW_none, errW_some] <;> rfl) | (simp [*, errW_none, errW_some] <;> rfl), by (with_reducible repeat (first | apply Kd.R_alloc | apply Kd.R_drewN | apply Kd.R_drew)); exact HO_3.out, by repeat (first | (with_reducible first | exact HB.out | apply below_alloc | apply pw_below_drewN | apply below_drew1) | exact HB.out)⟩

end Go.Proofs.YtkkkaegocinkeaaDoor.Q
