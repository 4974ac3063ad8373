-- Written by a program of ours (wip/xp) out of the translation; Lean checks it.
import Derived.Test.YtkmdkmlgahfcpaaM0
import Derived.Test.YtkmdkmlgahfcpaaMF10
namespace Go.Proofs.Ytkmdkmlgahfcpaa.M
open Go.RowKit Go.Proofs.YtkmdkmlgahfcpaaW.PrintWords Go.Proofs.YtkmdkmlgahfcpaaW.PrintLast Go.Proofs.YtkmdkmlgahfcpaaW.PrintMore
attribute [local go_sem] max2_int min2_int max_two min_two max_three min_three max_four min_four   -- for this text's walks alone
set_option linter.unusedVariables false
set_option linter.unusedSimpArgs false

/-! ### laws_zzFits7: function 6 -/
def laws_zzFits7.f (k : Nat) (a0_0 : Int) (a0_1 : Int) (l0_2 : List (List Int)) : Option (Bool) := (laws_zzFits2.f k l0_2).bind fun t103 => (if t103 = true then (some true) else (some false))
theorem laws_zzFits7.mono : ∀ a0 a1 a2 k, LeO (laws_zzFits7.f k a0 a1 a2) (laws_zzFits7.f (k + 1) a0 a1 a2) := by
  intro a0 a1 a2 k
  unfold laws_zzFits7.f
  repeat' first
      | (with_reducible exact laws_zzFits2.mono _ _)
      | (with_reducible exact LeO.refl _)
      | (with_reducible exact LeO.none _)
      | (with_reducible refine LeO.ite ?_ ?_)
      | (with_reducible refine LeO.bind ?_ (fun _ => ?_))
      | exact laws_zzFits2.mono _ _
      | exact LeO.none _
      | refine LeO.ite ?_ ?_
      | refine LeO.bind ?_ (fun _ => ?_)
set_option maxHeartbeats 8000000 in
set_option maxRecDepth 100000 in
theorem laws_zzFits7.calls (k : Nat) (a0_0 : Int) (a0_1 : Int) (A0_2 : Option Addr) (c0_2 : Nat) (l0_2 : List (List Int)) (r : Bool) (w : World) (hr0_2 : Kd.C (Kd.slice 5 (Kd.int .u8)) w A0_2 l0_2.length l0_2) (hc0_2 : l0_2.length ≤ c0_2) (h : laws_zzFits7.f k a0_0 a0_1 l0_2 = some r) :
    Calls Try.prog 6 #[.agg #[.int .u64 a0_0, .int .u64 a0_1, .slice A0_2 l0_2.length c0_2]] w fun e w' => e = .returned (.bool r) ∧ Below w.heap.size w w' := by
  have hu25 := Try.underlying25
  have HR0_2 := Aside0.mk hr0_2
  have HC0_2 := Aside0.mk hc0_2
  clear hr0_2 hc0_2
  have HB := Aside0.mk (Below.refl w.heap.size w)
  have H : ((laws_zzFits2.f k l0_2).bind fun t103 => (if t103 = true then (some true) else (some false))) = some r := h
  clear h
  replace H := Option.bind_eq_some_iff.mp H
  obtain ⟨t103, A20, H⟩ := H
  replace H : (if t103 = true then (some true) else (some false)) = some r := H
  have A2 := Aside0.mk A20
  clear A20
  by_cases c3 : t103 = true
  · subst c3
    have H1 : (some true) = some r := by rw [if_pos rfl] at H; exact H
    clear H
    have H := H1
    clear H1
    obtain rfl := Option.some.inj H
    go_enter Try.func6, Try.ntmps6
    go_wp2_with (first | ((with_reducible refine gate_dst (N := 1) rfl ?_); refine box_event ?hg (N := 1) ?hd (cs := #[.int .u64 a0_0, .int .u64 a0_1, .slice A0_2 l0_2.length c0_2]) (t := 25) ?hr ?_; (case hd => rfl); (case hg => rfl); (case hr => first | (go_simp; done) | (go_simp; rfl)); intro gb102 hg w4 hbox hb; have n0_ := Aside0.mk (below_step (by repeat (first | (with_reducible first | exact HB.out | apply below_alloc | apply pw_below_drewN | apply below_drew1) | exact HB.out)) hb); have n1_ := Aside0.mk (hbox); have n2_ := Aside0.mk ((by rw [hg]; exact (below_size (by repeat (first | (with_reducible first | exact HB.out | apply below_alloc | apply pw_below_drewN | apply below_drew1) | exact HB.out))) : w.heap.size ≤ gb102)); have n3_ := Aside0.mk ((by rw [hg]; exact (below_size (by repeat (first | (with_reducible first | exact HB.out | apply below_alloc | apply pw_below_drewN | apply below_drew1) | exact HB.out))) : w.heap.size ≤ gb102)); clear HB; have HB := n0_; have BK102 := n1_; have GW102 := n2_; have GE102 := n3_; clear n0_ n1_ n2_ n3_; clear hb hbox hg; have hcz5_0 : w4.cell? ⟨gb102, 0, none⟩ = some (.int .u64 a0_0) := (blk_cell BK102.out 0).trans rfl; have hcz5_1 : w4.cell? ⟨gb102, 1, none⟩ = some (.int .u64 a0_1) := (blk_cell BK102.out 1).trans rfl; have hcz5_2 : w4.cell? ⟨gb102, 2, none⟩ = some (.slice A0_2 l0_2.length c0_2) := (blk_cell BK102.out 2).trans rfl; have hfz5_0 := blk_frozen BK102.out 0; have hfz5_1 := blk_frozen BK102.out 1; have hfz5_2 := blk_frozen BK102.out 2) | ((with_reducible refine gate_callee (f := 10) rfl ?_); refine goesL_ (some 5) rfl rfl Try.func10 (by kernel_rfl) rfl #[.slice A0_2 l0_2.length c0_2] rfl (by (try simp only [List.map_toArray, List.map_cons, List.map_nil]); first | done | rfl | (simp only [List.length_drop, List.length_take]; rfl)) ?_; (with_reducible refine (laws_zzFits2.calls k _ _ l0_2 true _ ?side1 ?side2 A2.out).mono ?_); (case side1 => repeat (first | exact (Kd.C_below HR0_2.out HB.out) | (with_reducible refine Kd.C_alloc ?_ _) | (with_reducible refine Kd.C_drewN ?_ _) | (with_reducible refine Kd.C_drew ?_))); (case side2 => exact HC0_2.out); rintro e w' ⟨rfl, ⟨nd, rfl⟩⟩; refine ⟨_, rfl, ?_⟩))
    go_ret
    exact ⟨by first | rfl | (simp [errW_none, errW_some] <;> rfl) | (simp [*, errW_none, errW_some] <;> rfl), by repeat (first | (with_reducible first | exact HB.out | apply below_alloc | apply pw_below_drewN | apply below_drew1 | refine below_set ?_ GE102.out) | exact HB.out)⟩
  · replace c3 := Bool.eq_false_iff.mpr c3
    subst c3
    have H1 : (some false) = some r := by rw [if_neg (show ¬ (false = true) by decide)] at H; exact H
    clear H
    have H := H1
    clear H1
    obtain rfl := Option.some.inj H
    go_enter Try.func6, Try.ntmps6
    go_wp2_with (first | ((with_reducible refine gate_dst (N := 1) rfl ?_); refine box_event ?hg (N := 1) ?hd (cs := #[.int .u64 a0_0, .int .u64 a0_1, .slice A0_2 l0_2.length c0_2]) (t := 25) ?hr ?_; (case hd => rfl); (case hg => rfl); (case hr => first | (go_simp; done) | (go_simp; rfl)); intro gb102 hg w6 hbox hb; have n0_ := Aside0.mk (below_step (by repeat (first | (with_reducible first | exact HB.out | apply below_alloc | apply pw_below_drewN | apply below_drew1) | exact HB.out)) hb); have n1_ := Aside0.mk (hbox); have n2_ := Aside0.mk ((by rw [hg]; exact (below_size (by repeat (first | (with_reducible first | exact HB.out | apply below_alloc | apply pw_below_drewN | apply below_drew1) | exact HB.out))) : w.heap.size ≤ gb102)); have n3_ := Aside0.mk ((by rw [hg]; exact (below_size (by repeat (first | (with_reducible first | exact HB.out | apply below_alloc | apply pw_below_drewN | apply below_drew1) | exact HB.out))) : w.heap.size ≤ gb102)); clear HB; have HB := n0_; have BK102 := n1_; have GW102 := n2_; have GE102 := n3_; clear n0_ n1_ n2_ n3_; clear hb hbox hg; have hcz7_0 : w6.cell? ⟨gb102, 0, none⟩ = some (.int .u64 a0_0) := (blk_cell BK102.out 0).trans rfl; have hcz7_1 : w6.cell? ⟨gb102, 1, none⟩ = some (.int .u64 a0_1) := (blk_cell BK102.out 1).trans rfl; have hcz7_2 : w6.cell? ⟨gb102, 2, none⟩ = some (.slice A0_2 l0_2.length c0_2) := (blk_cell BK102.out 2).trans rfl; have hfz7_0 := blk_frozen BK102.out 0; have hfz7_1 := blk_frozen BK102.out 1; have hfz7_2 := blk_frozen BK102.out 2) | ((with_reducible refine gate_callee (f := 10) rfl ?_); refine goesL_ (some 5) rfl rfl Try.func10 (by kernel_rfl) rfl #[.slice A0_2 l0_2.length c0_2] rfl (by (try simp only [List.map_toArray, List.map_cons, List.map_nil]); first | done | rfl | (simp only [List.length_drop, List.length_take]; rfl)) ?_; (with_reducible refine (laws_zzFits2.calls k _ _ l0_2 false _ ?side1 ?side2 A2.out).mono ?_); (case side1 => repeat (first | exact (Kd.C_below HR0_2.out HB.out) | (with_reducible refine Kd.C_alloc ?_ _) | (with_reducible refine Kd.C_drewN ?_ _) | (with_reducible refine Kd.C_drew ?_))); (case side2 => exact HC0_2.out); rintro e w' ⟨rfl, ⟨nd, rfl⟩⟩; refine ⟨_, rfl, ?_⟩))
    go_ret
    exact ⟨by first | rfl | (simp [errW_none, errW_some] <;> rfl) | (simp [*, errW_none, errW_some] <;> rfl), by repeat (first | (with_reducible first | exact HB.out | apply below_alloc | apply pw_below_drewN | apply below_drew1 | refine below_set ?_ GE102.out) | exact HB.out)⟩

end Go.Proofs.Ytkmdkmlgahfcpaa.M
