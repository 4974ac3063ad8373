/- The walk of the law itself. -/
import Derived.Test.YtlfmplhleglibaaDoorLawCA
namespace Go.Proofs.YtlfmplhleglibaaDoor.M
open Go Go.RowKit Go.Proofs.YtlfmplhleglibaaDoorW.PrintWords Go.Proofs.YtlfmplhleglibaaDoorW.PrintLast Go.Proofs.YtlfmplhleglibaaDoorW.PrintMore
attribute [local go_sem] max2_int min2_int max_two min_two max_three min_three max_four min_four
set_option linter.unusedVariables false
set_option linter.unusedSimpArgs false
set_option maxHeartbeats 8000000 in
set_option maxRecDepth 100000 in
theorem laws_FnCache.calls (k : Nat) (a0 : Int) (a1 : Int) (A2 : Option Addr) (c2 : Nat) (l2 : List (S27)) (r : Bool) (w : World) (hT : TabOK w) (hr2 : Kd.C k27 w A2 l2.length l2) (hc2 : l2.length ≤ c2) (h : laws_FnCache.f k a0 a1 l2 = some r) :
    Calls Tryd.prog 3 #[.int .i64 a0, .int .i64 a1, .slice A2 l2.length c2] w fun e w' => e = .returned (.bool r) ∧ Below w.heap.size w w' := by
  have hu27 := Tryd.underlying27
  have HT := Aside0.mk hT
  clear hT
  have HR2 := Aside0.mk hr2
  have HC2 := Aside0.mk hc2
  clear hr2 hc2
  have HB := Aside0.mk (Below.refl w.heap.size w)
  have H : ((laws_zzFits9.f k l2).bind fun t168 => (if t168 = true then (if a0 < 1 then (laws_FnCache.j0 k a0 a1 l2 true) else (if a0 > 12 then (laws_FnCache.j0 k a0 a1 l2 true) else (if a1 < 1 then (laws_FnCache.j0 k a0 a1 l2 true) else (if a1 > 12 then (laws_FnCache.j0 k a0 a1 l2 true) else (laws_FnCache.j0 k a0 a1 l2 (decide ((l2.length : Int) > 60))))))) else (some true))) = some r := h
  clear h
  replace H := Option.bind_eq_some_iff.mp H
  obtain ⟨t168, A40, H⟩ := H
  replace H : (if t168 = true then (if a0 < 1 then (laws_FnCache.j0 k a0 a1 l2 true) else (if a0 > 12 then (laws_FnCache.j0 k a0 a1 l2 true) else (if a1 < 1 then (laws_FnCache.j0 k a0 a1 l2 true) else (if a1 > 12 then (laws_FnCache.j0 k a0 a1 l2 true) else (laws_FnCache.j0 k a0 a1 l2 (decide ((l2.length : Int) > 60))))))) else (some true)) = some r := H
  have A4 := Aside0.mk A40
  clear A40
  by_cases c5 : t168 = true
  · subst c5
    have H1 : (if a0 < 1 then (laws_FnCache.j0 k a0 a1 l2 true) else (if a0 > 12 then (laws_FnCache.j0 k a0 a1 l2 true) else (if a1 < 1 then (laws_FnCache.j0 k a0 a1 l2 true) else (if a1 > 12 then (laws_FnCache.j0 k a0 a1 l2 true) else (laws_FnCache.j0 k a0 a1 l2 (decide ((l2.length : Int) > 60))))))) = some r := by rw [if_pos rfl] at H; exact H
    clear H
    have H := H1
    clear H1
    have HC6 := Aside0.mk H
    clear H
    go_enter Tryd.func3, Tryd.ntmps3
    go_upto_region 3 with (first | (go_at_call 4; (with_reducible refine (laws_zzFits9.calls k _ _ l2 true _ ?side1 ?side2 A4.out).mono ?_); (case side1 => repeat (first | exact HR2.out | (with_reducible refine Kd.C_alloc ?_ _) | (with_reducible refine Kd.C_drewN ?_ _) | (with_reducible refine Kd.C_drew ?_))); (case side2 => exact HC2.out); rintro e w7 ⟨rfl, hb⟩; have n0_ := Aside0.mk (below_step (by repeat (first | (with_reducible first | exact HB.out | apply below_alloc | apply pw_below_drewN | apply below_drew1) | exact HB.out)) hb); clear HB; have HB := n0_; clear n0_; (try clear hb); (try clear hb2); (try clear hk); (try clear hi)))
    repeat (go_quiet (first | (go_at_call 4; (with_reducible refine (laws_zzFits9.calls k _ _ l2 true _ ?side1 ?side2 A4.out).mono ?_); (case side1 => repeat (first | exact HR2.out | (with_reducible refine Kd.C_alloc ?_ _) | (with_reducible refine Kd.C_drewN ?_ _) | (with_reducible refine Kd.C_drew ?_))); (case side2 => exact HC2.out); rintro e w7 ⟨rfl, hb⟩; have n0_ := Aside0.mk (below_step (by repeat (first | (with_reducible first | exact HB.out | apply below_alloc | apply pw_below_drewN | apply below_drew1) | exact HB.out)) hb); clear HB; have HB := n0_; clear n0_; (try clear hb); (try clear hb2); (try clear hk); (try clear hi))); go_upto_region 3 with (first | (go_at_call 4; (with_reducible refine (laws_zzFits9.calls k _ _ l2 true _ ?side1 ?side2 A4.out).mono ?_); (case side1 => repeat (first | exact HR2.out | (with_reducible refine Kd.C_alloc ?_ _) | (with_reducible refine Kd.C_drewN ?_ _) | (with_reducible refine Kd.C_drew ?_))); (case side2 => exact HC2.out); rintro e w7 ⟨rfl, hb⟩; have n0_ := Aside0.mk (below_step (by repeat (first | (with_reducible first | exact HB.out | apply below_alloc | apply pw_below_drewN | apply below_drew1) | exact HB.out)) hb); clear HB; have HB := n0_; clear n0_; (try clear hb); (try clear hb2); (try clear hk); (try clear hi))))
    (try simp only [Act.put, List.setIfInBounds_toArray, List.set_cons_zero, List.set_cons_succ])
    go_cut [37] (fun v37 wc => ∃ (kq : Nat) (x37_5 : Bool), v37 = .bool x37_5 ∧ Aside0 (laws_FnCache.j0 kq a0 a1 l2 x37_5 = some r) ∧ Aside0 (kq ≤ k) ∧ Aside0 (Below w.heap.size w wc))
    case first =>
      have H := HC6.out
      clear HC6
      by_cases c8 : a0 < 1
      · rw [if_pos c8] at H
        have c8b0 : decide (a0 < 1) = true := decide_eq_true c8
        clear c8
        (first | rw [c8b0] | (simp only [i64_w, i32_w]; rw [c8b0]) | skip)
        have H' := Aside0.mk H
        clear H
        go_wp2
        repeat (go_quiet (fail); try go_wp2)
        go_meet
        case rel => exact ⟨_, (true), (by first | rfl | (simp; done) | (simp [*]; done)), H', ⟨by first | omega | exact Nat.le_refl _⟩, ⟨by repeat (first | (with_reducible first | exact HB.out | apply below_alloc | apply pw_below_drewN | apply below_drew1) | exact HB.out)⟩⟩
      · rw [if_neg c8] at H
        have c8b0 : decide (a0 < 1) = false := decide_eq_false c8
        clear c8
        (first | rw [c8b0] | (simp only [i64_w, i32_w]; rw [c8b0]) | skip)
        by_cases c9 : a0 > 12
        · rw [if_pos c9] at H
          have c9b0 : decide (12 < a0) = true := decide_eq_true c9
          clear c9
          have H' := Aside0.mk H
          clear H
          go_wp2
          repeat (go_quiet (fail); try go_wp2)
          go_meet
          case rel => exact ⟨_, (true), (by first | rfl | (simp; done) | (simp [*]; done)), H', ⟨by first | omega | exact Nat.le_refl _⟩, ⟨by repeat (first | (with_reducible first | exact HB.out | apply below_alloc | apply pw_below_drewN | apply below_drew1) | exact HB.out)⟩⟩
        · rw [if_neg c9] at H
          have c9b0 : decide (12 < a0) = false := decide_eq_false c9
          clear c9
          by_cases c10 : a1 < 1
          · rw [if_pos c10] at H
            have c10b0 : decide (a1 < 1) = true := decide_eq_true c10
            clear c10
            have H' := Aside0.mk H
            clear H
            go_wp2
            repeat (go_quiet (fail); try go_wp2)
            go_meet
            case rel => exact ⟨_, (true), (by first | rfl | (simp; done) | (simp [*]; done)), H', ⟨by first | omega | exact Nat.le_refl _⟩, ⟨by repeat (first | (with_reducible first | exact HB.out | apply below_alloc | apply pw_below_drewN | apply below_drew1) | exact HB.out)⟩⟩
          · rw [if_neg c10] at H
            have c10b0 : decide (a1 < 1) = false := decide_eq_false c10
            clear c10
            by_cases c11 : a1 > 12
            · rw [if_pos c11] at H
              have c11b0 : decide (12 < a1) = true := decide_eq_true c11
              clear c11
              have H' := Aside0.mk H
              clear H
              go_wp2
              repeat (go_quiet (fail); try go_wp2)
              go_meet
              case rel => exact ⟨_, (true), (by first | rfl | (simp; done) | (simp [*]; done)), H', ⟨by first | omega | exact Nat.le_refl _⟩, ⟨by repeat (first | (with_reducible first | exact HB.out | apply below_alloc | apply pw_below_drewN | apply below_drew1) | exact HB.out)⟩⟩
            · rw [if_neg c11] at H
              have c11b0 : decide (12 < a1) = false := decide_eq_false c11
              clear c11
              have H' := Aside0.mk H
              clear H
              go_wp2
              repeat (go_quiet (fail); try go_wp2)
              go_meet
              case rel => exact ⟨_, (decide ((l2.length : Int) > 60)), (by first | rfl | (simp; done) | (simp [*]; done)), H', ⟨by first | omega | exact Nat.le_refl _⟩, ⟨by repeat (first | (with_reducible first | exact HB.out | apply below_alloc | apply pw_below_drewN | apply below_drew1) | exact HB.out)⟩⟩
    case rest =>
      clear HC6
      try clear c1
      try clear c2
      try clear p2
      try clear c3
      try clear c5
      try clear c8
      try clear c8b0
      try clear c9
      try clear c9b0
      try clear c10
      try clear c10b0
      try clear c11
      try clear c11b0
      obtain ⟨kq, x37_5, rfl, HA, HJ5, HB⟩ := hcut
      cases kq with
      | zero => exact absurd HA.out (by simp [laws_FnCache.j0])
      | succ kj5 =>
        have H := HA.out
        clear HA
        simp only [laws_FnCache.j0] at H
        by_cases c12 : x37_5 = true
        · subst c12
          have H1 : (some true) = some r := by rw [if_pos rfl] at H; exact H
          clear H
          have H := H1
          clear H1
          obtain rfl := Option.some.inj H
          go_wp2
          repeat (go_quiet (fail); try go_wp2)
          go_ret
          exact ⟨by first | rfl | (simp [errW_none, errW_some] <;> rfl) | (simp [*, errW_none, errW_some] <;> rfl), by repeat (first | (with_reducible first | exact HB.out | apply below_alloc | apply pw_below_drewN | apply below_drew1) | exact HB.out)⟩
        · replace c12 := Bool.eq_false_iff.mpr c12
          subst c12
          have H1 : (laws_FnCache.l0 kj5 a0 a1 l2 l2 (l2.length : Int) 0) = some r := by rw [if_neg (show ¬ (false = true) by decide)] at H; exact H
          clear H
          have H := H1
          clear H1
          have H' := Aside0.mk H
          clear H
          go_wp2
          repeat (go_quiet (fail); try go_wp2)
          go_loopg [40] kj5 (fun kq v40 w' => ∃ (x40_2 : Int), v40 = .int .i64 x40_2 ∧ Aside0 (laws_FnCache.l0 kq a0 a1 l2 l2 (l2.length : Int) x40_2 = some r) ∧ Aside0 (kq ≤ kj5) ∧ Aside0 (Below w.heap.size w w'))
          case atStart => exact ⟨(0), (by first | rfl | (simp; done) | (simp [*]; done)), H', ⟨Nat.le_refl _⟩, ⟨by repeat (first | (with_reducible first | exact HB.out | apply below_alloc | apply pw_below_drewN | apply below_drew1) | exact HB.out)⟩⟩
          case round =>
            clear H'
            try clear c1
            try clear c2
            try clear p2
            try clear c3
            try clear c5
            try clear c8
            try clear c8b0
            try clear c9
            try clear c9b0
            try clear c10
            try clear c10b0
            try clear c11
            try clear c11b0
            try clear c12
            try clear p2
            obtain ⟨x40_2, rfl, HA, HK2, HB⟩ := hrel
            cases gk with
            | zero => exact absurd HA.out (by simp [laws_FnCache.l0])
            | succ k2 =>
              have H := HA.out
              clear HA
              simp only [laws_FnCache.l0] at H
              by_cases c13 : x40_2 < (l2.length : Int)
              · rw [if_pos c13] at H
                have c13b0 : decide (x40_2 < (l2.length : Int)) = true := decide_eq_true c13
                clear c13
                by_cases c14 : 0 ≤ x40_2
                · rw [if_pos c14] at H
                  have c14b0 : decide (0 ≤ x40_2) = true := decide_eq_true c14
                  clear c14
                  by_cases c15 : x40_2 < (l2.length : Int)
                  · rw [if_pos c15] at H
                    have c15b0 : decide (x40_2 < (l2.length : Int)) = true := decide_eq_true c15
                    clear c15
                    replace H := Option.bind_eq_some_iff.mp H
                    obtain ⟨t171, A160, H⟩ := H
                    replace H : (if t171 = true then (if (((rd_T27 l2 x40_2).f2).length : Int) > 12 then (some true) else (if (rd_T27 l2 x40_2).f0 = true then ((spec_Rectangular.f k2 ((rd_T27 l2 x40_2).f2)).bind fun t172 => (if t172 = true then (laws_FnCache.l0 k2 a0 a1 l2 l2 (l2.length : Int) (wrap64 (x40_2 + 1))) else (some true))) else (laws_FnCache.l0 k2 a0 a1 l2 l2 (l2.length : Int) (wrap64 (x40_2 + 1))))) else (some true)) = some r := H
                    have A16 := Aside0.mk A160
                    clear A160
                    by_cases c17 : t171 = true
                    · subst c17
                      have H1 : (if (((rd_T27 l2 x40_2).f2).length : Int) > 12 then (some true) else (if (rd_T27 l2 x40_2).f0 = true then ((spec_Rectangular.f k2 ((rd_T27 l2 x40_2).f2)).bind fun t172 => (if t172 = true then (laws_FnCache.l0 k2 a0 a1 l2 l2 (l2.length : Int) (wrap64 (x40_2 + 1))) else (some true))) else (laws_FnCache.l0 k2 a0 a1 l2 l2 (l2.length : Int) (wrap64 (x40_2 + 1))))) = some r := by rw [if_pos rfl] at H; exact H
                      clear H
                      have H := H1
                      clear H1
                      by_cases c18 : (((rd_T27 l2 x40_2).f2).length : Int) > 12
                      · rw [if_pos c18] at H
                        have c18b0 : decide (12 < (((rd_T27 l2 x40_2).f2).length : Int)) = true := decide_eq_true c18
                        have c18b1 : decide (12 < ((rd_T27 l2 x40_2).f2).length) = true := decide_eq_true (by omega)
                        clear c18
                        obtain rfl := Option.some.inj H
                        have p169 : 0 ≤ (x40_2 : Int) := of_decide_eq_true (by first | (with_reducible assumption) | assumption)
                        have q169 : x40_2 < (l2.length : Int) := of_decide_eq_true (by first | (with_reducible assumption) | assumption)
                        obtain ⟨ad169, A169_1, c169_1, A169_2, c169_2, e169, hx169_0, hx169_1, hx169_2, hl169_1, hi169_1, hl169_2, hi169_2⟩ := at_T27 HR2.out x40_2 p169 q169
                        cases e169
                        replace hx169_0 := (HB.out.cell (World.block_lt_of_cell? w _ hx169_0)).trans hx169_0
                        replace hx169_1 := (HB.out.cell (World.block_lt_of_cell? w _ hx169_1)).trans hx169_1
                        replace hx169_2 := (HB.out.cell (World.block_lt_of_cell? w _ hx169_2)).trans hx169_2
                        have HR169_1 := Aside0.mk hi169_1
                        have HC169_1 := Aside0.mk hl169_1
                        clear hi169_1 hl169_1
                        have HR169_2 := Aside0.mk hi169_2
                        have HC169_2 := Aside0.mk hl169_2
                        clear hi169_2 hl169_2
                        replace p169 := eq_true p169
                        replace q169 := eq_true q169
                        go_wp2_with (first | ((with_reducible refine gate_dst (N := 8) rfl ?_); (try (refine gate_guard (by rfl) ?_; dsimp only)); refine box_event ?hg (N := 8) ?hd (cs := #[.bool false, .slice none 0 0, .slice none 0 0]) (t := 27) ?hr ?_; (case hd => rfl); (case hg => rfl); (case hr => first | (go_simp; done) | (go_simp; rfl)); intro gb170 hg w19 hbox hb; have n0_ := Aside0.mk (below_step (by repeat (first | (with_reducible first | exact HB.out | apply below_alloc | apply pw_below_drewN | apply below_drew1) | exact HB.out)) hb); have n1_ := Aside0.mk (hbox); have n2_ := Aside0.mk ((by rw [hg]; exact (below_size (by repeat (first | (with_reducible first | exact HB.out | apply below_alloc | apply pw_below_drewN | apply below_drew1) | exact HB.out))) : w.heap.size ≤ gb170)); have n3_ := Aside0.mk ((by rw [hg]; exact (below_size (by repeat (first | (with_reducible first | exact HB.out | apply below_alloc | apply pw_below_drewN | apply below_drew1) | exact HB.out))) : w.heap.size ≤ gb170)); clear HB; have HB := n0_; have BK170 := n1_; have GW170 := n2_; have GE170 := n3_; clear n0_ n1_ n2_ n3_; clear hb hbox hg; have hcz20_0 : w19.cell? ⟨gb170, 0, none⟩ = some (.bool false) := (blk_cell BK170.out 0).trans rfl; have hcz20_1 : w19.cell? ⟨gb170, 1, none⟩ = some (.slice none 0 0) := (blk_cell BK170.out 1).trans rfl; have hcz20_2 : w19.cell? ⟨gb170, 2, none⟩ = some (.slice none 0 0) := (blk_cell BK170.out 2).trans rfl; have hfz20_0 := blk_frozen BK170.out 0; have hfz20_1 := blk_frozen BK170.out 1; have hfz20_2 := blk_frozen BK170.out 2) | (go_at_call 5; (with_reducible refine (laws_distinct.calls k2 _ _ ((rd_T27 l2 x40_2).f1) (wrap64 (a0 + a1)) true _ ?side1 ?side2 A16.out).mono ?_); (case side1 => exact Kd.C_below HR169_1.out (by repeat (first | (with_reducible first | exact HB.out | apply below_alloc | apply pw_below_drewN | apply below_drew1 | refine below_set ?_ GE170.out) | exact HB.out))); (case side2 => exact HC169_1.out); rintro e w' ⟨rfl, ⟨nd, rfl⟩⟩; (try first | exact ⟨rfl, _, World.drewN_drewN _ _ _⟩ | exact ⟨rfl, _, Eq.trans (World.drewN_drewN _ _ _) (congrArg (World.drewN _) (Nat.add_assoc _ _ _))⟩)))
                        repeat (go_quiet (first | ((with_reducible refine gate_dst (N := 8) rfl ?_); (try (refine gate_guard (by rfl) ?_; dsimp only)); refine box_event ?hg (N := 8) ?hd (cs := #[.bool false, .slice none 0 0, .slice none 0 0]) (t := 27) ?hr ?_; (case hd => rfl); (case hg => rfl); (case hr => first | (go_simp; done) | (go_simp; rfl)); intro gb170 hg w19 hbox hb; have n0_ := Aside0.mk (below_step (by repeat (first | (with_reducible first | exact HB.out | apply below_alloc | apply pw_below_drewN | apply below_drew1) | exact HB.out)) hb); have n1_ := Aside0.mk (hbox); have n2_ := Aside0.mk ((by rw [hg]; exact (below_size (by repeat (first | (with_reducible first | exact HB.out | apply below_alloc | apply pw_below_drewN | apply below_drew1) | exact HB.out))) : w.heap.size ≤ gb170)); have n3_ := Aside0.mk ((by rw [hg]; exact (below_size (by repeat (first | (with_reducible first | exact HB.out | apply below_alloc | apply pw_below_drewN | apply below_drew1) | exact HB.out))) : w.heap.size ≤ gb170)); clear HB; have HB := n0_; have BK170 := n1_; have GW170 := n2_; have GE170 := n3_; clear n0_ n1_ n2_ n3_; clear hb hbox hg; have hcz20_0 : w19.cell? ⟨gb170, 0, none⟩ = some (.bool false) := (blk_cell BK170.out 0).trans rfl; have hcz20_1 : w19.cell? ⟨gb170, 1, none⟩ = some (.slice none 0 0) := (blk_cell BK170.out 1).trans rfl; have hcz20_2 : w19.cell? ⟨gb170, 2, none⟩ = some (.slice none 0 0) := (blk_cell BK170.out 2).trans rfl; have hfz20_0 := blk_frozen BK170.out 0; have hfz20_1 := blk_frozen BK170.out 1; have hfz20_2 := blk_frozen BK170.out 2) | (go_at_call 5; (with_reducible refine (laws_distinct.calls k2 _ _ ((rd_T27 l2 x40_2).f1) (wrap64 (a0 + a1)) true _ ?side1 ?side2 A16.out).mono ?_); (case side1 => exact Kd.C_below HR169_1.out (by repeat (first | (with_reducible first | exact HB.out | apply below_alloc | apply pw_below_drewN | apply below_drew1 | refine below_set ?_ GE170.out) | exact HB.out))); (case side2 => exact HC169_1.out); rintro e w' ⟨rfl, ⟨nd, rfl⟩⟩; (try first | exact ⟨rfl, _, World.drewN_drewN _ _ _⟩ | exact ⟨rfl, _, Eq.trans (World.drewN_drewN _ _ _) (congrArg (World.drewN _) (Nat.add_assoc _ _ _))⟩))); try go_wp2_with (first | ((with_reducible refine gate_dst (N := 8) rfl ?_); (try (refine gate_guard (by rfl) ?_; dsimp only)); refine box_event ?hg (N := 8) ?hd (cs := #[.bool false, .slice none 0 0, .slice none 0 0]) (t := 27) ?hr ?_; (case hd => rfl); (case hg => rfl); (case hr => first | (go_simp; done) | (go_simp; rfl)); intro gb170 hg w19 hbox hb; have n0_ := Aside0.mk (below_step (by repeat (first | (with_reducible first | exact HB.out | apply below_alloc | apply pw_below_drewN | apply below_drew1) | exact HB.out)) hb); have n1_ := Aside0.mk (hbox); have n2_ := Aside0.mk ((by rw [hg]; exact (below_size (by repeat (first | (with_reducible first | exact HB.out | apply below_alloc | apply pw_below_drewN | apply below_drew1) | exact HB.out))) : w.heap.size ≤ gb170)); have n3_ := Aside0.mk ((by rw [hg]; exact (below_size (by repeat (first | (with_reducible first | exact HB.out | apply below_alloc | apply pw_below_drewN | apply below_drew1) | exact HB.out))) : w.heap.size ≤ gb170)); clear HB; have HB := n0_; have BK170 := n1_; have GW170 := n2_; have GE170 := n3_; clear n0_ n1_ n2_ n3_; clear hb hbox hg; have hcz20_0 : w19.cell? ⟨gb170, 0, none⟩ = some (.bool false) := (blk_cell BK170.out 0).trans rfl; have hcz20_1 : w19.cell? ⟨gb170, 1, none⟩ = some (.slice none 0 0) := (blk_cell BK170.out 1).trans rfl; have hcz20_2 : w19.cell? ⟨gb170, 2, none⟩ = some (.slice none 0 0) := (blk_cell BK170.out 2).trans rfl; have hfz20_0 := blk_frozen BK170.out 0; have hfz20_1 := blk_frozen BK170.out 1; have hfz20_2 := blk_frozen BK170.out 2) | (go_at_call 5; (with_reducible refine (laws_distinct.calls k2 _ _ ((rd_T27 l2 x40_2).f1) (wrap64 (a0 + a1)) true _ ?side1 ?side2 A16.out).mono ?_); (case side1 => exact Kd.C_below HR169_1.out (by repeat (first | (with_reducible first | exact HB.out | apply below_alloc | apply pw_below_drewN | apply below_drew1 | refine below_set ?_ GE170.out) | exact HB.out))); (case side2 => exact HC169_1.out); rintro e w' ⟨rfl, ⟨nd, rfl⟩⟩; (try first | exact ⟨rfl, _, World.drewN_drewN _ _ _⟩ | exact ⟨rfl, _, Eq.trans (World.drewN_drewN _ _ _) (congrArg (World.drewN _) (Nat.add_assoc _ _ _))⟩))))
                        go_ret
                        exact ⟨by first | rfl | (simp [errW_none, errW_some] <;> rfl) | (simp [*, errW_none, errW_some] <;> rfl), by repeat (first | (with_reducible first | exact HB.out | apply below_alloc | apply pw_below_drewN | apply below_drew1 | refine below_set ?_ GE170.out) | exact HB.out)⟩
                      · rw [if_neg c18] at H
                        have c18b0 : decide (12 < (((rd_T27 l2 x40_2).f2).length : Int)) = false := decide_eq_false c18
                        have c18b1 : decide (12 < ((rd_T27 l2 x40_2).f2).length) = false := decide_eq_false (by omega)
                        clear c18
                        obtain ⟨bq21, hbq21⟩ : ∃ b_ : Bool, b_ = ((rd_T27 l2 x40_2).f0) := ⟨_, rfl⟩
                        replace H : (if bq21 = true then ((spec_Rectangular.f k2 ((rd_T27 l2 x40_2).f2)).bind fun t172 => (if t172 = true then (laws_FnCache.l0 k2 a0 a1 l2 l2 (l2.length : Int) (wrap64 (x40_2 + 1))) else (some true))) else (laws_FnCache.l0 k2 a0 a1 l2 l2 (l2.length : Int) (wrap64 (x40_2 + 1)))) = some r := by rw [← hbq21] at H; exact H
                        have Nbq21 := Aside0.mk hbq21
                        clear hbq21
                        by_cases c22 : bq21 = true
                        · subst c22
                          have H1 : ((spec_Rectangular.f k2 ((rd_T27 l2 x40_2).f2)).bind fun t172 => (if t172 = true then (laws_FnCache.l0 k2 a0 a1 l2 l2 (l2.length : Int) (wrap64 (x40_2 + 1))) else (some true))) = some r := by rw [if_pos rfl] at H; exact H
                          clear H
                          have H := H1
                          clear H1
                          replace H := Option.bind_eq_some_iff.mp H
                          obtain ⟨t172, A230, H⟩ := H
                          replace H : (if t172 = true then (laws_FnCache.l0 k2 a0 a1 l2 l2 (l2.length : Int) (wrap64 (x40_2 + 1))) else (some true)) = some r := H
                          have A23 := Aside0.mk A230
                          clear A230
                          by_cases c24 : t172 = true
                          · subst c24
                            have H1 : (laws_FnCache.l0 k2 a0 a1 l2 l2 (l2.length : Int) (wrap64 (x40_2 + 1))) = some r := by rw [if_pos rfl] at H; exact H
                            clear H
                            have H := H1
                            clear H1
                            have H' := Aside0.mk H
                            clear H
                            have p169 : 0 ≤ (x40_2 : Int) := of_decide_eq_true (by first | (with_reducible assumption) | assumption)
                            have q169 : x40_2 < (l2.length : Int) := of_decide_eq_true (by first | (with_reducible assumption) | assumption)
                            obtain ⟨ad169, A169_1, c169_1, A169_2, c169_2, e169, hx169_0, hx169_1, hx169_2, hl169_1, hi169_1, hl169_2, hi169_2⟩ := at_T27 HR2.out x40_2 p169 q169
                            (try rw [← Nbq21.out] at hx169_0)
                            cases e169
                            replace hx169_0 := (HB.out.cell (World.block_lt_of_cell? w _ hx169_0)).trans hx169_0
                            replace hx169_1 := (HB.out.cell (World.block_lt_of_cell? w _ hx169_1)).trans hx169_1
                            replace hx169_2 := (HB.out.cell (World.block_lt_of_cell? w _ hx169_2)).trans hx169_2
                            have HR169_1 := Aside0.mk hi169_1
                            have HC169_1 := Aside0.mk hl169_1
                            clear hi169_1 hl169_1
                            have HR169_2 := Aside0.mk hi169_2
                            have HC169_2 := Aside0.mk hl169_2
                            clear hi169_2 hl169_2
                            replace p169 := eq_true p169
                            replace q169 := eq_true q169
                            go_wp2_with (first | ((with_reducible refine gate_dst (N := 8) rfl ?_); (try (refine gate_guard (by rfl) ?_; dsimp only)); refine box_event ?hg (N := 8) ?hd (cs := #[.bool false, .slice none 0 0, .slice none 0 0]) (t := 27) ?hr ?_; (case hd => rfl); (case hg => rfl); (case hr => first | (go_simp; done) | (go_simp; rfl)); intro gb170 hg w25 hbox hb; have n0_ := Aside0.mk (below_step (by repeat (first | (with_reducible first | exact HB.out | apply below_alloc | apply pw_below_drewN | apply below_drew1) | exact HB.out)) hb); have n1_ := Aside0.mk (hbox); have n2_ := Aside0.mk ((by rw [hg]; exact (below_size (by repeat (first | (with_reducible first | exact HB.out | apply below_alloc | apply pw_below_drewN | apply below_drew1) | exact HB.out))) : w.heap.size ≤ gb170)); have n3_ := Aside0.mk ((by rw [hg]; exact (below_size (by repeat (first | (with_reducible first | exact HB.out | apply below_alloc | apply pw_below_drewN | apply below_drew1) | exact HB.out))) : w.heap.size ≤ gb170)); clear HB; have HB := n0_; have BK170 := n1_; have GW170 := n2_; have GE170 := n3_; clear n0_ n1_ n2_ n3_; clear hb hbox hg; have hcz26_0 : w25.cell? ⟨gb170, 0, none⟩ = some (.bool false) := (blk_cell BK170.out 0).trans rfl; have hcz26_1 : w25.cell? ⟨gb170, 1, none⟩ = some (.slice none 0 0) := (blk_cell BK170.out 1).trans rfl; have hcz26_2 : w25.cell? ⟨gb170, 2, none⟩ = some (.slice none 0 0) := (blk_cell BK170.out 2).trans rfl; have hfz26_0 := blk_frozen BK170.out 0; have hfz26_1 := blk_frozen BK170.out 1; have hfz26_2 := blk_frozen BK170.out 2) | (go_at_call 5; (with_reducible refine (laws_distinct.calls k2 _ _ ((rd_T27 l2 x40_2).f1) (wrap64 (a0 + a1)) true _ ?side1 ?side2 A16.out).mono ?_); (case side1 => exact Kd.C_below HR169_1.out (by repeat (first | (with_reducible first | exact HB.out | apply below_alloc | apply pw_below_drewN | apply below_drew1 | refine below_set ?_ GE170.out) | exact HB.out))); (case side2 => exact HC169_1.out); rintro e w' ⟨rfl, ⟨nd, rfl⟩⟩; (try first | exact ⟨rfl, _, World.drewN_drewN _ _ _⟩ | exact ⟨rfl, _, Eq.trans (World.drewN_drewN _ _ _) (congrArg (World.drewN _) (Nat.add_assoc _ _ _))⟩)) | (go_at_call 6; (with_reducible refine (spec_Rectangular.calls k2 _ _ ((rd_T27 l2 x40_2).f2) true _ ?side1 ?side2 A23.out).mono ?_); (case side1 => exact Kd.C_below HR169_2.out (by repeat (first | (with_reducible first | exact HB.out | apply below_alloc | apply pw_below_drewN | apply below_drew1 | refine below_set ?_ GE170.out) | exact HB.out))); (case side2 => exact HC169_2.out); rintro e w' ⟨rfl, ⟨nd, rfl⟩⟩; (try first | exact ⟨rfl, _, World.drewN_drewN _ _ _⟩ | exact ⟨rfl, _, Eq.trans (World.drewN_drewN _ _ _) (congrArg (World.drewN _) (Nat.add_assoc _ _ _))⟩)))
                            repeat (go_quiet (first | ((with_reducible refine gate_dst (N := 8) rfl ?_); (try (refine gate_guard (by rfl) ?_; dsimp only)); refine box_event ?hg (N := 8) ?hd (cs := #[.bool false, .slice none 0 0, .slice none 0 0]) (t := 27) ?hr ?_; (case hd => rfl); (case hg => rfl); (case hr => first | (go_simp; done) | (go_simp; rfl)); intro gb170 hg w25 hbox hb; have n0_ := Aside0.mk (below_step (by repeat (first | (with_reducible first | exact HB.out | apply below_alloc | apply pw_below_drewN | apply below_drew1) | exact HB.out)) hb); have n1_ := Aside0.mk (hbox); have n2_ := Aside0.mk ((by rw [hg]; exact (below_size (by repeat (first | (with_reducible first | exact HB.out | apply below_alloc | apply pw_below_drewN | apply below_drew1) | exact HB.out))) : w.heap.size ≤ gb170)); have n3_ := Aside0.mk ((by rw [hg]; exact (below_size (by repeat (first | (with_reducible first | exact HB.out | apply below_alloc | apply pw_below_drewN | apply below_drew1) | exact HB.out))) : w.heap.size ≤ gb170)); clear HB; have HB := n0_; have BK170 := n1_; have GW170 := n2_; have GE170 := n3_; clear n0_ n1_ n2_ n3_; clear hb hbox hg; have hcz26_0 : w25.cell? ⟨gb170, 0, none⟩ = some (.bool false) := (blk_cell BK170.out 0).trans rfl; have hcz26_1 : w25.cell? ⟨gb170, 1, none⟩ = some (.slice none 0 0) := (blk_cell BK170.out 1).trans rfl; have hcz26_2 : w25.cell? ⟨gb170, 2, none⟩ = some (.slice none 0 0) := (blk_cell BK170.out 2).trans rfl; have hfz26_0 := blk_frozen BK170.out 0; have hfz26_1 := blk_frozen BK170.out 1; have hfz26_2 := blk_frozen BK170.out 2) | (go_at_call 5; (with_reducible refine (laws_distinct.calls k2 _ _ ((rd_T27 l2 x40_2).f1) (wrap64 (a0 + a1)) true _ ?side1 ?side2 A16.out).mono ?_); (case side1 => exact Kd.C_below HR169_1.out (by repeat (first | (with_reducible first | exact HB.out | apply below_alloc | apply pw_below_drewN | apply below_drew1 | refine below_set ?_ GE170.out) | exact HB.out))); (case side2 => exact HC169_1.out); rintro e w' ⟨rfl, ⟨nd, rfl⟩⟩; (try first | exact ⟨rfl, _, World.drewN_drewN _ _ _⟩ | exact ⟨rfl, _, Eq.trans (World.drewN_drewN _ _ _) (congrArg (World.drewN _) (Nat.add_assoc _ _ _))⟩)) | (go_at_call 6; (with_reducible refine (spec_Rectangular.calls k2 _ _ ((rd_T27 l2 x40_2).f2) true _ ?side1 ?side2 A23.out).mono ?_); (case side1 => exact Kd.C_below HR169_2.out (by repeat (first | (with_reducible first | exact HB.out | apply below_alloc | apply pw_below_drewN | apply below_drew1 | refine below_set ?_ GE170.out) | exact HB.out))); (case side2 => exact HC169_2.out); rintro e w' ⟨rfl, ⟨nd, rfl⟩⟩; (try first | exact ⟨rfl, _, World.drewN_drewN _ _ _⟩ | exact ⟨rfl, _, Eq.trans (World.drewN_drewN _ _ _) (congrArg (World.drewN _) (Nat.add_assoc _ _ _))⟩))); try go_wp2_with (first | ((with_reducible refine gate_dst (N := 8) rfl ?_); (try (refine gate_guard (by rfl) ?_; dsimp only)); refine box_event ?hg (N := 8) ?hd (cs := #[.bool false, .slice none 0 0, .slice none 0 0]) (t := 27) ?hr ?_; (case hd => rfl); (case hg => rfl); (case hr => first | (go_simp; done) | (go_simp; rfl)); intro gb170 hg w25 hbox hb; have n0_ := Aside0.mk (below_step (by repeat (first | (with_reducible first | exact HB.out | apply below_alloc | apply pw_below_drewN | apply below_drew1) | exact HB.out)) hb); have n1_ := Aside0.mk (hbox); have n2_ := Aside0.mk ((by rw [hg]; exact (below_size (by repeat (first | (with_reducible first | exact HB.out | apply below_alloc | apply pw_below_drewN | apply below_drew1) | exact HB.out))) : w.heap.size ≤ gb170)); have n3_ := Aside0.mk ((by rw [hg]; exact (below_size (by repeat (first | (with_reducible first | exact HB.out | apply below_alloc | apply pw_below_drewN | apply below_drew1) | exact HB.out))) : w.heap.size ≤ gb170)); clear HB; have HB := n0_; have BK170 := n1_; have GW170 := n2_; have GE170 := n3_; clear n0_ n1_ n2_ n3_; clear hb hbox hg; have hcz26_0 : w25.cell? ⟨gb170, 0, none⟩ = some (.bool false) := (blk_cell BK170.out 0).trans rfl; have hcz26_1 : w25.cell? ⟨gb170, 1, none⟩ = some (.slice none 0 0) := (blk_cell BK170.out 1).trans rfl; have hcz26_2 : w25.cell? ⟨gb170, 2, none⟩ = some (.slice none 0 0) := (blk_cell BK170.out 2).trans rfl; have hfz26_0 := blk_frozen BK170.out 0; have hfz26_1 := blk_frozen BK170.out 1; have hfz26_2 := blk_frozen BK170.out 2) | (go_at_call 5; (with_reducible refine (laws_distinct.calls k2 _ _ ((rd_T27 l2 x40_2).f1) (wrap64 (a0 + a1)) true _ ?side1 ?side2 A16.out).mono ?_); (case side1 => exact Kd.C_below HR169_1.out (by repeat (first | (with_reducible first | exact HB.out | apply below_alloc | apply pw_below_drewN | apply below_drew1 | refine below_set ?_ GE170.out) | exact HB.out))); (case side2 => exact HC169_1.out); rintro e w' ⟨rfl, ⟨nd, rfl⟩⟩; (try first | exact ⟨rfl, _, World.drewN_drewN _ _ _⟩ | exact ⟨rfl, _, Eq.trans (World.drewN_drewN _ _ _) (congrArg (World.drewN _) (Nat.add_assoc _ _ _))⟩)) | (go_at_call 6; (with_reducible refine (spec_Rectangular.calls k2 _ _ ((rd_T27 l2 x40_2).f2) true _ ?side1 ?side2 A23.out).mono ?_); (case side1 => exact Kd.C_below HR169_2.out (by repeat (first | (with_reducible first | exact HB.out | apply below_alloc | apply pw_below_drewN | apply below_drew1 | refine below_set ?_ GE170.out) | exact HB.out))); (case side2 => exact HC169_2.out); rintro e w' ⟨rfl, ⟨nd, rfl⟩⟩; (try first | exact ⟨rfl, _, World.drewN_drewN _ _ _⟩ | exact ⟨rfl, _, Eq.trans (World.drewN_drewN _ _ _) (congrArg (World.drewN _) (Nat.add_assoc _ _ _))⟩))))
                            go_roundg k2
                            case measure => have := HJ5.out; have := HK2.out; omega
                            case rel => exact ⟨(wrap64 (x40_2 + 1)), (by first | rfl | (simp; done) | (simp [*]; done)), H', ⟨by have := HJ5.out; have := HK2.out; omega⟩, ⟨by repeat (first | (with_reducible first | exact HB.out | apply below_alloc | apply pw_below_drewN | apply below_drew1 | refine below_set ?_ GE170.out) | exact HB.out)⟩⟩
                          · replace c24 := Bool.eq_false_iff.mpr c24
                            subst c24
                            have H1 : (some true) = some r := by rw [if_neg (show ¬ (false = true) by decide)] at H; exact H
                            clear H
                            have H := H1
                            clear H1
                            obtain rfl := Option.some.inj H
                            have p169 : 0 ≤ (x40_2 : Int) := of_decide_eq_true (by first | (with_reducible assumption) | assumption)
                            have q169 : x40_2 < (l2.length : Int) := of_decide_eq_true (by first | (with_reducible assumption) | assumption)
                            obtain ⟨ad169, A169_1, c169_1, A169_2, c169_2, e169, hx169_0, hx169_1, hx169_2, hl169_1, hi169_1, hl169_2, hi169_2⟩ := at_T27 HR2.out x40_2 p169 q169
                            (try rw [← Nbq21.out] at hx169_0)
                            cases e169
                            replace hx169_0 := (HB.out.cell (World.block_lt_of_cell? w _ hx169_0)).trans hx169_0
                            replace hx169_1 := (HB.out.cell (World.block_lt_of_cell? w _ hx169_1)).trans hx169_1
                            replace hx169_2 := (HB.out.cell (World.block_lt_of_cell? w _ hx169_2)).trans hx169_2
                            have HR169_1 := Aside0.mk hi169_1
                            have HC169_1 := Aside0.mk hl169_1
                            clear hi169_1 hl169_1
                            have HR169_2 := Aside0.mk hi169_2
                            have HC169_2 := Aside0.mk hl169_2
                            clear hi169_2 hl169_2
                            replace p169 := eq_true p169
                            replace q169 := eq_true q169
                            go_wp2_with (first | ((with_reducible refine gate_dst (N := 8) rfl ?_); (try (refine gate_guard (by rfl) ?_; dsimp only)); refine box_event ?hg (N := 8) ?hd (cs := #[.bool false, .slice none 0 0, .slice none 0 0]) (t := 27) ?hr ?_; (case hd => rfl); (case hg => rfl); (case hr => first | (go_simp; done) | (go_simp; rfl)); intro gb170 hg w27 hbox hb; have n0_ := Aside0.mk (below_step (by repeat (first | (with_reducible first | exact HB.out | apply below_alloc | apply pw_below_drewN | apply below_drew1) | exact HB.out)) hb); have n1_ := Aside0.mk (hbox); have n2_ := Aside0.mk ((by rw [hg]; exact (below_size (by repeat (first | (with_reducible first | exact HB.out | apply below_alloc | apply pw_below_drewN | apply below_drew1) | exact HB.out))) : w.heap.size ≤ gb170)); have n3_ := Aside0.mk ((by rw [hg]; exact (below_size (by repeat (first | (with_reducible first | exact HB.out | apply below_alloc | apply pw_below_drewN | apply below_drew1) | exact HB.out))) : w.heap.size ≤ gb170)); clear HB; have HB := n0_; have BK170 := n1_; have GW170 := n2_; have GE170 := n3_; clear n0_ n1_ n2_ n3_; clear hb hbox hg; have hcz28_0 : w27.cell? ⟨gb170, 0, none⟩ = some (.bool false) := (blk_cell BK170.out 0).trans rfl; have hcz28_1 : w27.cell? ⟨gb170, 1, none⟩ = some (.slice none 0 0) := (blk_cell BK170.out 1).trans rfl; have hcz28_2 : w27.cell? ⟨gb170, 2, none⟩ = some (.slice none 0 0) := (blk_cell BK170.out 2).trans rfl; have hfz28_0 := blk_frozen BK170.out 0; have hfz28_1 := blk_frozen BK170.out 1; have hfz28_2 := blk_frozen BK170.out 2) | (go_at_call 5; (with_reducible refine (laws_distinct.calls k2 _ _ ((rd_T27 l2 x40_2).f1) (wrap64 (a0 + a1)) true _ ?side1 ?side2 A16.out).mono ?_); (case side1 => exact Kd.C_below HR169_1.out (by repeat (first | (with_reducible first | exact HB.out | apply below_alloc | apply pw_below_drewN | apply below_drew1 | refine below_set ?_ GE170.out) | exact HB.out))); (case side2 => exact HC169_1.out); rintro e w' ⟨rfl, ⟨nd, rfl⟩⟩; (try first | exact ⟨rfl, _, World.drewN_drewN _ _ _⟩ | exact ⟨rfl, _, Eq.trans (World.drewN_drewN _ _ _) (congrArg (World.drewN _) (Nat.add_assoc _ _ _))⟩)) | (go_at_call 6; (with_reducible refine (spec_Rectangular.calls k2 _ _ ((rd_T27 l2 x40_2).f2) false _ ?side1 ?side2 A23.out).mono ?_); (case side1 => exact Kd.C_below HR169_2.out (by repeat (first | (with_reducible first | exact HB.out | apply below_alloc | apply pw_below_drewN | apply below_drew1 | refine below_set ?_ GE170.out) | exact HB.out))); (case side2 => exact HC169_2.out); rintro e w' ⟨rfl, ⟨nd, rfl⟩⟩; (try first | exact ⟨rfl, _, World.drewN_drewN _ _ _⟩ | exact ⟨rfl, _, Eq.trans (World.drewN_drewN _ _ _) (congrArg (World.drewN _) (Nat.add_assoc _ _ _))⟩)))
                            repeat (go_quiet (first | ((with_reducible refine gate_dst (N := 8) rfl ?_); (try (refine gate_guard (by rfl) ?_; dsimp only)); refine box_event ?hg (N := 8) ?hd (cs := #[.bool false, .slice none 0 0, .slice none 0 0]) (t := 27) ?hr ?_; (case hd => rfl); (case hg => rfl); (case hr => first | (go_simp; done) | (go_simp; rfl)); intro gb170 hg w27 hbox hb; have n0_ := Aside0.mk (below_step (by repeat (first | (with_reducible first | exact HB.out | apply below_alloc | apply pw_below_drewN | apply below_drew1) | exact HB.out)) hb); have n1_ := Aside0.mk (hbox); have n2_ := Aside0.mk ((by rw [hg]; exact (below_size (by repeat (first | (with_reducible first | exact HB.out | apply below_alloc | apply pw_below_drewN | apply below_drew1) | exact HB.out))) : w.heap.size ≤ gb170)); have n3_ := Aside0.mk ((by rw [hg]; exact (below_size (by repeat (first | (with_reducible first | exact HB.out | apply below_alloc | apply pw_below_drewN | apply below_drew1) | exact HB.out))) : w.heap.size ≤ gb170)); clear HB; have HB := n0_; have BK170 := n1_; have GW170 := n2_; have GE170 := n3_; clear n0_ n1_ n2_ n3_; clear hb hbox hg; have hcz28_0 : w27.cell? ⟨gb170, 0, none⟩ = some (.bool false) := (blk_cell BK170.out 0).trans rfl; have hcz28_1 : w27.cell? ⟨gb170, 1, none⟩ = some (.slice none 0 0) := (blk_cell BK170.out 1).trans rfl; have hcz28_2 : w27.cell? ⟨gb170, 2, none⟩ = some (.slice none 0 0) := (blk_cell BK170.out 2).trans rfl; have hfz28_0 := blk_frozen BK170.out 0; have hfz28_1 := blk_frozen BK170.out 1; have hfz28_2 := blk_frozen BK170.out 2) | (go_at_call 5; (with_reducible refine (laws_distinct.calls k2 _ _ ((rd_T27 l2 x40_2).f1) (wrap64 (a0 + a1)) true _ ?side1 ?side2 A16.out).mono ?_); (case side1 => exact Kd.C_below HR169_1.out (by repeat (first | (with_reducible first | exact HB.out | apply below_alloc | apply pw_below_drewN | apply below_drew1 | refine below_set ?_ GE170.out) | exact HB.out))); (case side2 => exact HC169_1.out); rintro e w' ⟨rfl, ⟨nd, rfl⟩⟩; (try first | exact ⟨rfl, _, World.drewN_drewN _ _ _⟩ | exact ⟨rfl, _, Eq.trans (World.drewN_drewN _ _ _) (congrArg (World.drewN _) (Nat.add_assoc _ _ _))⟩)) | (go_at_call 6; (with_reducible refine (spec_Rectangular.calls k2 _ _ ((rd_T27 l2 x40_2).f2) false _ ?side1 ?side2 A23.out).mono ?_); (case side1 => exact Kd.C_below HR169_2.out (by repeat (first | (with_reducible first | exact HB.out | apply below_alloc | apply pw_below_drewN | apply below_drew1 | refine below_set ?_ GE170.out) | exact HB.out))); (case side2 => exact HC169_2.out); rintro e w' ⟨rfl, ⟨nd, rfl⟩⟩; (try first | exact ⟨rfl, _, World.drewN_drewN _ _ _⟩ | exact ⟨rfl, _, Eq.trans (World.drewN_drewN _ _ _) (congrArg (World.drewN _) (Nat.add_assoc _ _ _))⟩))); try go_wp2_with (first | ((with_reducible refine gate_dst (N := 8) rfl ?_); (try (refine gate_guard (by rfl) ?_; dsimp only)); refine box_event ?hg (N := 8) ?hd (cs := #[.bool false, .slice none 0 0, .slice none 0 0]) (t := 27) ?hr ?_; (case hd => rfl); (case hg => rfl); (case hr => first | (go_simp; done) | (go_simp; rfl)); intro gb170 hg w27 hbox hb; have n0_ := Aside0.mk (below_step (by repeat (first | (with_reducible first | exact HB.out | apply below_alloc | apply pw_below_drewN | apply below_drew1) | exact HB.out)) hb); have n1_ := Aside0.mk (hbox); have n2_ := Aside0.mk ((by rw [hg]; exact (below_size (by repeat (first | (with_reducible first | exact HB.out | apply below_alloc | apply pw_below_drewN | apply below_drew1) | exact HB.out))) : w.heap.size ≤ gb170)); have n3_ := Aside0.mk ((by rw [hg]; exact (below_size (by repeat (first | (with_reducible first | exact HB.out | apply below_alloc | apply pw_below_drewN | apply below_drew1) | exact HB.out))) : w.heap.size ≤ gb170)); clear HB; have HB := n0_; have BK170 := n1_; have GW170 := n2_; have GE170 := n3_; clear n0_ n1_ n2_ n3_; clear hb hbox hg; have hcz28_0 : w27.cell? ⟨gb170, 0, none⟩ = some (.bool false) := (blk_cell BK170.out 0).trans rfl; have hcz28_1 : w27.cell? ⟨gb170, 1, none⟩ = some (.slice none 0 0) := (blk_cell BK170.out 1).trans rfl; have hcz28_2 : w27.cell? ⟨gb170, 2, none⟩ = some (.slice none 0 0) := (blk_cell BK170.out 2).trans rfl; have hfz28_0 := blk_frozen BK170.out 0; have hfz28_1 := blk_frozen BK170.out 1; have hfz28_2 := blk_frozen BK170.out 2) | (go_at_call 5; (with_reducible refine (laws_distinct.calls k2 _ _ ((rd_T27 l2 x40_2).f1) (wrap64 (a0 + a1)) true _ ?side1 ?side2 A16.out).mono ?_); (case side1 => exact Kd.C_below HR169_1.out (by repeat (first | (with_reducible first | exact HB.out | apply below_alloc | apply pw_below_drewN | apply below_drew1 | refine below_set ?_ GE170.out) | exact HB.out))); (case side2 => exact HC169_1.out); rintro e w' ⟨rfl, ⟨nd, rfl⟩⟩; (try first | exact ⟨rfl, _, World.drewN_drewN _ _ _⟩ | exact ⟨rfl, _, Eq.trans (World.drewN_drewN _ _ _) (congrArg (World.drewN _) (Nat.add_assoc _ _ _))⟩)) | (go_at_call 6; (with_reducible refine (spec_Rectangular.calls k2 _ _ ((rd_T27 l2 x40_2).f2) false _ ?side1 ?side2 A23.out).mono ?_); (case side1 => exact Kd.C_below HR169_2.out (by repeat (first | (with_reducible first | exact HB.out | apply below_alloc | apply pw_below_drewN | apply below_drew1 | refine below_set ?_ GE170.out) | exact HB.out))); (case side2 => exact HC169_2.out); rintro e w' ⟨rfl, ⟨nd, rfl⟩⟩; (try first | exact ⟨rfl, _, World.drewN_drewN _ _ _⟩ | exact ⟨rfl, _, Eq.trans (World.drewN_drewN _ _ _) (congrArg (World.drewN _) (Nat.add_assoc _ _ _))⟩))))
                            go_ret
                            exact ⟨by first | rfl | (simp [errW_none, errW_some] <;> rfl) | (simp [*, errW_none, errW_some] <;> rfl), by repeat (first | (with_reducible first | exact HB.out | apply below_alloc | apply pw_below_drewN | apply below_drew1 | refine below_set ?_ GE170.out) | exact HB.out)⟩
                        · replace c22 := Bool.eq_false_iff.mpr c22
                          subst c22
                          have H1 : (laws_FnCache.l0 k2 a0 a1 l2 l2 (l2.length : Int) (wrap64 (x40_2 + 1))) = some r := by rw [if_neg (show ¬ (false = true) by decide)] at H; exact H
                          clear H
                          have H := H1
                          clear H1
                          have H' := Aside0.mk H
                          clear H
                          have p169 : 0 ≤ (x40_2 : Int) := of_decide_eq_true (by first | (with_reducible assumption) | assumption)
                          have q169 : x40_2 < (l2.length : Int) := of_decide_eq_true (by first | (with_reducible assumption) | assumption)
                          obtain ⟨ad169, A169_1, c169_1, A169_2, c169_2, e169, hx169_0, hx169_1, hx169_2, hl169_1, hi169_1, hl169_2, hi169_2⟩ := at_T27 HR2.out x40_2 p169 q169
                          (try rw [← Nbq21.out] at hx169_0)
                          cases e169
                          replace hx169_0 := (HB.out.cell (World.block_lt_of_cell? w _ hx169_0)).trans hx169_0
                          replace hx169_1 := (HB.out.cell (World.block_lt_of_cell? w _ hx169_1)).trans hx169_1
                          replace hx169_2 := (HB.out.cell (World.block_lt_of_cell? w _ hx169_2)).trans hx169_2
                          have HR169_1 := Aside0.mk hi169_1
                          have HC169_1 := Aside0.mk hl169_1
                          clear hi169_1 hl169_1
                          have HR169_2 := Aside0.mk hi169_2
                          have HC169_2 := Aside0.mk hl169_2
                          clear hi169_2 hl169_2
                          replace p169 := eq_true p169
                          replace q169 := eq_true q169
                          go_wp2_with (first | ((with_reducible refine gate_dst (N := 8) rfl ?_); (try (refine gate_guard (by rfl) ?_; dsimp only)); refine box_event ?hg (N := 8) ?hd (cs := #[.bool false, .slice none 0 0, .slice none 0 0]) (t := 27) ?hr ?_; (case hd => rfl); (case hg => rfl); (case hr => first | (go_simp; done) | (go_simp; rfl)); intro gb170 hg w29 hbox hb; have n0_ := Aside0.mk (below_step (by repeat (first | (with_reducible first | exact HB.out | apply below_alloc | apply pw_below_drewN | apply below_drew1) | exact HB.out)) hb); have n1_ := Aside0.mk (hbox); have n2_ := Aside0.mk ((by rw [hg]; exact (below_size (by repeat (first | (with_reducible first | exact HB.out | apply below_alloc | apply pw_below_drewN | apply below_drew1) | exact HB.out))) : w.heap.size ≤ gb170)); have n3_ := Aside0.mk ((by rw [hg]; exact (below_size (by repeat (first | (with_reducible first | exact HB.out | apply below_alloc | apply pw_below_drewN | apply below_drew1) | exact HB.out))) : w.heap.size ≤ gb170)); clear HB; have HB := n0_; have BK170 := n1_; have GW170 := n2_; have GE170 := n3_; clear n0_ n1_ n2_ n3_; clear hb hbox hg; have hcz30_0 : w29.cell? ⟨gb170, 0, none⟩ = some (.bool false) := (blk_cell BK170.out 0).trans rfl; have hcz30_1 : w29.cell? ⟨gb170, 1, none⟩ = some (.slice none 0 0) := (blk_cell BK170.out 1).trans rfl; have hcz30_2 : w29.cell? ⟨gb170, 2, none⟩ = some (.slice none 0 0) := (blk_cell BK170.out 2).trans rfl; have hfz30_0 := blk_frozen BK170.out 0; have hfz30_1 := blk_frozen BK170.out 1; have hfz30_2 := blk_frozen BK170.out 2) | (go_at_call 5; (with_reducible refine (laws_distinct.calls k2 _ _ ((rd_T27 l2 x40_2).f1) (wrap64 (a0 + a1)) true _ ?side1 ?side2 A16.out).mono ?_); (case side1 => exact Kd.C_below HR169_1.out (by repeat (first | (with_reducible first | exact HB.out | apply below_alloc | apply pw_below_drewN | apply below_drew1 | refine below_set ?_ GE170.out) | exact HB.out))); (case side2 => exact HC169_1.out); rintro e w' ⟨rfl, ⟨nd, rfl⟩⟩; (try first | exact ⟨rfl, _, World.drewN_drewN _ _ _⟩ | exact ⟨rfl, _, Eq.trans (World.drewN_drewN _ _ _) (congrArg (World.drewN _) (Nat.add_assoc _ _ _))⟩)))
                          repeat (go_quiet (first | ((with_reducible refine gate_dst (N := 8) rfl ?_); (try (refine gate_guard (by rfl) ?_; dsimp only)); refine box_event ?hg (N := 8) ?hd (cs := #[.bool false, .slice none 0 0, .slice none 0 0]) (t := 27) ?hr ?_; (case hd => rfl); (case hg => rfl); (case hr => first | (go_simp; done) | (go_simp; rfl)); intro gb170 hg w29 hbox hb; have n0_ := Aside0.mk (below_step (by repeat (first | (with_reducible first | exact HB.out | apply below_alloc | apply pw_below_drewN | apply below_drew1) | exact HB.out)) hb); have n1_ := Aside0.mk (hbox); have n2_ := Aside0.mk ((by rw [hg]; exact (below_size (by repeat (first | (with_reducible first | exact HB.out | apply below_alloc | apply pw_below_drewN | apply below_drew1) | exact HB.out))) : w.heap.size ≤ gb170)); have n3_ := Aside0.mk ((by rw [hg]; exact (below_size (by repeat (first | (with_reducible first | exact HB.out | apply below_alloc | apply pw_below_drewN | apply below_drew1) | exact HB.out))) : w.heap.size ≤ gb170)); clear HB; have HB := n0_; have BK170 := n1_; have GW170 := n2_; have GE170 := n3_; clear n0_ n1_ n2_ n3_; clear hb hbox hg; have hcz30_0 : w29.cell? ⟨gb170, 0, none⟩ = some (.bool false) := (blk_cell BK170.out 0).trans rfl; have hcz30_1 : w29.cell? ⟨gb170, 1, none⟩ = some (.slice none 0 0) := (blk_cell BK170.out 1).trans rfl; have hcz30_2 : w29.cell? ⟨gb170, 2, none⟩ = some (.slice none 0 0) := (blk_cell BK170.out 2).trans rfl; have hfz30_0 := blk_frozen BK170.out 0; have hfz30_1 := blk_frozen BK170.out 1; have hfz30_2 := blk_frozen BK170.out 2) | (go_at_call 5; (with_reducible refine (laws_distinct.calls k2 _ _ ((rd_T27 l2 x40_2).f1) (wrap64 (a0 + a1)) true _ ?side1 ?side2 A16.out).mono ?_); (case side1 => exact Kd.C_below HR169_1.out (by repeat (first | (with_reducible first | exact HB.out | apply below_alloc | apply pw_below_drewN | apply below_drew1 | refine below_set ?_ GE170.out) | exact HB.out))); (case side2 => exact HC169_1.out); rintro e w' ⟨rfl, ⟨nd, rfl⟩⟩; (try first | exact ⟨rfl, _, World.drewN_drewN _ _ _⟩ | exact ⟨rfl, _, Eq.trans (World.drewN_drewN _ _ _) (congrArg (World.drewN _) (Nat.add_assoc _ _ _))⟩))); try go_wp2_with (first | ((with_reducible refine gate_dst (N := 8) rfl ?_); (try (refine gate_guard (by rfl) ?_; dsimp only)); refine box_event ?hg (N := 8) ?hd (cs := #[.bool false, .slice none 0 0, .slice none 0 0]) (t := 27) ?hr ?_; (case hd => rfl); (case hg => rfl); (case hr => first | (go_simp; done) | (go_simp; rfl)); intro gb170 hg w29 hbox hb; have n0_ := Aside0.mk (below_step (by repeat (first | (with_reducible first | exact HB.out | apply below_alloc | apply pw_below_drewN | apply below_drew1) | exact HB.out)) hb); have n1_ := Aside0.mk (hbox); have n2_ := Aside0.mk ((by rw [hg]; exact (below_size (by repeat (first | (with_reducible first | exact HB.out | apply below_alloc | apply pw_below_drewN | apply below_drew1) | exact HB.out))) : w.heap.size ≤ gb170)); have n3_ := Aside0.mk ((by rw [hg]; exact (below_size (by repeat (first | (with_reducible first | exact HB.out | apply below_alloc | apply pw_below_drewN | apply below_drew1) | exact HB.out))) : w.heap.size ≤ gb170)); clear HB; have HB := n0_; have BK170 := n1_; have GW170 := n2_; have GE170 := n3_; clear n0_ n1_ n2_ n3_; clear hb hbox hg; have hcz30_0 : w29.cell? ⟨gb170, 0, none⟩ = some (.bool false) := (blk_cell BK170.out 0).trans rfl; have hcz30_1 : w29.cell? ⟨gb170, 1, none⟩ = some (.slice none 0 0) := (blk_cell BK170.out 1).trans rfl; have hcz30_2 : w29.cell? ⟨gb170, 2, none⟩ = some (.slice none 0 0) := (blk_cell BK170.out 2).trans rfl; have hfz30_0 := blk_frozen BK170.out 0; have hfz30_1 := blk_frozen BK170.out 1; have hfz30_2 := blk_frozen BK170.out 2) | (go_at_call 5; (with_reducible refine (laws_distinct.calls k2 _ _ ((rd_T27 l2 x40_2).f1) (wrap64 (a0 + a1)) true _ ?side1 ?side2 A16.out).mono ?_); (case side1 => exact Kd.C_below HR169_1.out (by repeat (first | (with_reducible first | exact HB.out | apply below_alloc | apply pw_below_drewN | apply below_drew1 | refine below_set ?_ GE170.out) | exact HB.out))); (case side2 => exact HC169_1.out); rintro e w' ⟨rfl, ⟨nd, rfl⟩⟩; (try first | exact ⟨rfl, _, World.drewN_drewN _ _ _⟩ | exact ⟨rfl, _, Eq.trans (World.drewN_drewN _ _ _) (congrArg (World.drewN _) (Nat.add_assoc _ _ _))⟩))))
                          go_roundg k2
                          case measure => have := HJ5.out; have := HK2.out; omega
                          case rel => exact ⟨(wrap64 (x40_2 + 1)), (by first | rfl | (simp; done) | (simp [*]; done)), H', ⟨by have := HJ5.out; have := HK2.out; omega⟩, ⟨by repeat (first | (with_reducible first | exact HB.out | apply below_alloc | apply pw_below_drewN | apply below_drew1 | refine below_set ?_ GE170.out) | exact HB.out)⟩⟩
                    · replace c17 := Bool.eq_false_iff.mpr c17
                      subst c17
                      have H1 : (some true) = some r := by rw [if_neg (show ¬ (false = true) by decide)] at H; exact H
                      clear H
                      have H := H1
                      clear H1
                      obtain rfl := Option.some.inj H
                      have p169 : 0 ≤ (x40_2 : Int) := of_decide_eq_true (by first | (with_reducible assumption) | assumption)
                      have q169 : x40_2 < (l2.length : Int) := of_decide_eq_true (by first | (with_reducible assumption) | assumption)
                      obtain ⟨ad169, A169_1, c169_1, A169_2, c169_2, e169, hx169_0, hx169_1, hx169_2, hl169_1, hi169_1, hl169_2, hi169_2⟩ := at_T27 HR2.out x40_2 p169 q169
                      cases e169
                      replace hx169_0 := (HB.out.cell (World.block_lt_of_cell? w _ hx169_0)).trans hx169_0
                      replace hx169_1 := (HB.out.cell (World.block_lt_of_cell? w _ hx169_1)).trans hx169_1
                      replace hx169_2 := (HB.out.cell (World.block_lt_of_cell? w _ hx169_2)).trans hx169_2
                      have HR169_1 := Aside0.mk hi169_1
                      have HC169_1 := Aside0.mk hl169_1
                      clear hi169_1 hl169_1
                      have HR169_2 := Aside0.mk hi169_2
                      have HC169_2 := Aside0.mk hl169_2
                      clear hi169_2 hl169_2
                      replace p169 := eq_true p169
                      replace q169 := eq_true q169
                      go_wp2_with (first | ((with_reducible refine gate_dst (N := 8) rfl ?_); (try (refine gate_guard (by rfl) ?_; dsimp only)); refine box_event ?hg (N := 8) ?hd (cs := #[.bool false, .slice none 0 0, .slice none 0 0]) (t := 27) ?hr ?_; (case hd => rfl); (case hg => rfl); (case hr => first | (go_simp; done) | (go_simp; rfl)); intro gb170 hg w31 hbox hb; have n0_ := Aside0.mk (below_step (by repeat (first | (with_reducible first | exact HB.out | apply below_alloc | apply pw_below_drewN | apply below_drew1) | exact HB.out)) hb); have n1_ := Aside0.mk (hbox); have n2_ := Aside0.mk ((by rw [hg]; exact (below_size (by repeat (first | (with_reducible first | exact HB.out | apply below_alloc | apply pw_below_drewN | apply below_drew1) | exact HB.out))) : w.heap.size ≤ gb170)); have n3_ := Aside0.mk ((by rw [hg]; exact (below_size (by repeat (first | (with_reducible first | exact HB.out | apply below_alloc | apply pw_below_drewN | apply below_drew1) | exact HB.out))) : w.heap.size ≤ gb170)); clear HB; have HB := n0_; have BK170 := n1_; have GW170 := n2_; have GE170 := n3_; clear n0_ n1_ n2_ n3_; clear hb hbox hg; have hcz32_0 : w31.cell? ⟨gb170, 0, none⟩ = some (.bool false) := (blk_cell BK170.out 0).trans rfl; have hcz32_1 : w31.cell? ⟨gb170, 1, none⟩ = some (.slice none 0 0) := (blk_cell BK170.out 1).trans rfl; have hcz32_2 : w31.cell? ⟨gb170, 2, none⟩ = some (.slice none 0 0) := (blk_cell BK170.out 2).trans rfl; have hfz32_0 := blk_frozen BK170.out 0; have hfz32_1 := blk_frozen BK170.out 1; have hfz32_2 := blk_frozen BK170.out 2) | (go_at_call 5; (with_reducible refine (laws_distinct.calls k2 _ _ ((rd_T27 l2 x40_2).f1) (wrap64 (a0 + a1)) false _ ?side1 ?side2 A16.out).mono ?_); (case side1 => exact Kd.C_below HR169_1.out (by repeat (first | (with_reducible first | exact HB.out | apply below_alloc | apply pw_below_drewN | apply below_drew1 | refine below_set ?_ GE170.out) | exact HB.out))); (case side2 => exact HC169_1.out); rintro e w' ⟨rfl, ⟨nd, rfl⟩⟩; (try first | exact ⟨rfl, _, World.drewN_drewN _ _ _⟩ | exact ⟨rfl, _, Eq.trans (World.drewN_drewN _ _ _) (congrArg (World.drewN _) (Nat.add_assoc _ _ _))⟩)))
                      repeat (go_quiet (first | ((with_reducible refine gate_dst (N := 8) rfl ?_); (try (refine gate_guard (by rfl) ?_; dsimp only)); refine box_event ?hg (N := 8) ?hd (cs := #[.bool false, .slice none 0 0, .slice none 0 0]) (t := 27) ?hr ?_; (case hd => rfl); (case hg => rfl); (case hr => first | (go_simp; done) | (go_simp; rfl)); intro gb170 hg w31 hbox hb; have n0_ := Aside0.mk (below_step (by repeat (first | (with_reducible first | exact HB.out | apply below_alloc | apply pw_below_drewN | apply below_drew1) | exact HB.out)) hb); have n1_ := Aside0.mk (hbox); have n2_ := Aside0.mk ((by rw [hg]; exact (below_size (by repeat (first | (with_reducible first | exact HB.out | apply below_alloc | apply pw_below_drewN | apply below_drew1) | exact HB.out))) : w.heap.size ≤ gb170)); have n3_ := Aside0.mk ((by rw [hg]; exact (below_size (by repeat (first | (with_reducible first | exact HB.out | apply below_alloc | apply pw_below_drewN | apply below_drew1) | exact HB.out))) : w.heap.size ≤ gb170)); clear HB; have HB := n0_; have BK170 := n1_; have GW170 := n2_; have GE170 := n3_; clear n0_ n1_ n2_ n3_; clear hb hbox hg; have hcz32_0 : w31.cell? ⟨gb170, 0, none⟩ = some (.bool false) := (blk_cell BK170.out 0).trans rfl; have hcz32_1 : w31.cell? ⟨gb170, 1, none⟩ = some (.slice none 0 0) := (blk_cell BK170.out 1).trans rfl; have hcz32_2 : w31.cell? ⟨gb170, 2, none⟩ = some (.slice none 0 0) := (blk_cell BK170.out 2).trans rfl; have hfz32_0 := blk_frozen BK170.out 0; have hfz32_1 := blk_frozen BK170.out 1; have hfz32_2 := blk_frozen BK170.out 2) | (go_at_call 5; (with_reducible refine (laws_distinct.calls k2 _ _ ((rd_T27 l2 x40_2).f1) (wrap64 (a0 + a1)) false _ ?side1 ?side2 A16.out).mono ?_); (case side1 => exact Kd.C_below HR169_1.out (by repeat (first | (with_reducible first | exact HB.out | apply below_alloc | apply pw_below_drewN | apply below_drew1 | refine below_set ?_ GE170.out) | exact HB.out))); (case side2 => exact HC169_1.out); rintro e w' ⟨rfl, ⟨nd, rfl⟩⟩; (try first | exact ⟨rfl, _, World.drewN_drewN _ _ _⟩ | exact ⟨rfl, _, Eq.trans (World.drewN_drewN _ _ _) (congrArg (World.drewN _) (Nat.add_assoc _ _ _))⟩))); try go_wp2_with (first | ((with_reducible refine gate_dst (N := 8) rfl ?_); (try (refine gate_guard (by rfl) ?_; dsimp only)); refine box_event ?hg (N := 8) ?hd (cs := #[.bool false, .slice none 0 0, .slice none 0 0]) (t := 27) ?hr ?_; (case hd => rfl); (case hg => rfl); (case hr => first | (go_simp; done) | (go_simp; rfl)); intro gb170 hg w31 hbox hb; have n0_ := Aside0.mk (below_step (by repeat (first | (with_reducible first | exact HB.out | apply below_alloc | apply pw_below_drewN | apply below_drew1) | exact HB.out)) hb); have n1_ := Aside0.mk (hbox); have n2_ := Aside0.mk ((by rw [hg]; exact (below_size (by repeat (first | (with_reducible first | exact HB.out | apply below_alloc | apply pw_below_drewN | apply below_drew1) | exact HB.out))) : w.heap.size ≤ gb170)); have n3_ := Aside0.mk ((by rw [hg]; exact (below_size (by repeat (first | (with_reducible first | exact HB.out | apply below_alloc | apply pw_below_drewN | apply below_drew1) | exact HB.out))) : w.heap.size ≤ gb170)); clear HB; have HB := n0_; have BK170 := n1_; have GW170 := n2_; have GE170 := n3_; clear n0_ n1_ n2_ n3_; clear hb hbox hg; have hcz32_0 : w31.cell? ⟨gb170, 0, none⟩ = some (.bool false) := (blk_cell BK170.out 0).trans rfl; have hcz32_1 : w31.cell? ⟨gb170, 1, none⟩ = some (.slice none 0 0) := (blk_cell BK170.out 1).trans rfl; have hcz32_2 : w31.cell? ⟨gb170, 2, none⟩ = some (.slice none 0 0) := (blk_cell BK170.out 2).trans rfl; have hfz32_0 := blk_frozen BK170.out 0; have hfz32_1 := blk_frozen BK170.out 1; have hfz32_2 := blk_frozen BK170.out 2) | (go_at_call 5; (with_reducible refine (laws_distinct.calls k2 _ _ ((rd_T27 l2 x40_2).f1) (wrap64 (a0 + a1)) false _ ?side1 ?side2 A16.out).mono ?_); (case side1 => exact Kd.C_below HR169_1.out (by repeat (first | (with_reducible first | exact HB.out | apply below_alloc | apply pw_below_drewN | apply below_drew1 | refine below_set ?_ GE170.out) | exact HB.out))); (case side2 => exact HC169_1.out); rintro e w' ⟨rfl, ⟨nd, rfl⟩⟩; (try first | exact ⟨rfl, _, World.drewN_drewN _ _ _⟩ | exact ⟨rfl, _, Eq.trans (World.drewN_drewN _ _ _) (congrArg (World.drewN _) (Nat.add_assoc _ _ _))⟩))))
                      go_ret
                      exact ⟨by first | rfl | (simp [errW_none, errW_some] <;> rfl) | (simp [*, errW_none, errW_some] <;> rfl), by repeat (first | (with_reducible first | exact HB.out | apply below_alloc | apply pw_below_drewN | apply below_drew1 | refine below_set ?_ GE170.out) | exact HB.out)⟩
                  · rw [if_neg c15] at H
                    exact absurd H (by simp)
                · rw [if_neg c14] at H
                  exact absurd H (by simp)
              · rw [if_neg c13] at H
                have c13b0 : decide (x40_2 < (l2.length : Int)) = false := decide_eq_false c13
                clear c13
                replace H := Option.bind_eq_some_iff.mp H
                obtain ⟨t173, A330, H⟩ := H
                replace H : (if (t173.length : Int) = (l2.length : Int) then (laws_FnCache.l1 k2 a0 l2 t173 l2 (l2.length : Int) 0) else (some false)) = some r := H
                have A33 := Aside0.mk A330
                clear A330
                by_cases c34 : (t173.length : Int) = (l2.length : Int)
                · rw [if_pos c34] at H
                  have c34b0 : ((t173.length : Int) == (l2.length : Int)) = true := beq_iff_eq.mpr c34
                  have c34b1 : ((t173.length : Int) != (l2.length : Int)) = false := bne_eq_false_iff_eq.mpr c34
                  have c34b2 : (t173.length == l2.length) = true := by first | simpa using c34 | (simp at c34 ⊢; omega)
                  clear c34
                  have H' := Aside0.mk H
                  clear H
                  go_wp2_with (first | (go_at_call 7; (with_reducible refine (impl_CacheScript.calls k2 a0 a1 _ _ l2 t173 _ ?side1 ?side2 ?side3 A33.out).mono ?_); (case side1 => exact TabOK.below HT.out (by repeat (first | (with_reducible first | exact HB.out | apply below_alloc | apply pw_below_drewN | apply below_drew1) | exact HB.out))); (case side2 => repeat (first | exact (Kd.C_below HR2.out HB.out) | (with_reducible refine Kd.C_alloc ?_ _) | (with_reducible refine Kd.C_drewN ?_ _) | (with_reducible refine Kd.C_drew ?_))); (case side3 => exact HC2.out); rintro e w35 ⟨v174, rfl, ho0, hb⟩; have n0_ := Aside0.mk (Kd.R_lower ho0 (below_size (by repeat (first | (with_reducible first | exact HB.out | apply below_alloc | apply pw_below_drewN | apply below_drew1) | exact HB.out)))); have n1_ := Aside0.mk (below_step (by repeat (first | (with_reducible first | exact HB.out | apply below_alloc | apply pw_below_drewN | apply below_drew1) | exact HB.out)) hb); clear HB; have HO175 := n0_; have HB := n1_; clear n0_ n1_; (try clear hb); (try clear hb2); (try clear hk); (try clear hi); (try clear ho0); obtain ⟨Ao36, co36, eo36⟩ := Kd.R_slice HO175.out; subst eo36))
                  repeat (go_quiet (first | (go_at_call 7; (with_reducible refine (impl_CacheScript.calls k2 a0 a1 _ _ l2 t173 _ ?side1 ?side2 ?side3 A33.out).mono ?_); (case side1 => exact TabOK.below HT.out (by repeat (first | (with_reducible first | exact HB.out | apply below_alloc | apply pw_below_drewN | apply below_drew1) | exact HB.out))); (case side2 => repeat (first | exact (Kd.C_below HR2.out HB.out) | (with_reducible refine Kd.C_alloc ?_ _) | (with_reducible refine Kd.C_drewN ?_ _) | (with_reducible refine Kd.C_drew ?_))); (case side3 => exact HC2.out); rintro e w35 ⟨v174, rfl, ho0, hb⟩; have n0_ := Aside0.mk (Kd.R_lower ho0 (below_size (by repeat (first | (with_reducible first | exact HB.out | apply below_alloc | apply pw_below_drewN | apply below_drew1) | exact HB.out)))); have n1_ := Aside0.mk (below_step (by repeat (first | (with_reducible first | exact HB.out | apply below_alloc | apply pw_below_drewN | apply below_drew1) | exact HB.out)) hb); clear HB; have HO175 := n0_; have HB := n1_; clear n0_ n1_; (try clear hb); (try clear hb2); (try clear hk); (try clear hi); (try clear ho0); obtain ⟨Ao36, co36, eo36⟩ := Kd.R_slice HO175.out; subst eo36)); try go_wp2_with (first | (go_at_call 7; (with_reducible refine (impl_CacheScript.calls k2 a0 a1 _ _ l2 t173 _ ?side1 ?side2 ?side3 A33.out).mono ?_); (case side1 => exact TabOK.below HT.out (by repeat (first | (with_reducible first | exact HB.out | apply below_alloc | apply pw_below_drewN | apply below_drew1) | exact HB.out))); (case side2 => repeat (first | exact (Kd.C_below HR2.out HB.out) | (with_reducible refine Kd.C_alloc ?_ _) | (with_reducible refine Kd.C_drewN ?_ _) | (with_reducible refine Kd.C_drew ?_))); (case side3 => exact HC2.out); rintro e w35 ⟨v174, rfl, ho0, hb⟩; have n0_ := Aside0.mk (Kd.R_lower ho0 (below_size (by repeat (first | (with_reducible first | exact HB.out | apply below_alloc | apply pw_below_drewN | apply below_drew1) | exact HB.out)))); have n1_ := Aside0.mk (below_step (by repeat (first | (with_reducible first | exact HB.out | apply below_alloc | apply pw_below_drewN | apply below_drew1) | exact HB.out)) hb); clear HB; have HO175 := n0_; have HB := n1_; clear n0_ n1_; (try clear hb); (try clear hb2); (try clear hk); (try clear hi); (try clear ho0); obtain ⟨Ao36, co36, eo36⟩ := Kd.R_slice HO175.out; subst eo36)))
                  go_loopg [79] k2 (fun kq v79 w' => ∃ (x79_3 : Int), v79 = .int .i64 x79_3 ∧ Aside0 (laws_FnCache.l1 kq a0 l2 t173 l2 (l2.length : Int) x79_3 = some r) ∧ Aside0 (kq ≤ k2) ∧ Aside0 (Kd.R k34 34 w' w.heap.size (fun _ => True) (.slice Ao36 t173.length co36) t173) ∧ Aside0 (Below w.heap.size w w'))
                  case atStart => exact ⟨(0), (by first | rfl | (simp; done) | (simp [*]; done)), H', ⟨Nat.le_refl _⟩, ⟨by (with_reducible repeat (first | apply Kd.R_alloc | apply Kd.R_drewN | apply Kd.R_drew)); exact HO175.out⟩, ⟨by repeat (first | (with_reducible first | exact HB.out | apply below_alloc | apply pw_below_drewN | apply below_drew1) | exact HB.out)⟩⟩
                  case round =>
                    clear H'
                    try clear c1
                    try clear p1
                    try clear q1
                    try clear hx1
                    try clear c2
                    try clear p2
                    try clear q2
                    try clear c3
                    try clear c5
                    try clear p6
                    try clear c8
                    try clear c8b0
                    try clear c9
                    try clear c9b0
                    try clear c10
                    try clear c10b0
                    try clear c11
                    try clear c11b0
                    try clear c12
                    try clear c13
                    try clear c13b0
                    try clear c14
                    try clear c14b0
                    try clear c15
                    try clear c15b0
                    try clear c16
                    try clear p16
                    try clear q16
                    try clear hx16
                    try clear c17
                    try clear c18
                    try clear c18b0
                    try clear c18b1
                    try clear q21
                    try clear c22
                    try clear c24
                    try clear c34
                    try clear c34b0
                    try clear c34b1
                    try clear c34b2
                    try clear hcz20_0
                    try clear hcz20_1
                    try clear hcz20_2
                    try clear hcz26_0
                    try clear hcz26_1
                    try clear hcz26_2
                    try clear hcz28_0
                    try clear hcz28_1
                    try clear hcz28_2
                    try clear hcz30_0
                    try clear hcz30_1
                    try clear hcz30_2
                    try clear hcz32_0
                    try clear hcz32_1
                    try clear hcz32_2
                    try clear hfz20_0
                    try clear hfz20_1
                    try clear hfz20_2
                    try clear hfz26_0
                    try clear hfz26_1
                    try clear hfz26_2
                    try clear hfz28_0
                    try clear hfz28_1
                    try clear hfz28_2
                    try clear hfz30_0
                    try clear hfz30_1
                    try clear hfz30_2
                    try clear hfz32_0
                    try clear hfz32_1
                    try clear hfz32_2
                    try clear hx169_0
                    try clear hx169_1
                    try clear hx169_2
                    try clear p169
                    try clear p2
                    try clear q169
                    obtain ⟨x79_3, rfl, HA, HK3, HO_9, HB⟩ := hrel
                    cases gk with
                    | zero => exact absurd HA.out (by simp [laws_FnCache.l1])
                    | succ k3 =>
                      have H := HA.out
                      clear HA
                      simp only [laws_FnCache.l1] at H
                      by_cases c37 : x79_3 < (l2.length : Int)
                      · rw [if_pos c37] at H
                        have c37b0 : decide (x79_3 < (l2.length : Int)) = true := decide_eq_true c37
                        clear c37
                        by_cases c38 : 0 ≤ x79_3
                        · rw [if_pos c38] at H
                          have c38b0 : decide (0 ≤ x79_3) = true := decide_eq_true c38
                          clear c38
                          by_cases c39 : x79_3 < (l2.length : Int)
                          · rw [if_pos c39] at H
                            have c39b0 : decide (x79_3 < (l2.length : Int)) = true := decide_eq_true c39
                            clear c39
                            have HC40 := Aside0.mk H
                            clear H
                            have p176 : 0 ≤ (x79_3 : Int) := of_decide_eq_true (by first | (with_reducible assumption) | assumption)
                            have q176 : x79_3 < (l2.length : Int) := of_decide_eq_true (by first | (with_reducible assumption) | assumption)
                            obtain ⟨ad176, A176_1, c176_1, A176_2, c176_2, e176, hx176_0, hx176_1, hx176_2, hl176_1, hi176_1, hl176_2, hi176_2⟩ := at_T27 HR2.out x79_3 p176 q176
                            cases e176
                            replace hx176_0 := (HB.out.cell (World.block_lt_of_cell? w _ hx176_0)).trans hx176_0
                            replace hx176_1 := (HB.out.cell (World.block_lt_of_cell? w _ hx176_1)).trans hx176_1
                            replace hx176_2 := (HB.out.cell (World.block_lt_of_cell? w _ hx176_2)).trans hx176_2
                            have HR176_1 := Aside0.mk hi176_1
                            have HC176_1 := Aside0.mk hl176_1
                            clear hi176_1 hl176_1
                            have HR176_2 := Aside0.mk hi176_2
                            have HC176_2 := Aside0.mk hl176_2
                            clear hi176_2 hl176_2
                            replace p176 := eq_true p176
                            replace q176 := eq_true q176
                            go_upto_region 17 with (first | ((with_reducible refine gate_dst (N := 11) rfl ?_); (try (refine gate_guard (by rfl) ?_; dsimp only)); refine box_event ?hg (N := 11) ?hd (cs := #[.bool false, .slice none 0 0, .slice none 0 0]) (t := 27) ?hr ?_; (case hd => rfl); (case hg => rfl); (case hr => first | (go_simp; done) | (go_simp; rfl)); intro gb177 hg w41 hbox hb; have n0_ := Aside0.mk (Kd.R_below (by (with_reducible repeat (first | apply Kd.R_alloc | apply Kd.R_drewN | apply Kd.R_drew)); exact HO_9.out) hb); have n1_ := Aside0.mk (below_step (by repeat (first | (with_reducible first | exact HB.out | apply below_alloc | apply pw_below_drewN | apply below_drew1) | exact HB.out)) hb); have n2_ := Aside0.mk (hbox); have n3_ := Aside0.mk ((by rw [hg]; exact (below_size (by repeat (first | (with_reducible first | exact HB.out | apply below_alloc | apply pw_below_drewN | apply below_drew1) | exact HB.out))) : w.heap.size ≤ gb177)); have n4_ := Aside0.mk ((by rw [hg]; exact (below_size (by repeat (first | (with_reducible first | exact HB.out | apply below_alloc | apply pw_below_drewN | apply below_drew1) | exact HB.out))) : w.heap.size ≤ gb177)); clear HO_9; clear HB; have HO_9 := n0_; have HB := n1_; have BK177 := n2_; have GW177 := n3_; have GE177 := n4_; clear n0_ n1_ n2_ n3_ n4_; clear hb hbox hg; have hcz42_0 : w41.cell? ⟨gb177, 0, none⟩ = some (.bool false) := (blk_cell BK177.out 0).trans rfl; have hcz42_1 : w41.cell? ⟨gb177, 1, none⟩ = some (.slice none 0 0) := (blk_cell BK177.out 1).trans rfl; have hcz42_2 : w41.cell? ⟨gb177, 2, none⟩ = some (.slice none 0 0) := (blk_cell BK177.out 2).trans rfl; have hfz42_0 := blk_frozen BK177.out 0; have hfz42_1 := blk_frozen BK177.out 1; have hfz42_2 := blk_frozen BK177.out 2))
                            repeat (go_quiet (first | ((with_reducible refine gate_dst (N := 11) rfl ?_); (try (refine gate_guard (by rfl) ?_; dsimp only)); refine box_event ?hg (N := 11) ?hd (cs := #[.bool false, .slice none 0 0, .slice none 0 0]) (t := 27) ?hr ?_; (case hd => rfl); (case hg => rfl); (case hr => first | (go_simp; done) | (go_simp; rfl)); intro gb177 hg w41 hbox hb; have n0_ := Aside0.mk (Kd.R_below (by (with_reducible repeat (first | apply Kd.R_alloc | apply Kd.R_drewN | apply Kd.R_drew)); exact HO_9.out) hb); have n1_ := Aside0.mk (below_step (by repeat (first | (with_reducible first | exact HB.out | apply below_alloc | apply pw_below_drewN | apply below_drew1) | exact HB.out)) hb); have n2_ := Aside0.mk (hbox); have n3_ := Aside0.mk ((by rw [hg]; exact (below_size (by repeat (first | (with_reducible first | exact HB.out | apply below_alloc | apply pw_below_drewN | apply below_drew1) | exact HB.out))) : w.heap.size ≤ gb177)); have n4_ := Aside0.mk ((by rw [hg]; exact (below_size (by repeat (first | (with_reducible first | exact HB.out | apply below_alloc | apply pw_below_drewN | apply below_drew1) | exact HB.out))) : w.heap.size ≤ gb177)); clear HO_9; clear HB; have HO_9 := n0_; have HB := n1_; have BK177 := n2_; have GW177 := n3_; have GE177 := n4_; clear n0_ n1_ n2_ n3_ n4_; clear hb hbox hg; have hcz42_0 : w41.cell? ⟨gb177, 0, none⟩ = some (.bool false) := (blk_cell BK177.out 0).trans rfl; have hcz42_1 : w41.cell? ⟨gb177, 1, none⟩ = some (.slice none 0 0) := (blk_cell BK177.out 1).trans rfl; have hcz42_2 : w41.cell? ⟨gb177, 2, none⟩ = some (.slice none 0 0) := (blk_cell BK177.out 2).trans rfl; have hfz42_0 := blk_frozen BK177.out 0; have hfz42_1 := blk_frozen BK177.out 1; have hfz42_2 := blk_frozen BK177.out 2)); go_upto_region 17 with (first | ((with_reducible refine gate_dst (N := 11) rfl ?_); (try (refine gate_guard (by rfl) ?_; dsimp only)); refine box_event ?hg (N := 11) ?hd (cs := #[.bool false, .slice none 0 0, .slice none 0 0]) (t := 27) ?hr ?_; (case hd => rfl); (case hg => rfl); (case hr => first | (go_simp; done) | (go_simp; rfl)); intro gb177 hg w41 hbox hb; have n0_ := Aside0.mk (Kd.R_below (by (with_reducible repeat (first | apply Kd.R_alloc | apply Kd.R_drewN | apply Kd.R_drew)); exact HO_9.out) hb); have n1_ := Aside0.mk (below_step (by repeat (first | (with_reducible first | exact HB.out | apply below_alloc | apply pw_below_drewN | apply below_drew1) | exact HB.out)) hb); have n2_ := Aside0.mk (hbox); have n3_ := Aside0.mk ((by rw [hg]; exact (below_size (by repeat (first | (with_reducible first | exact HB.out | apply below_alloc | apply pw_below_drewN | apply below_drew1) | exact HB.out))) : w.heap.size ≤ gb177)); have n4_ := Aside0.mk ((by rw [hg]; exact (below_size (by repeat (first | (with_reducible first | exact HB.out | apply below_alloc | apply pw_below_drewN | apply below_drew1) | exact HB.out))) : w.heap.size ≤ gb177)); clear HO_9; clear HB; have HO_9 := n0_; have HB := n1_; have BK177 := n2_; have GW177 := n3_; have GE177 := n4_; clear n0_ n1_ n2_ n3_ n4_; clear hb hbox hg; have hcz42_0 : w41.cell? ⟨gb177, 0, none⟩ = some (.bool false) := (blk_cell BK177.out 0).trans rfl; have hcz42_1 : w41.cell? ⟨gb177, 1, none⟩ = some (.slice none 0 0) := (blk_cell BK177.out 1).trans rfl; have hcz42_2 : w41.cell? ⟨gb177, 2, none⟩ = some (.slice none 0 0) := (blk_cell BK177.out 2).trans rfl; have hfz42_0 := blk_frozen BK177.out 0; have hfz42_1 := blk_frozen BK177.out 1; have hfz42_2 := blk_frozen BK177.out 2)))
                            (try simp only [Act.put, List.setIfInBounds_toArray, List.set_cons_zero, List.set_cons_succ])
                            go_cut [12] (fun v12 wc => ∃ (kq : Nat) (x12_39 : Bool), v12 = .bool x12_39 ∧ Aside0 (laws_FnCache.j3 kq a0 l2 t173 x79_3 x12_39 l2 (l2.length : Int) x79_3 ((rd_T27 l2 x79_3).f0) ((rd_T27 l2 x79_3).f1) ((rd_T27 l2 x79_3).f2) = some r) ∧ Aside0 (kq ≤ k3) ∧ Aside0 (Kd.R k34 34 wc w.heap.size (fun _ => True) (.slice Ao36 t173.length co36) t173) ∧ Aside0 (wc.heap[gb177]? = some (.cells #[.bool ((rd_T27 l2 x79_3).f0), (.slice A176_1 ((rd_T27 l2 x79_3).f1).length c176_1), (.slice A176_2 ((rd_T27 l2 x79_3).f2).length c176_2)] 27 (0, 0))) ∧ Aside0 (Below w.heap.size w wc))
                            case first =>
                              have H := HC40.out
                              clear HC40
                              by_cases c43 : (((rd_T27 l2 x79_3).f1).length : Int) > 0
                              · rw [if_pos c43] at H
                                have c43b0 : decide (0 < (((rd_T27 l2 x79_3).f1).length : Int)) = true := decide_eq_true c43
                                have c43b1 : decide (0 < ((rd_T27 l2 x79_3).f1).length) = true := decide_eq_true (by omega)
                                clear c43
                                (first | rw [c43b0] | (simp only [i64_w, i32_w]; rw [c43b0]) | skip)
                                by_cases c44 : (((rd_T27 l2 x79_3).f2).length : Int) > 0
                                · rw [if_pos c44] at H
                                  have c44b0 : decide (0 < (((rd_T27 l2 x79_3).f2).length : Int)) = true := decide_eq_true c44
                                  have c44b1 : decide (0 < ((rd_T27 l2 x79_3).f2).length) = true := decide_eq_true (by omega)
                                  clear c44
                                  by_cases c45 : 0 < (((rd_T27 l2 x79_3).f2).length : Int)
                                  · rw [if_pos c45] at H
                                    have c45b0 : decide (0 < (((rd_T27 l2 x79_3).f2).length : Int)) = true := decide_eq_true c45
                                    have c45b1 : decide (0 < ((rd_T27 l2 x79_3).f2).length) = true := decide_eq_true (by omega)
                                    clear c45
                                    have H' := Aside0.mk H
                                    clear H
                                    have hcz46_0 : w41.cell? ⟨gb177, 0, none⟩ = some (.bool false) := (blk_cell BK177.out 0).trans rfl
                                    have hcz46_1 : w41.cell? ⟨gb177, 1, none⟩ = some (.slice none 0 0) := (blk_cell BK177.out 1).trans rfl
                                    have hcz46_2 : w41.cell? ⟨gb177, 2, none⟩ = some (.slice none 0 0) := (blk_cell BK177.out 2).trans rfl
                                    have hfz46_0 := blk_frozen BK177.out 0
                                    have hfz46_1 := blk_frozen BK177.out 1
                                    have hfz46_2 := blk_frozen BK177.out 2
                                    have p178 : 0 ≤ (0 : Int) := (by omega)
                                    have q178 : 0 < (((rd_T27 l2 x79_3).f2).length : Int) := of_decide_eq_true (by first | (with_reducible assumption) | assumption)
                                    obtain ⟨ad178, A178_0, c178_0, e178, hx178_0, hl178_0, hi178_0⟩ := at_L1 HR176_2.out 0 p178 q178
                                    cases e178
                                    have qi178 : (0 < ((rd_T27 l2 x79_3).f2).length) = True := eq_true (by omega)
                                    (try rw [show ((0 : Int)).toNat = 0 from rfl] at hx178_0)
                                    (try rw [Addr.add_zero'] at hx178_0)
                                    have hn178_0 : ad178.block ≠ gb177 := Nat.ne_of_lt (Nat.lt_of_lt_of_le (by have := World.block_lt_of_cell? _ _ hx178_0; first | rwa [add_block] at this | exact this) GW177.out)
                                    have hn178_1 : ad178.block ≠ gb177 := Nat.ne_of_lt (Nat.lt_of_lt_of_le (by have := World.block_lt_of_cell? _ _ hx178_0; first | rwa [add_block] at this | exact this) GW177.out)
                                    have hn178_2 : ad178.block ≠ gb177 := Nat.ne_of_lt (Nat.lt_of_lt_of_le (by have := World.block_lt_of_cell? _ _ hx178_0; first | rwa [add_block] at this | exact this) GW177.out)
                                    replace hx178_0 := (HB.out.cell (World.block_lt_of_cell? w _ hx178_0)).trans hx178_0
                                    have HR178_0 := Aside0.mk hi178_0
                                    have HC178_0 := Aside0.mk hl178_0
                                    clear hi178_0 hl178_0
                                    replace hx178_0 := (cell_far (p := ⟨gb177, 0, none⟩) (by first | (rw [add_block]; exact hn178_0) | (show (Addr.add _ _).block ≠ _; rw [add_block]; exact hn178_0) | exact hn178_0) (.bool ((rd_T27 l2 x79_3).f0))).trans hx178_0
                                    replace hx178_0 := (cell_far (p := ⟨gb177, 1, none⟩) (by first | (rw [add_block]; exact hn178_1) | (show (Addr.add _ _).block ≠ _; rw [add_block]; exact hn178_1) | exact hn178_1) (.slice A176_1 ((rd_T27 l2 x79_3).f1).length c176_1)).trans hx178_0
                                    replace hx178_0 := (cell_far (p := ⟨gb177, 2, none⟩) (by first | (rw [add_block]; exact hn178_2) | (show (Addr.add _ _).block ≠ _; rw [add_block]; exact hn178_2) | exact hn178_2) (.slice (some ad178) ((rd_T27 l2 x79_3).f2).length c176_2)).trans hx178_0
                                    (try have hy178_0 := fun (n_ : Nat) => (show (((((w41.drewN n_).setCell ⟨gb177, 0, none⟩ (.bool ((rd_T27 l2 x79_3).f0))).setCell ⟨gb177, 1, none⟩ (.slice A176_1 ((rd_T27 l2 x79_3).f1).length c176_1)).setCell ⟨gb177, 2, none⟩ (.slice (some ad178) ((rd_T27 l2 x79_3).f2).length c176_2))).cell? _ = some _ from hx178_0))
                                    clear hn178_0
                                    clear hn178_1
                                    clear hn178_2
                                    replace p178 := eq_true p178
                                    replace q178 := eq_true q178
                                    go_wp2
                                    repeat (go_quiet (fail); try go_wp2)
                                    go_meet
                                    case rel => exact ⟨_, (((((rd_T27 l2 x79_3).f2).length : Int) == ((rd_L1 ((rd_T27 l2 x79_3).f2) 0).length : Int))), (by first | rfl | (simp; done) | (simp [*]; done)), H', ⟨by have := HJ5.out; have := HK2.out; have := HK3.out; first | omega | exact Nat.le_refl _⟩, ⟨by (with_reducible repeat (first | apply Kd.R_alloc | apply Kd.R_drewN | apply Kd.R_drew)); exact Kd.R_mono (Kd.R_far (p := ⟨gb177, 2, none⟩) (Kd.R_far (p := ⟨gb177, 1, none⟩) (Kd.R_far (p := ⟨gb177, 0, none⟩) (Kd.R_types HO_9.out BK177.out (by decide)) (fun _ hk => hk.2) (.bool ((rd_T27 l2 x79_3).f0))) (fun _ hk => hk.2) (.slice A176_1 ((rd_T27 l2 x79_3).f1).length c176_1)) (fun _ hk => hk.2) (.slice (some ad178) ((rd_T27 l2 x79_3).f2).length c176_2)) (fun _ hk => trivial)⟩, ⟨by (with_reducible repeat (first | refine blk_drewN ?_ _ | refine blk_drew ?_ | refine blk_alloc ?_ _)); refine blk_put (cs := #[.bool ((rd_T27 l2 x79_3).f0), .slice A176_1 ((rd_T27 l2 x79_3).f1).length c176_1, .slice none 0 0]) ?_ 2 _ rfl; (with_reducible repeat (first | refine blk_drewN ?_ _ | refine blk_drew ?_ | refine blk_alloc ?_ _)); refine blk_put (cs := #[.bool ((rd_T27 l2 x79_3).f0), .slice none 0 0, .slice none 0 0]) ?_ 1 _ rfl; (with_reducible repeat (first | refine blk_drewN ?_ _ | refine blk_drew ?_ | refine blk_alloc ?_ _)); refine blk_put (cs := #[.bool false, .slice none 0 0, .slice none 0 0]) ?_ 0 _ rfl; (with_reducible repeat (first | refine blk_drewN ?_ _ | refine blk_drew ?_ | refine blk_alloc ?_ _)); exact BK177.out⟩, ⟨by repeat (first | (with_reducible first | exact HB.out | apply below_alloc | apply pw_below_drewN | apply below_drew1 | refine below_set ?_ GE177.out) | exact HB.out)⟩⟩
                                  · rw [if_neg c45] at H
                                    exact absurd H (by simp)
                                · rw [if_neg c44] at H
                                  have c44b0 : decide (0 < (((rd_T27 l2 x79_3).f2).length : Int)) = false := decide_eq_false c44
                                  have c44b1 : decide (0 < ((rd_T27 l2 x79_3).f2).length) = false := decide_eq_false (by omega)
                                  clear c44
                                  have H' := Aside0.mk H
                                  clear H
                                  have hcz47_0 : w41.cell? ⟨gb177, 0, none⟩ = some (.bool false) := (blk_cell BK177.out 0).trans rfl
                                  have hcz47_1 : w41.cell? ⟨gb177, 1, none⟩ = some (.slice none 0 0) := (blk_cell BK177.out 1).trans rfl
                                  have hcz47_2 : w41.cell? ⟨gb177, 2, none⟩ = some (.slice none 0 0) := (blk_cell BK177.out 2).trans rfl
                                  have hfz47_0 := blk_frozen BK177.out 0
                                  have hfz47_1 := blk_frozen BK177.out 1
                                  have hfz47_2 := blk_frozen BK177.out 2
                                  go_wp2
                                  repeat (go_quiet (fail); try go_wp2)
                                  go_meet
                                  case rel => exact ⟨_, (false), (by first | rfl | (simp; done) | (simp [*]; done)), H', ⟨by have := HJ5.out; have := HK2.out; have := HK3.out; first | omega | exact Nat.le_refl _⟩, ⟨by (with_reducible repeat (first | apply Kd.R_alloc | apply Kd.R_drewN | apply Kd.R_drew)); exact Kd.R_mono (Kd.R_far (p := ⟨gb177, 2, none⟩) (Kd.R_far (p := ⟨gb177, 1, none⟩) (Kd.R_far (p := ⟨gb177, 0, none⟩) (Kd.R_types HO_9.out BK177.out (by decide)) (fun _ hk => hk.2) (.bool ((rd_T27 l2 x79_3).f0))) (fun _ hk => hk.2) (.slice A176_1 ((rd_T27 l2 x79_3).f1).length c176_1)) (fun _ hk => hk.2) (.slice A176_2 ((rd_T27 l2 x79_3).f2).length c176_2)) (fun _ hk => trivial)⟩, ⟨by (with_reducible repeat (first | refine blk_drewN ?_ _ | refine blk_drew ?_ | refine blk_alloc ?_ _)); refine blk_put (cs := #[.bool ((rd_T27 l2 x79_3).f0), .slice A176_1 ((rd_T27 l2 x79_3).f1).length c176_1, .slice none 0 0]) ?_ 2 _ rfl; (with_reducible repeat (first | refine blk_drewN ?_ _ | refine blk_drew ?_ | refine blk_alloc ?_ _)); refine blk_put (cs := #[.bool ((rd_T27 l2 x79_3).f0), .slice none 0 0, .slice none 0 0]) ?_ 1 _ rfl; (with_reducible repeat (first | refine blk_drewN ?_ _ | refine blk_drew ?_ | refine blk_alloc ?_ _)); refine blk_put (cs := #[.bool false, .slice none 0 0, .slice none 0 0]) ?_ 0 _ rfl; (with_reducible repeat (first | refine blk_drewN ?_ _ | refine blk_drew ?_ | refine blk_alloc ?_ _)); exact BK177.out⟩, ⟨by repeat (first | (with_reducible first | exact HB.out | apply below_alloc | apply pw_below_drewN | apply below_drew1 | refine below_set ?_ GE177.out) | exact HB.out)⟩⟩
                              · rw [if_neg c43] at H
                                have c43b0 : decide (0 < (((rd_T27 l2 x79_3).f1).length : Int)) = false := decide_eq_false c43
                                have c43b1 : decide (0 < ((rd_T27 l2 x79_3).f1).length) = false := decide_eq_false (by omega)
                                clear c43
                                (first | rw [c43b0] | (simp only [i64_w, i32_w]; rw [c43b0]) | skip)
                                have H' := Aside0.mk H
                                clear H
                                have hcz48_0 : w41.cell? ⟨gb177, 0, none⟩ = some (.bool false) := (blk_cell BK177.out 0).trans rfl
                                have hcz48_1 : w41.cell? ⟨gb177, 1, none⟩ = some (.slice none 0 0) := (blk_cell BK177.out 1).trans rfl
                                have hcz48_2 : w41.cell? ⟨gb177, 2, none⟩ = some (.slice none 0 0) := (blk_cell BK177.out 2).trans rfl
                                have hfz48_0 := blk_frozen BK177.out 0
                                have hfz48_1 := blk_frozen BK177.out 1
                                have hfz48_2 := blk_frozen BK177.out 2
                                go_wp2
                                repeat (go_quiet (fail); try go_wp2)
                                go_meet
                                case rel => exact ⟨_, (false), (by first | rfl | (simp; done) | (simp [*]; done)), H', ⟨by have := HJ5.out; have := HK2.out; have := HK3.out; first | omega | exact Nat.le_refl _⟩, ⟨by (with_reducible repeat (first | apply Kd.R_alloc | apply Kd.R_drewN | apply Kd.R_drew)); exact Kd.R_mono (Kd.R_far (p := ⟨gb177, 2, none⟩) (Kd.R_far (p := ⟨gb177, 1, none⟩) (Kd.R_far (p := ⟨gb177, 0, none⟩) (Kd.R_types HO_9.out BK177.out (by decide)) (fun _ hk => hk.2) (.bool ((rd_T27 l2 x79_3).f0))) (fun _ hk => hk.2) (.slice A176_1 ((rd_T27 l2 x79_3).f1).length c176_1)) (fun _ hk => hk.2) (.slice A176_2 ((rd_T27 l2 x79_3).f2).length c176_2)) (fun _ hk => trivial)⟩, ⟨by (with_reducible repeat (first | refine blk_drewN ?_ _ | refine blk_drew ?_ | refine blk_alloc ?_ _)); refine blk_put (cs := #[.bool ((rd_T27 l2 x79_3).f0), .slice A176_1 ((rd_T27 l2 x79_3).f1).length c176_1, .slice none 0 0]) ?_ 2 _ rfl; (with_reducible repeat (first | refine blk_drewN ?_ _ | refine blk_drew ?_ | refine blk_alloc ?_ _)); refine blk_put (cs := #[.bool ((rd_T27 l2 x79_3).f0), .slice none 0 0, .slice none 0 0]) ?_ 1 _ rfl; (with_reducible repeat (first | refine blk_drewN ?_ _ | refine blk_drew ?_ | refine blk_alloc ?_ _)); refine blk_put (cs := #[.bool false, .slice none 0 0, .slice none 0 0]) ?_ 0 _ rfl; (with_reducible repeat (first | refine blk_drewN ?_ _ | refine blk_drew ?_ | refine blk_alloc ?_ _)); exact BK177.out⟩, ⟨by repeat (first | (with_reducible first | exact HB.out | apply below_alloc | apply pw_below_drewN | apply below_drew1 | refine below_set ?_ GE177.out) | exact HB.out)⟩⟩
                            case rest =>
                              clear HC40
                              try clear c1
                              try clear p1
                              try clear q1
                              try clear hx1
                              try clear qi1
                              try clear c2
                              try clear p2
                              try clear q2
                              try clear c3
                              try clear c4
                              try clear c5
                              try clear p6
                              try clear c8
                              try clear c8b0
                              try clear c9
                              try clear c9b0
                              try clear c10
                              try clear c10b0
                              try clear c11
                              try clear c11b0
                              try clear c12
                              try clear c13
                              try clear c13b0
                              try clear c14
                              try clear c14b0
                              try clear c15
                              try clear c15b0
                              try clear c16
                              try clear p16
                              try clear q16
                              try clear hx16
                              try clear c17
                              try clear p17
                              try clear q17
                              try clear hx17
                              try clear qi17
                              try clear c18
                              try clear c18b0
                              try clear c18b1
                              try clear q21
                              try clear c22
                              try clear c24
                              try clear c34
                              try clear c34b0
                              try clear c34b1
                              try clear c34b2
                              try clear c37
                              try clear c37b0
                              try clear c38
                              try clear c38b0
                              try clear c39
                              try clear c39b0
                              try clear c43
                              try clear c43b0
                              try clear c43b1
                              try clear c44
                              try clear c44b0
                              try clear c44b1
                              try clear c45
                              try clear c45b0
                              try clear c45b1
                              try clear hcz20_0
                              try clear hcz20_1
                              try clear hcz20_2
                              try clear hcz26_0
                              try clear hcz26_1
                              try clear hcz26_2
                              try clear hcz28_0
                              try clear hcz28_1
                              try clear hcz28_2
                              try clear hcz30_0
                              try clear hcz30_1
                              try clear hcz30_2
                              try clear hcz32_0
                              try clear hcz32_1
                              try clear hcz32_2
                              try clear hcz42_0
                              try clear hcz42_1
                              try clear hcz42_2
                              try clear hcz46_0
                              try clear hcz46_1
                              try clear hcz46_2
                              try clear hcz47_0
                              try clear hcz47_1
                              try clear hcz47_2
                              try clear hcz48_0
                              try clear hcz48_1
                              try clear hcz48_2
                              try clear hfz20_0
                              try clear hfz20_1
                              try clear hfz20_2
                              try clear hfz26_0
                              try clear hfz26_1
                              try clear hfz26_2
                              try clear hfz28_0
                              try clear hfz28_1
                              try clear hfz28_2
                              try clear hfz30_0
                              try clear hfz30_1
                              try clear hfz30_2
                              try clear hfz32_0
                              try clear hfz32_1
                              try clear hfz32_2
                              try clear hfz42_0
                              try clear hfz42_1
                              try clear hfz42_2
                              try clear hfz46_0
                              try clear hfz46_1
                              try clear hfz46_2
                              try clear hfz47_0
                              try clear hfz47_1
                              try clear hfz47_2
                              try clear hfz48_0
                              try clear hfz48_1
                              try clear hfz48_2
                              try clear hx169_0
                              try clear hx169_1
                              try clear hx169_2
                              try clear hx176_0
                              try clear hx176_1
                              try clear hx176_2
                              try clear hx178_0
                              try clear p1
                              try clear p16
                              try clear p169
                              try clear p176
                              try clear p178
                              try clear p2
                              try clear p6
                              try clear q1
                              try clear q16
                              try clear q169
                              try clear q176
                              try clear q178
                              try clear q2
                              try clear q21
                              obtain ⟨kq, x12_39, rfl, HA, HJ39, HO_9, BK177, HB⟩ := hcut
                              cases kq with
                              | zero => exact absurd HA.out (by simp [laws_FnCache.j3])
                              | succ kj39 =>
                                have H := HA.out
                                clear HA
                                simp only [laws_FnCache.j3] at H
                                by_cases c49 : ((rd_T27 l2 x79_3).f0) = true
                                · rw [if_pos c49] at H
                                  have c49b0 : ((rd_T27 l2 x79_3).f0) = true := c49
                                  clear c49
                                  by_cases c50 : 0 ≤ x79_3
                                  · rw [if_pos c50] at H
                                    have c50b0 : decide (0 ≤ x79_3) = true := decide_eq_true c50
                                    clear c50
                                    by_cases c51 : x79_3 < (t173.length : Int)
                                    · rw [if_pos c51] at H
                                      have c51b0 : decide (x79_3 < (t173.length : Int)) = true := decide_eq_true c51
                                      clear c51
                                      by_cases c52 : (((rd_T34 t173 x79_3).f0) != x12_39) = true
                                      · rw [if_pos c52] at H
                                        have c52b0 : (((rd_T34 t173 x79_3).f0) != x12_39) = true := c52
                                        (try (have c52b1 : decide (((rd_T34 t173 x79_3).f0) = x12_39) = false := by simpa using c52))
                                        (try (have c52b2 : (((rd_T34 t173 x79_3).f0) == x12_39) = false := by simpa using c52))
                                        (try (have c52b3 : ¬ (((rd_T34 t173 x79_3).f0) = x12_39) := by simpa using c52))
                                        clear c52
                                        obtain rfl := Option.some.inj H
                                        have hcz53_0 : wc.cell? ⟨gb177, 0, none⟩ = some (.bool ((rd_T27 l2 x79_3).f0)) := (blk_cell BK177.out 0).trans rfl
                                        have hcz53_1 : wc.cell? ⟨gb177, 1, none⟩ = some (.slice A176_1 ((rd_T27 l2 x79_3).f1).length c176_1) := (blk_cell BK177.out 1).trans rfl
                                        have hcz53_2 : wc.cell? ⟨gb177, 2, none⟩ = some (.slice A176_2 ((rd_T27 l2 x79_3).f2).length c176_2) := (blk_cell BK177.out 2).trans rfl
                                        have hfz53_0 := blk_frozen BK177.out 0
                                        have hfz53_1 := blk_frozen BK177.out 1
                                        have hfz53_2 := blk_frozen BK177.out 2
                                        have p179 : 0 ≤ (x79_3 : Int) := of_decide_eq_true (by first | (with_reducible assumption) | assumption)
                                        have q179 : x79_3 < (t173.length : Int) := of_decide_eq_true (by first | (with_reducible assumption) | assumption)
                                        obtain ⟨ad179, A179_1, c179_1, e179, hx179_0, hx179_1, hl179_1, hi179_1⟩ := at_T34 (Kd.R_reads' HO_9.out).2.2 x79_3 p179 q179
                                        cases e179
                                        obtain ⟨ce179, hce179, hMe179, hcc179⟩ := Kd.R_get HO_9.out z34 x79_3 p179 (by first | exact q179 | exact of_decide_eq_true (by first | (with_reducible assumption) | assumption) | (have e_ := (Kd.R_reads' HO_9.out).1; omega))
                                        obtain ⟨ve179_1, rfl, ge179_1⟩ := k34_openM hMe179
                                        have hv179_1 := hcc179 1 _ rfl
                                        rw [add_field _ _ 1 (by omega)] at hv179_1
                                        replace hv179_1 := Option.some.inj (hv179_1.symm.trans hx179_1)
                                        rw [hv179_1] at ge179_1
                                        have HL179_1 := Aside0.mk (show Kd.R (Kd.slice 5 (Kd.int .u8)) 32 _ _ _ _ ((rd_T34 t173 x79_3).f1) from ge179_1)
                                        clear hv179_1 ge179_1
                                        clear hcc179 hce179
                                        have HR179_1 := Aside0.mk hi179_1
                                        have HC179_1 := Aside0.mk hl179_1
                                        clear hi179_1 hl179_1
                                        replace p179 := eq_true p179
                                        replace q179 := eq_true q179
                                        go_wp2
                                        repeat (go_quiet (fail); try go_wp2)
                                        go_ret
                                        exact ⟨by first | rfl | (simp [errW_none, errW_some] <;> rfl) | (simp [*, errW_none, errW_some] <;> rfl), by repeat (first | (with_reducible first | exact HB.out | apply below_alloc | apply pw_below_drewN | apply below_drew1 | refine below_set ?_ GE177.out) | exact HB.out)⟩
                                      · rw [if_neg c52] at H
                                        have c52b0 : (((rd_T34 t173 x79_3).f0) != x12_39) = false := by simpa using c52
                                        (try (have c52b1 : decide (((rd_T34 t173 x79_3).f0) = x12_39) = true := by simpa using c52))
                                        (try (have c52b2 : (((rd_T34 t173 x79_3).f0) == x12_39) = true := by simpa using c52))
                                        clear c52
                                        have H' := Aside0.mk H
                                        clear H
                                        have hcz54_0 : wc.cell? ⟨gb177, 0, none⟩ = some (.bool ((rd_T27 l2 x79_3).f0)) := (blk_cell BK177.out 0).trans rfl
                                        have hcz54_1 : wc.cell? ⟨gb177, 1, none⟩ = some (.slice A176_1 ((rd_T27 l2 x79_3).f1).length c176_1) := (blk_cell BK177.out 1).trans rfl
                                        have hcz54_2 : wc.cell? ⟨gb177, 2, none⟩ = some (.slice A176_2 ((rd_T27 l2 x79_3).f2).length c176_2) := (blk_cell BK177.out 2).trans rfl
                                        have hfz54_0 := blk_frozen BK177.out 0
                                        have hfz54_1 := blk_frozen BK177.out 1
                                        have hfz54_2 := blk_frozen BK177.out 2
                                        have p179 : 0 ≤ (x79_3 : Int) := of_decide_eq_true (by first | (with_reducible assumption) | assumption)
                                        have q179 : x79_3 < (t173.length : Int) := of_decide_eq_true (by first | (with_reducible assumption) | assumption)
                                        obtain ⟨ad179, A179_1, c179_1, e179, hx179_0, hx179_1, hl179_1, hi179_1⟩ := at_T34 (Kd.R_reads' HO_9.out).2.2 x79_3 p179 q179
                                        cases e179
                                        obtain ⟨ce179, hce179, hMe179, hcc179⟩ := Kd.R_get HO_9.out z34 x79_3 p179 (by first | exact q179 | exact of_decide_eq_true (by first | (with_reducible assumption) | assumption) | (have e_ := (Kd.R_reads' HO_9.out).1; omega))
                                        obtain ⟨ve179_1, rfl, ge179_1⟩ := k34_openM hMe179
                                        have hv179_1 := hcc179 1 _ rfl
                                        rw [add_field _ _ 1 (by omega)] at hv179_1
                                        replace hv179_1 := Option.some.inj (hv179_1.symm.trans hx179_1)
                                        rw [hv179_1] at ge179_1
                                        have HL179_1 := Aside0.mk (show Kd.R (Kd.slice 5 (Kd.int .u8)) 32 _ _ _ _ ((rd_T34 t173 x79_3).f1) from ge179_1)
                                        clear hv179_1 ge179_1
                                        clear hcc179 hce179
                                        have HR179_1 := Aside0.mk hi179_1
                                        have HC179_1 := Aside0.mk hl179_1
                                        clear hi179_1 hl179_1
                                        replace p179 := eq_true p179
                                        replace q179 := eq_true q179
                                        go_wp2
                                        repeat (go_quiet (fail); try go_wp2)
                                        go_roundg kj39
                                        case measure => have := HJ5.out; have := HK2.out; have := HK3.out; have := HJ39.out; omega
                                        case rel => exact ⟨(wrap64 (x79_3 + 1)), (by first | rfl | (simp; done) | (simp [*]; done)), H', ⟨by have := HJ5.out; have := HK2.out; have := HK3.out; have := HJ39.out; omega⟩, ⟨by (with_reducible repeat (first | apply Kd.R_alloc | apply Kd.R_drewN | apply Kd.R_drew)); exact HO_9.out⟩, ⟨by repeat (first | (with_reducible first | exact HB.out | apply below_alloc | apply pw_below_drewN | apply below_drew1 | refine below_set ?_ GE177.out) | exact HB.out)⟩⟩
                                    · rw [if_neg c51] at H
                                      exact absurd H (by simp)
                                  · rw [if_neg c50] at H
                                    exact absurd H (by simp)
                                · rw [if_neg c49] at H
                                  have c49b0 : ((rd_T27 l2 x79_3).f0) = false := by simpa using c49
                                  clear c49
                                  obtain ⟨y180, hy180⟩ : ∃ y_ : List (List Int), y_ = (([] : List (List Int))) := ⟨_, rfl⟩
                                  replace H : (if (((rd_T27 l2 x79_3).f1).length : Int) = 0 then ((spec_Unit.f kj39 a0).bind fun t183 => (laws_FnCache.j4 kj39 a0 l2 t173 x79_3 t183 l2 (l2.length : Int) x79_3 ((rd_T27 l2 x79_3).f0) ((rd_T27 l2 x79_3).f1) ((rd_T27 l2 x79_3).f2))) else (laws_FnCache.j4 kj39 a0 l2 t173 x79_3 y180 l2 (l2.length : Int) x79_3 ((rd_T27 l2 x79_3).f0) ((rd_T27 l2 x79_3).f1) ((rd_T27 l2 x79_3).f2))) = some r := by first | (rw [hy180]; with_reducible exact H) | (have H2_ := (Option.bind_some _ _).symm.trans H; rw [hy180]; with_reducible exact H2_) | (have H2_ := (Option.bind_some _ _).symm.trans H; with_reducible exact H2_) | with_reducible exact H | (rw [hy180]; exact H) | exact H
                                  have Ny180 := Aside0.mk hy180
                                  clear hy180
                                  have HC55 := Aside0.mk H
                                  clear H
                                  have hcz56_0 : wc.cell? ⟨gb177, 0, none⟩ = some (.bool ((rd_T27 l2 x79_3).f0)) := (blk_cell BK177.out 0).trans rfl
                                  have hcz56_1 : wc.cell? ⟨gb177, 1, none⟩ = some (.slice A176_1 ((rd_T27 l2 x79_3).f1).length c176_1) := (blk_cell BK177.out 1).trans rfl
                                  have hcz56_2 : wc.cell? ⟨gb177, 2, none⟩ = some (.slice A176_2 ((rd_T27 l2 x79_3).f2).length c176_2) := (blk_cell BK177.out 2).trans rfl
                                  have hfz56_0 := blk_frozen BK177.out 0
                                  have hfz56_1 := blk_frozen BK177.out 1
                                  have hfz56_2 := blk_frozen BK177.out 2
                                  go_upto_if 118 with (first | ((with_reducible refine gate_dst (N := 114) rfl ?_); (try (refine gate_guard (by rfl) ?_; dsimp only)); refine Kd.S_lit (Kd.slice 5 (Kd.int .u8)) _ 32 ?hg (N := 114) ?hd (xs := ([] : List (List Int))) (inner := []) (ok := fun _ => True) (okp := fun _ => True) ?hr ?hp (fun _ hk => hk) trivial (Below.refl _ _) (Nat.le_refl _) (by simp) ?_; (case hd => rfl); (case hg => rfl); (case hr => first | (go_simp; done) | (go_simp; rfl)); (case hp => exact (Reps.none _ _)); intro v181 w57 ho58 hb hg_ hnew_; clear hg_ hnew_; (first | rw [← Ny180.out] at ho58 | (simp only [Int.reduceToNat] at ho58; rw [← Ny180.out] at ho58)); have n0_ := Aside0.mk (Kd.R_elder' (by (with_reducible repeat (first | apply Kd.R_alloc | apply Kd.R_drewN | apply Kd.R_drew)); exact HO_9.out) (Kd.S_base ho58) hb); have n1_ := Aside0.mk (Kd.S_lower ho58 (below_size (by repeat (first | (with_reducible first | exact HB.out | apply below_alloc | apply pw_below_drewN | apply below_drew1 | refine below_set ?_ GE177.out) | exact HB.out)))); have n2_ := Aside0.mk (blk_below (g := gb177) (o := .cells #[.bool ((rd_T27 l2 x79_3).f0), .slice A176_1 ((rd_T27 l2 x79_3).f1).length c176_1, .slice A176_2 ((rd_T27 l2 x79_3).f2).length c176_2] 27 (0, 0)) (by (with_reducible repeat (first | refine blk_drewN ?_ _ | refine blk_drew ?_ | refine blk_alloc ?_ _)); exact BK177.out) hb); have n3_ := Aside0.mk (below_step (by repeat (first | (with_reducible first | exact HB.out | apply below_alloc | apply pw_below_drewN | apply below_drew1 | refine below_set ?_ GE177.out) | exact HB.out)) hb); clear HO_9; clear BK177; clear HB; have HO_9 := n0_; have HO182 := n1_; have BK177 := n2_; have HB := n3_; clear n0_ n1_ n2_ n3_; clear hb ho58; have hcz59_0 : w57.cell? ⟨gb177, 0, none⟩ = some (.bool ((rd_T27 l2 x79_3).f0)) := (blk_cell BK177.out 0).trans rfl; have hcz59_1 : w57.cell? ⟨gb177, 1, none⟩ = some (.slice A176_1 ((rd_T27 l2 x79_3).f1).length c176_1) := (blk_cell BK177.out 1).trans rfl; have hcz59_2 : w57.cell? ⟨gb177, 2, none⟩ = some (.slice A176_2 ((rd_T27 l2 x79_3).f2).length c176_2) := (blk_cell BK177.out 2).trans rfl; have hfz59_0 := blk_frozen BK177.out 0; have hfz59_1 := blk_frozen BK177.out 1; have hfz59_2 := blk_frozen BK177.out 2))
                                  repeat (go_quiet (first | ((with_reducible refine gate_dst (N := 114) rfl ?_); (try (refine gate_guard (by rfl) ?_; dsimp only)); refine Kd.S_lit (Kd.slice 5 (Kd.int .u8)) _ 32 ?hg (N := 114) ?hd (xs := ([] : List (List Int))) (inner := []) (ok := fun _ => True) (okp := fun _ => True) ?hr ?hp (fun _ hk => hk) trivial (Below.refl _ _) (Nat.le_refl _) (by simp) ?_; (case hd => rfl); (case hg => rfl); (case hr => first | (go_simp; done) | (go_simp; rfl)); (case hp => exact (Reps.none _ _)); intro v181 w57 ho58 hb hg_ hnew_; clear hg_ hnew_; (first | rw [← Ny180.out] at ho58 | (simp only [Int.reduceToNat] at ho58; rw [← Ny180.out] at ho58)); have n0_ := Aside0.mk (Kd.R_elder' (by (with_reducible repeat (first | apply Kd.R_alloc | apply Kd.R_drewN | apply Kd.R_drew)); exact HO_9.out) (Kd.S_base ho58) hb); have n1_ := Aside0.mk (Kd.S_lower ho58 (below_size (by repeat (first | (with_reducible first | exact HB.out | apply below_alloc | apply pw_below_drewN | apply below_drew1 | refine below_set ?_ GE177.out) | exact HB.out)))); have n2_ := Aside0.mk (blk_below (g := gb177) (o := .cells #[.bool ((rd_T27 l2 x79_3).f0), .slice A176_1 ((rd_T27 l2 x79_3).f1).length c176_1, .slice A176_2 ((rd_T27 l2 x79_3).f2).length c176_2] 27 (0, 0)) (by (with_reducible repeat (first | refine blk_drewN ?_ _ | refine blk_drew ?_ | refine blk_alloc ?_ _)); exact BK177.out) hb); have n3_ := Aside0.mk (below_step (by repeat (first | (with_reducible first | exact HB.out | apply below_alloc | apply pw_below_drewN | apply below_drew1 | refine below_set ?_ GE177.out) | exact HB.out)) hb); clear HO_9; clear BK177; clear HB; have HO_9 := n0_; have HO182 := n1_; have BK177 := n2_; have HB := n3_; clear n0_ n1_ n2_ n3_; clear hb ho58; have hcz59_0 : w57.cell? ⟨gb177, 0, none⟩ = some (.bool ((rd_T27 l2 x79_3).f0)) := (blk_cell BK177.out 0).trans rfl; have hcz59_1 : w57.cell? ⟨gb177, 1, none⟩ = some (.slice A176_1 ((rd_T27 l2 x79_3).f1).length c176_1) := (blk_cell BK177.out 1).trans rfl; have hcz59_2 : w57.cell? ⟨gb177, 2, none⟩ = some (.slice A176_2 ((rd_T27 l2 x79_3).f2).length c176_2) := (blk_cell BK177.out 2).trans rfl; have hfz59_0 := blk_frozen BK177.out 0; have hfz59_1 := blk_frozen BK177.out 1; have hfz59_2 := blk_frozen BK177.out 2)); go_upto_if 118 with (first | ((with_reducible refine gate_dst (N := 114) rfl ?_); (try (refine gate_guard (by rfl) ?_; dsimp only)); refine Kd.S_lit (Kd.slice 5 (Kd.int .u8)) _ 32 ?hg (N := 114) ?hd (xs := ([] : List (List Int))) (inner := []) (ok := fun _ => True) (okp := fun _ => True) ?hr ?hp (fun _ hk => hk) trivial (Below.refl _ _) (Nat.le_refl _) (by simp) ?_; (case hd => rfl); (case hg => rfl); (case hr => first | (go_simp; done) | (go_simp; rfl)); (case hp => exact (Reps.none _ _)); intro v181 w57 ho58 hb hg_ hnew_; clear hg_ hnew_; (first | rw [← Ny180.out] at ho58 | (simp only [Int.reduceToNat] at ho58; rw [← Ny180.out] at ho58)); have n0_ := Aside0.mk (Kd.R_elder' (by (with_reducible repeat (first | apply Kd.R_alloc | apply Kd.R_drewN | apply Kd.R_drew)); exact HO_9.out) (Kd.S_base ho58) hb); have n1_ := Aside0.mk (Kd.S_lower ho58 (below_size (by repeat (first | (with_reducible first | exact HB.out | apply below_alloc | apply pw_below_drewN | apply below_drew1 | refine below_set ?_ GE177.out) | exact HB.out)))); have n2_ := Aside0.mk (blk_below (g := gb177) (o := .cells #[.bool ((rd_T27 l2 x79_3).f0), .slice A176_1 ((rd_T27 l2 x79_3).f1).length c176_1, .slice A176_2 ((rd_T27 l2 x79_3).f2).length c176_2] 27 (0, 0)) (by (with_reducible repeat (first | refine blk_drewN ?_ _ | refine blk_drew ?_ | refine blk_alloc ?_ _)); exact BK177.out) hb); have n3_ := Aside0.mk (below_step (by repeat (first | (with_reducible first | exact HB.out | apply below_alloc | apply pw_below_drewN | apply below_drew1 | refine below_set ?_ GE177.out) | exact HB.out)) hb); clear HO_9; clear BK177; clear HB; have HO_9 := n0_; have HO182 := n1_; have BK177 := n2_; have HB := n3_; clear n0_ n1_ n2_ n3_; clear hb ho58; have hcz59_0 : w57.cell? ⟨gb177, 0, none⟩ = some (.bool ((rd_T27 l2 x79_3).f0)) := (blk_cell BK177.out 0).trans rfl; have hcz59_1 : w57.cell? ⟨gb177, 1, none⟩ = some (.slice A176_1 ((rd_T27 l2 x79_3).f1).length c176_1) := (blk_cell BK177.out 1).trans rfl; have hcz59_2 : w57.cell? ⟨gb177, 2, none⟩ = some (.slice A176_2 ((rd_T27 l2 x79_3).f2).length c176_2) := (blk_cell BK177.out 2).trans rfl; have hfz59_0 := blk_frozen BK177.out 0; have hfz59_1 := blk_frozen BK177.out 1; have hfz59_2 := blk_frozen BK177.out 2)))
                                  (try simp only [Act.put, List.setIfInBounds_toArray, List.set_cons_zero, List.set_cons_succ])
                                  go_cut [13] (fun v13 wc => ∃ (kq : Nat) (x13_54 : List (List Int)), Aside0 (laws_FnCache.j4 kq a0 l2 t173 x79_3 x13_54 l2 (l2.length : Int) x79_3 ((rd_T27 l2 x79_3).f0) ((rd_T27 l2 x79_3).f1) ((rd_T27 l2 x79_3).f2) = some r) ∧ Aside0 (kq ≤ kj39) ∧ Aside0 (Kd.R k34 34 wc w.heap.size (fun _ => True) (.slice Ao36 t173.length co36) t173) ∧ Aside0 (Mx w (Kd.slice 5 (Kd.int .u8)) 32 wc w.heap.size (fun _ => True) v13 x13_54) ∧ Aside0 (wc.heap[gb177]? = some (.cells #[.bool ((rd_T27 l2 x79_3).f0), (.slice A176_1 ((rd_T27 l2 x79_3).f1).length c176_1), (.slice A176_2 ((rd_T27 l2 x79_3).f2).length c176_2)] 27 (0, 0))) ∧ Aside0 (Below w.heap.size w wc))
                                  case first =>
                                    have H := HC55.out
                                    clear HC55
                                    by_cases c60 : (((rd_T27 l2 x79_3).f1).length : Int) = 0
                                    · rw [if_pos c60] at H
                                      have c60b0 : ((((rd_T27 l2 x79_3).f1).length : Int) == 0) = true := beq_iff_eq.mpr c60
                                      have c60b1 : ((((rd_T27 l2 x79_3).f1).length : Int) != 0) = false := bne_eq_false_iff_eq.mpr c60
                                      clear c60
                                      (first | rw [c60b0] | (simp only [i64_w, i32_w]; rw [c60b0]) | skip)
                                      replace H := Option.bind_eq_some_iff.mp H
                                      obtain ⟨t183, A610, H⟩ := H
                                      replace H : (laws_FnCache.j4 kj39 a0 l2 t173 x79_3 t183 l2 (l2.length : Int) x79_3 ((rd_T27 l2 x79_3).f0) ((rd_T27 l2 x79_3).f1) ((rd_T27 l2 x79_3).f2)) = some r := H
                                      have A61 := Aside0.mk A610
                                      clear A610
                                      have H' := Aside0.mk H
                                      clear H
                                      go_wp2_with (first | (go_at_call 8; (with_reducible refine (spec_Unit.calls kj39 a0 t183 _ A61.out).mono ?_); rintro e w62 ⟨v184, rfl, ho0, hb⟩; have n0_ := Aside0.mk (Kd.R_elder' (by (with_reducible repeat (first | apply Kd.R_alloc | apply Kd.R_drewN | apply Kd.R_drew)); exact HO_9.out) (Kd.S_base ho0) hb); have n1_ := Aside0.mk (Kd.S_elder' (by (with_reducible repeat (first | apply Kd.S_alloc | apply Kd.S_drewN | apply Kd.S_drew)); exact HO182.out) (Kd.S_base ho0) hb); have n2_ := Aside0.mk (Kd.S_lower (Kd.S_new' ho0 (Kd.S_lt (by (with_reducible repeat (first | apply Kd.S_alloc | apply Kd.S_drewN | apply Kd.S_drew)); exact HO182.out))) (below_size (by repeat (first | (with_reducible first | exact HB.out | apply below_alloc | apply pw_below_drewN | apply below_drew1 | refine below_set ?_ GE177.out) | exact HB.out)))); have n3_ := Aside0.mk (blk_below (g := gb177) (o := .cells #[.bool ((rd_T27 l2 x79_3).f0), .slice A176_1 ((rd_T27 l2 x79_3).f1).length c176_1, .slice A176_2 ((rd_T27 l2 x79_3).f2).length c176_2] 27 (0, 0)) (by (with_reducible repeat (first | refine blk_drewN ?_ _ | refine blk_drew ?_ | refine blk_alloc ?_ _)); exact BK177.out) hb); have n4_ := Aside0.mk (below_step (by repeat (first | (with_reducible first | exact HB.out | apply below_alloc | apply pw_below_drewN | apply below_drew1 | refine below_set ?_ GE177.out) | exact HB.out)) hb); clear HO_9; clear HO182; clear BK177; clear HB; have HO_9 := n0_; have HO182 := n1_; have HO185 := n2_; have BK177 := n3_; have HB := n4_; clear n0_ n1_ n2_ n3_ n4_; (try clear hb); (try clear hb2); (try clear hk); (try clear hi); (try clear ho0)))
                                      repeat (go_quiet (first | (go_at_call 8; (with_reducible refine (spec_Unit.calls kj39 a0 t183 _ A61.out).mono ?_); rintro e w62 ⟨v184, rfl, ho0, hb⟩; have n0_ := Aside0.mk (Kd.R_elder' (by (with_reducible repeat (first | apply Kd.R_alloc | apply Kd.R_drewN | apply Kd.R_drew)); exact HO_9.out) (Kd.S_base ho0) hb); have n1_ := Aside0.mk (Kd.S_elder' (by (with_reducible repeat (first | apply Kd.S_alloc | apply Kd.S_drewN | apply Kd.S_drew)); exact HO182.out) (Kd.S_base ho0) hb); have n2_ := Aside0.mk (Kd.S_lower (Kd.S_new' ho0 (Kd.S_lt (by (with_reducible repeat (first | apply Kd.S_alloc | apply Kd.S_drewN | apply Kd.S_drew)); exact HO182.out))) (below_size (by repeat (first | (with_reducible first | exact HB.out | apply below_alloc | apply pw_below_drewN | apply below_drew1 | refine below_set ?_ GE177.out) | exact HB.out)))); have n3_ := Aside0.mk (blk_below (g := gb177) (o := .cells #[.bool ((rd_T27 l2 x79_3).f0), .slice A176_1 ((rd_T27 l2 x79_3).f1).length c176_1, .slice A176_2 ((rd_T27 l2 x79_3).f2).length c176_2] 27 (0, 0)) (by (with_reducible repeat (first | refine blk_drewN ?_ _ | refine blk_drew ?_ | refine blk_alloc ?_ _)); exact BK177.out) hb); have n4_ := Aside0.mk (below_step (by repeat (first | (with_reducible first | exact HB.out | apply below_alloc | apply pw_below_drewN | apply below_drew1 | refine below_set ?_ GE177.out) | exact HB.out)) hb); clear HO_9; clear HO182; clear BK177; clear HB; have HO_9 := n0_; have HO182 := n1_; have HO185 := n2_; have BK177 := n3_; have HB := n4_; clear n0_ n1_ n2_ n3_ n4_; (try clear hb); (try clear hb2); (try clear hk); (try clear hi); (try clear ho0))); try go_wp2_with (first | (go_at_call 8; (with_reducible refine (spec_Unit.calls kj39 a0 t183 _ A61.out).mono ?_); rintro e w62 ⟨v184, rfl, ho0, hb⟩; have n0_ := Aside0.mk (Kd.R_elder' (by (with_reducible repeat (first | apply Kd.R_alloc | apply Kd.R_drewN | apply Kd.R_drew)); exact HO_9.out) (Kd.S_base ho0) hb); have n1_ := Aside0.mk (Kd.S_elder' (by (with_reducible repeat (first | apply Kd.S_alloc | apply Kd.S_drewN | apply Kd.S_drew)); exact HO182.out) (Kd.S_base ho0) hb); have n2_ := Aside0.mk (Kd.S_lower (Kd.S_new' ho0 (Kd.S_lt (by (with_reducible repeat (first | apply Kd.S_alloc | apply Kd.S_drewN | apply Kd.S_drew)); exact HO182.out))) (below_size (by repeat (first | (with_reducible first | exact HB.out | apply below_alloc | apply pw_below_drewN | apply below_drew1 | refine below_set ?_ GE177.out) | exact HB.out)))); have n3_ := Aside0.mk (blk_below (g := gb177) (o := .cells #[.bool ((rd_T27 l2 x79_3).f0), .slice A176_1 ((rd_T27 l2 x79_3).f1).length c176_1, .slice A176_2 ((rd_T27 l2 x79_3).f2).length c176_2] 27 (0, 0)) (by (with_reducible repeat (first | refine blk_drewN ?_ _ | refine blk_drew ?_ | refine blk_alloc ?_ _)); exact BK177.out) hb); have n4_ := Aside0.mk (below_step (by repeat (first | (with_reducible first | exact HB.out | apply below_alloc | apply pw_below_drewN | apply below_drew1 | refine below_set ?_ GE177.out) | exact HB.out)) hb); clear HO_9; clear HO182; clear BK177; clear HB; have HO_9 := n0_; have HO182 := n1_; have HO185 := n2_; have BK177 := n3_; have HB := n4_; clear n0_ n1_ n2_ n3_ n4_; (try clear hb); (try clear hb2); (try clear hk); (try clear hi); (try clear ho0))))
                                      go_meet
                                      case rel => exact ⟨_, (t183), H', ⟨by have := HJ5.out; have := HK2.out; have := HK3.out; have := HJ39.out; first | omega | exact Nat.le_refl _⟩, ⟨by (with_reducible repeat (first | apply Kd.R_alloc | apply Kd.R_drewN | apply Kd.R_drew)); exact Kd.R_mono HO_9.out (fun _ hk => trivial)⟩, ⟨by refine Or.inr ?_; (with_reducible repeat (first | apply Kd.S_alloc | apply Kd.S_drewN | apply Kd.S_drew)); exact Kd.S_mono HO185.out (fun _ hk => trivial)⟩, ⟨by (with_reducible repeat (first | refine blk_drewN ?_ _ | refine blk_drew ?_ | refine blk_alloc ?_ _)); exact BK177.out⟩, ⟨by repeat (first | (with_reducible first | exact HB.out | apply below_alloc | apply pw_below_drewN | apply below_drew1 | refine below_set ?_ GE177.out) | exact HB.out)⟩⟩
                                    · rw [if_neg c60] at H
                                      have c60b0 : ((((rd_T27 l2 x79_3).f1).length : Int) == 0) = false := beq_eq_false_iff_ne.mpr c60
                                      have c60b1 : ((((rd_T27 l2 x79_3).f1).length : Int) != 0) = true := bne_iff_ne.mpr c60
                                      have c60b2 : ¬ (((rd_T27 l2 x79_3).f1) = []) := fun h_ => c60 (by rw [h_]; rfl)
                                      (first | rw [c60b0] | (simp only [i64_w, i32_w]; rw [c60b0]) | skip)
                                      have H' := Aside0.mk H
                                      clear H
                                      go_wp2
                                      repeat (go_quiet (fail); try go_wp2)
                                      go_meet
                                      case rel => exact ⟨_, (y180), H', ⟨by have := HJ5.out; have := HK2.out; have := HK3.out; have := HJ39.out; first | omega | exact Nat.le_refl _⟩, ⟨by (with_reducible repeat (first | apply Kd.R_alloc | apply Kd.R_drewN | apply Kd.R_drew)); exact Kd.R_mono HO_9.out (fun _ hk => trivial)⟩, ⟨by refine Or.inr ?_; (with_reducible repeat (first | apply Kd.S_alloc | apply Kd.S_drewN | apply Kd.S_drew)); exact HO182.out⟩, ⟨by (with_reducible repeat (first | refine blk_drewN ?_ _ | refine blk_drew ?_ | refine blk_alloc ?_ _)); exact BK177.out⟩, ⟨by repeat (first | (with_reducible first | exact HB.out | apply below_alloc | apply pw_below_drewN | apply below_drew1 | refine below_set ?_ GE177.out) | exact HB.out)⟩⟩
                                  case rest =>
                                    clear HC55
                                    try clear c1
                                    try clear p1
                                    try clear q1
                                    try clear hx1
                                    try clear qi1
                                    try clear c2
                                    try clear p2
                                    try clear q2
                                    try clear c3
                                    try clear c4
                                    try clear c5
                                    try clear c6
                                    try clear p6
                                    try clear c8
                                    try clear c8b0
                                    try clear c9
                                    try clear c9b0
                                    try clear c10
                                    try clear c10b0
                                    try clear c11
                                    try clear c11b0
                                    try clear c12
                                    try clear c13
                                    try clear c13b0
                                    try clear c14
                                    try clear c14b0
                                    try clear c15
                                    try clear c15b0
                                    try clear c16
                                    try clear p16
                                    try clear q16
                                    try clear hx16
                                    try clear c17
                                    try clear p17
                                    try clear q17
                                    try clear hx17
                                    try clear qi17
                                    try clear c18
                                    try clear c18b0
                                    try clear c18b1
                                    try clear q21
                                    try clear c22
                                    try clear c24
                                    try clear c34
                                    try clear c34b0
                                    try clear c34b1
                                    try clear c34b2
                                    try clear c37
                                    try clear c37b0
                                    try clear c38
                                    try clear c38b0
                                    try clear c39
                                    try clear c39b0
                                    try clear c43
                                    try clear c43b0
                                    try clear c43b1
                                    try clear c44
                                    try clear c44b0
                                    try clear c44b1
                                    try clear c45
                                    try clear c45b0
                                    try clear c45b1
                                    try clear c49
                                    try clear c49b0
                                    try clear c50
                                    try clear c50b0
                                    try clear c51
                                    try clear c51b0
                                    try clear c52
                                    try clear c52b0
                                    try clear c52b1
                                    try clear c52b2
                                    try clear c60
                                    try clear c60b0
                                    try clear c60b1
                                    try clear c60b2
                                    try clear hcz20_0
                                    try clear hcz20_1
                                    try clear hcz20_2
                                    try clear hcz26_0
                                    try clear hcz26_1
                                    try clear hcz26_2
                                    try clear hcz28_0
                                    try clear hcz28_1
                                    try clear hcz28_2
                                    try clear hcz30_0
                                    try clear hcz30_1
                                    try clear hcz30_2
                                    try clear hcz32_0
                                    try clear hcz32_1
                                    try clear hcz32_2
                                    try clear hcz42_0
                                    try clear hcz42_1
                                    try clear hcz42_2
                                    try clear hcz46_0
                                    try clear hcz46_1
                                    try clear hcz46_2
                                    try clear hcz47_0
                                    try clear hcz47_1
                                    try clear hcz47_2
                                    try clear hcz48_0
                                    try clear hcz48_1
                                    try clear hcz48_2
                                    try clear hcz53_0
                                    try clear hcz53_1
                                    try clear hcz53_2
                                    try clear hcz54_0
                                    try clear hcz54_1
                                    try clear hcz54_2
                                    try clear hcz56_0
                                    try clear hcz56_1
                                    try clear hcz56_2
                                    try clear hcz59_0
                                    try clear hcz59_1
                                    try clear hcz59_2
                                    try clear hfz20_0
                                    try clear hfz20_1
                                    try clear hfz20_2
                                    try clear hfz26_0
                                    try clear hfz26_1
                                    try clear hfz26_2
                                    try clear hfz28_0
                                    try clear hfz28_1
                                    try clear hfz28_2
                                    try clear hfz30_0
                                    try clear hfz30_1
                                    try clear hfz30_2
                                    try clear hfz32_0
                                    try clear hfz32_1
                                    try clear hfz32_2
                                    try clear hfz42_0
                                    try clear hfz42_1
                                    try clear hfz42_2
                                    try clear hfz46_0
                                    try clear hfz46_1
                                    try clear hfz46_2
                                    try clear hfz47_0
                                    try clear hfz47_1
                                    try clear hfz47_2
                                    try clear hfz48_0
                                    try clear hfz48_1
                                    try clear hfz48_2
                                    try clear hfz53_0
                                    try clear hfz53_1
                                    try clear hfz53_2
                                    try clear hfz54_0
                                    try clear hfz54_1
                                    try clear hfz54_2
                                    try clear hfz56_0
                                    try clear hfz56_1
                                    try clear hfz56_2
                                    try clear hfz59_0
                                    try clear hfz59_1
                                    try clear hfz59_2
                                    try clear hx169_0
                                    try clear hx169_1
                                    try clear hx169_2
                                    try clear hx176_0
                                    try clear hx176_1
                                    try clear hx176_2
                                    try clear hx178_0
                                    try clear hx179_0
                                    try clear hx179_1
                                    try clear p1
                                    try clear p16
                                    try clear p169
                                    try clear p17
                                    try clear p176
                                    try clear p178
                                    try clear p179
                                    try clear p2
                                    try clear p6
                                    try clear q1
                                    try clear q16
                                    try clear q169
                                    try clear q17
                                    try clear q176
                                    try clear q178
                                    try clear q179
                                    try clear q2
                                    try clear q21
                                    obtain ⟨kq, x13_54, HA, HJ54, HO_9, HO_13, BK177, HB⟩ := hcut
                                    cases kq with
                                    | zero => exact absurd HA.out (by simp [laws_FnCache.j4])
                                    | succ kj54 =>
                                      have H := HA.out
                                      clear HA
                                      simp only [laws_FnCache.j4] at H
                                      by_cases c63 : 0 ≤ x79_3
                                      · rw [if_pos c63] at H
                                        have c63b0 := eq_true c63
                                        have c63b1 : decide (0 ≤ x79_3) = true := decide_eq_true c63
                                        clear c63
                                        by_cases c64 : x79_3 ≤ (l2.length : Int)
                                        · rw [if_pos c64] at H
                                          have c64b0 := eq_true c64
                                          have c64b1 : decide (x79_3 ≤ (l2.length : Int)) = true := decide_eq_true c64
                                          clear c64
                                          obtain ⟨y186, hy186⟩ : ∃ y_ : List (S27), y_ = (l2.take (x79_3 : Int).toNat) := ⟨_, rfl⟩
                                          replace H : (laws_FnCache.l2 kj54 a0 l2 t173 x79_3 x13_54 l2 (l2.length : Int) x79_3 y186 (y186.length : Int) 0 ((rd_T27 l2 x79_3).f0) ((rd_T27 l2 x79_3).f1) ((rd_T27 l2 x79_3).f2)) = some r := by first | (rw [hy186]; with_reducible exact H) | (have H2_ := (Option.bind_some _ _).symm.trans H; rw [hy186]; with_reducible exact H2_) | (have H2_ := (Option.bind_some _ _).symm.trans H; with_reducible exact H2_) | with_reducible exact H | (rw [hy186]; exact H) | exact H
                                          have Ny186 := Aside0.mk hy186
                                          clear hy186
                                          have H' := Aside0.mk H
                                          clear H
                                          have q65 : (x79_3 : Int) ≤ ((l2.length : Int) : Int) := of_decide_eq_true (by first | (with_reducible assumption) | assumption)
                                          obtain ⟨i065, hi065, _, hsz65, _⟩ := info_parts info27
                                          have hroom65 : l2.length ≤ c2 := HC2.out
                                          have hC65 : Kd.C k27 _ (some ad176) l2.length l2 := HR2.out
                                          have hcut65 := cut_to (P := Tryd.prog) 22 27 .i64 Tryd.underlying22 hi065 (some ad176) l2.length c2 x79_3 (of_decide_eq_true (by first | (with_reducible assumption) | assumption)) q65 hroom65
                                          have hr65 := Kd.C_take (m := (x79_3 : Int).toNat) hC65 (by omega)
                                          have hy65 : y186.length = (x79_3 : Int).toNat := (by rw [Ny186.out, List.length_take]; omega)
                                          rw [← Ny186.out] at hr65
                                          rw [← hy65] at hcut65
                                          have HR189 := Aside0.mk hr65
                                          have HC189 := Aside0.mk (show y186.length ≤ c2 from by omega)
                                          clear hr65 hC65 hroom65 hi065 hsz65
                                          have KY65 := Aside0.mk hy65
                                          clear hy65
                                          replace q65 := eq_true q65
                                          go_wp2
                                          repeat (go_quiet (fail); try go_wp2)
                                          go_loopg [13, 125] kj54 (fun kq v13 v125 w' => ∃ (x13_6 : List (List Int)) (x125_6 : Int), v125 = .int .i64 x125_6 ∧ Aside0 (laws_FnCache.l2 kq a0 l2 t173 x79_3 x13_6 l2 (l2.length : Int) x79_3 y186 (y186.length : Int) x125_6 ((rd_T27 l2 x79_3).f0) ((rd_T27 l2 x79_3).f1) ((rd_T27 l2 x79_3).f2) = some r) ∧ Aside0 (kq ≤ kj54) ∧ Aside0 (Kd.R k34 34 w' w.heap.size (fun _ => True) (.slice Ao36 t173.length co36) t173) ∧ Aside0 (Mx w (Kd.slice 5 (Kd.int .u8)) 32 w' w.heap.size (fun _ => True) v13 x13_6) ∧ Aside0 (w'.heap[gb177]? = some (.cells #[.bool ((rd_T27 l2 x79_3).f0), (.slice A176_1 ((rd_T27 l2 x79_3).f1).length c176_1), (.slice A176_2 ((rd_T27 l2 x79_3).f2).length c176_2)] 27 (0, 0))) ∧ Aside0 (Below w.heap.size w w'))
                                          case atStart => exact ⟨(x13_54), (0), (by first | rfl | (simp; done) | (simp [*]; done)), H', ⟨Nat.le_refl _⟩, ⟨by (with_reducible repeat (first | apply Kd.R_alloc | apply Kd.R_drewN | apply Kd.R_drew)); exact HO_9.out⟩, ⟨by (with_reducible repeat (first | apply Mx_alloc | apply Mx_drewN | apply Mx_drew)); exact HO_13.out⟩, ⟨by (with_reducible repeat (first | refine blk_drewN ?_ _ | refine blk_drew ?_ | refine blk_alloc ?_ _)); exact BK177.out⟩, ⟨by repeat (first | (with_reducible first | exact HB.out | apply below_alloc | apply pw_below_drewN | apply below_drew1 | refine below_set ?_ GE177.out) | exact HB.out)⟩⟩
                                          case round =>
                                            try clear H'
                                            try clear c1
                                            try clear p1
                                            try clear q1
                                            try clear hx1
                                            try clear qi1
                                            try clear c2
                                            try clear p2
                                            try clear q2
                                            try clear c3
                                            try clear c4
                                            try clear c5
                                            try clear c6
                                            try clear p6
                                            try clear q6
                                            try clear c8
                                            try clear c8b0
                                            try clear c9
                                            try clear c9b0
                                            try clear c10
                                            try clear c10b0
                                            try clear c11
                                            try clear c11b0
                                            try clear c12
                                            try clear c13
                                            try clear c13b0
                                            try clear c14
                                            try clear c14b0
                                            try clear c15
                                            try clear c15b0
                                            try clear c16
                                            try clear p16
                                            try clear q16
                                            try clear hx16
                                            try clear c17
                                            try clear p17
                                            try clear q17
                                            try clear hx17
                                            try clear qi17
                                            try clear c18
                                            try clear c18b0
                                            try clear c18b1
                                            try clear q21
                                            try clear c22
                                            try clear c24
                                            try clear c34
                                            try clear c34b0
                                            try clear c34b1
                                            try clear c34b2
                                            try clear c37
                                            try clear c37b0
                                            try clear c38
                                            try clear c38b0
                                            try clear c39
                                            try clear c39b0
                                            try clear c43
                                            try clear c43b0
                                            try clear c43b1
                                            try clear c44
                                            try clear c44b0
                                            try clear c44b1
                                            try clear c45
                                            try clear c45b0
                                            try clear c45b1
                                            try clear c49
                                            try clear c49b0
                                            try clear c50
                                            try clear c50b0
                                            try clear c51
                                            try clear c51b0
                                            try clear c52
                                            try clear c52b0
                                            try clear c52b1
                                            try clear c52b2
                                            try clear c60
                                            try clear c60b0
                                            try clear c60b1
                                            try clear c60b2
                                            try clear c63
                                            try clear c63b0
                                            try clear c63b1
                                            try clear c64
                                            try clear c64b0
                                            try clear c64b1
                                            try clear p64
                                            try clear q65
                                            try clear hcz20_0
                                            try clear hcz20_1
                                            try clear hcz20_2
                                            try clear hcz26_0
                                            try clear hcz26_1
                                            try clear hcz26_2
                                            try clear hcz28_0
                                            try clear hcz28_1
                                            try clear hcz28_2
                                            try clear hcz30_0
                                            try clear hcz30_1
                                            try clear hcz30_2
                                            try clear hcz32_0
                                            try clear hcz32_1
                                            try clear hcz32_2
                                            try clear hcz42_0
                                            try clear hcz42_1
                                            try clear hcz42_2
                                            try clear hcz46_0
                                            try clear hcz46_1
                                            try clear hcz46_2
                                            try clear hcz47_0
                                            try clear hcz47_1
                                            try clear hcz47_2
                                            try clear hcz48_0
                                            try clear hcz48_1
                                            try clear hcz48_2
                                            try clear hcz53_0
                                            try clear hcz53_1
                                            try clear hcz53_2
                                            try clear hcz54_0
                                            try clear hcz54_1
                                            try clear hcz54_2
                                            try clear hcz56_0
                                            try clear hcz56_1
                                            try clear hcz56_2
                                            try clear hcz59_0
                                            try clear hcz59_1
                                            try clear hcz59_2
                                            try clear hfz20_0
                                            try clear hfz20_1
                                            try clear hfz20_2
                                            try clear hfz26_0
                                            try clear hfz26_1
                                            try clear hfz26_2
                                            try clear hfz28_0
                                            try clear hfz28_1
                                            try clear hfz28_2
                                            try clear hfz30_0
                                            try clear hfz30_1
                                            try clear hfz30_2
                                            try clear hfz32_0
                                            try clear hfz32_1
                                            try clear hfz32_2
                                            try clear hfz42_0
                                            try clear hfz42_1
                                            try clear hfz42_2
                                            try clear hfz46_0
                                            try clear hfz46_1
                                            try clear hfz46_2
                                            try clear hfz47_0
                                            try clear hfz47_1
                                            try clear hfz47_2
                                            try clear hfz48_0
                                            try clear hfz48_1
                                            try clear hfz48_2
                                            try clear hfz53_0
                                            try clear hfz53_1
                                            try clear hfz53_2
                                            try clear hfz54_0
                                            try clear hfz54_1
                                            try clear hfz54_2
                                            try clear hfz56_0
                                            try clear hfz56_1
                                            try clear hfz56_2
                                            try clear hfz59_0
                                            try clear hfz59_1
                                            try clear hfz59_2
                                            try clear hx169_0
                                            try clear hx169_1
                                            try clear hx169_2
                                            try clear hx176_0
                                            try clear hx176_1
                                            try clear hx176_2
                                            try clear hx178_0
                                            try clear hx179_0
                                            try clear hx179_1
                                            try clear p1
                                            try clear p16
                                            try clear p169
                                            try clear p17
                                            try clear p176
                                            try clear p178
                                            try clear p179
                                            try clear p2
                                            try clear p6
                                            try clear q1
                                            try clear q16
                                            try clear q169
                                            try clear q17
                                            try clear q176
                                            try clear q178
                                            try clear q179
                                            try clear q2
                                            try clear q21
                                            try clear q65
                                            obtain ⟨x13_6, x125_6, rfl, HA, HK6, HO_9, HO_13, BK177, HB⟩ := hrel
                                            cases gk with
                                            | zero => exact absurd HA.out (by simp [laws_FnCache.l2])
                                            | succ k6 =>
                                              have H := HA.out
                                              clear HA
                                              simp only [laws_FnCache.l2] at H
                                              by_cases c66 : x125_6 < (y186.length : Int)
                                              · rw [if_pos c66] at H
                                                have c66b0 : decide (x125_6 < (y186.length : Int)) = true := decide_eq_true c66
                                                clear c66
                                                by_cases c67 : 0 ≤ x125_6
                                                · rw [if_pos c67] at H
                                                  have c67b0 : decide (0 ≤ x125_6) = true := decide_eq_true c67
                                                  clear c67
                                                  by_cases c68 : x125_6 < (y186.length : Int)
                                                  · rw [if_pos c68] at H
                                                    have c68b0 : decide (x125_6 < (y186.length : Int)) = true := decide_eq_true c68
                                                    clear c68
                                                    obtain ⟨bq69, hbq69⟩ : ∃ b_ : Bool, b_ = ((rd_T27 y186 x125_6).f0) := ⟨_, rfl⟩
                                                    replace H : (if bq69 = true then (if (((rd_T27 l2 x79_3).f1).length : Int) > 0 then ((laws_sameNumbers.f k6 ((rd_T27 y186 x125_6).f1) ((rd_T27 l2 x79_3).f1)).bind fun t194 => (if t194 = true then (if 0 < (((rd_T27 y186 x125_6).f2).length : Int) then (if (((rd_T27 y186 x125_6).f2).length : Int) = ((rd_L1 ((rd_T27 y186 x125_6).f2) 0).length : Int) then (laws_FnCache.l2 k6 a0 l2 t173 x79_3 ((rd_T27 y186 x125_6).f2) l2 (l2.length : Int) x79_3 y186 (y186.length : Int) (wrap64 (x125_6 + 1)) ((rd_T27 l2 x79_3).f0) ((rd_T27 l2 x79_3).f1) ((rd_T27 l2 x79_3).f2)) else (laws_FnCache.l2 k6 a0 l2 t173 x79_3 x13_6 l2 (l2.length : Int) x79_3 y186 (y186.length : Int) (wrap64 (x125_6 + 1)) ((rd_T27 l2 x79_3).f0) ((rd_T27 l2 x79_3).f1) ((rd_T27 l2 x79_3).f2))) else (none)) else (laws_FnCache.l2 k6 a0 l2 t173 x79_3 x13_6 l2 (l2.length : Int) x79_3 y186 (y186.length : Int) (wrap64 (x125_6 + 1)) ((rd_T27 l2 x79_3).f0) ((rd_T27 l2 x79_3).f1) ((rd_T27 l2 x79_3).f2)))) else (laws_FnCache.l2 k6 a0 l2 t173 x79_3 x13_6 l2 (l2.length : Int) x79_3 y186 (y186.length : Int) (wrap64 (x125_6 + 1)) ((rd_T27 l2 x79_3).f0) ((rd_T27 l2 x79_3).f1) ((rd_T27 l2 x79_3).f2))) else (laws_FnCache.l2 k6 a0 l2 t173 x79_3 x13_6 l2 (l2.length : Int) x79_3 y186 (y186.length : Int) (wrap64 (x125_6 + 1)) ((rd_T27 l2 x79_3).f0) ((rd_T27 l2 x79_3).f1) ((rd_T27 l2 x79_3).f2))) = some r := by rw [← hbq69] at H; exact H
                                                    have Nbq69 := Aside0.mk hbq69
                                                    clear hbq69
                                                    by_cases c70 : bq69 = true
                                                    · subst c70
                                                      have H1 : (if (((rd_T27 l2 x79_3).f1).length : Int) > 0 then ((laws_sameNumbers.f k6 ((rd_T27 y186 x125_6).f1) ((rd_T27 l2 x79_3).f1)).bind fun t194 => (if t194 = true then (if 0 < (((rd_T27 y186 x125_6).f2).length : Int) then (if (((rd_T27 y186 x125_6).f2).length : Int) = ((rd_L1 ((rd_T27 y186 x125_6).f2) 0).length : Int) then (laws_FnCache.l2 k6 a0 l2 t173 x79_3 ((rd_T27 y186 x125_6).f2) l2 (l2.length : Int) x79_3 y186 (y186.length : Int) (wrap64 (x125_6 + 1)) ((rd_T27 l2 x79_3).f0) ((rd_T27 l2 x79_3).f1) ((rd_T27 l2 x79_3).f2)) else (laws_FnCache.l2 k6 a0 l2 t173 x79_3 x13_6 l2 (l2.length : Int) x79_3 y186 (y186.length : Int) (wrap64 (x125_6 + 1)) ((rd_T27 l2 x79_3).f0) ((rd_T27 l2 x79_3).f1) ((rd_T27 l2 x79_3).f2))) else (none)) else (laws_FnCache.l2 k6 a0 l2 t173 x79_3 x13_6 l2 (l2.length : Int) x79_3 y186 (y186.length : Int) (wrap64 (x125_6 + 1)) ((rd_T27 l2 x79_3).f0) ((rd_T27 l2 x79_3).f1) ((rd_T27 l2 x79_3).f2)))) else (laws_FnCache.l2 k6 a0 l2 t173 x79_3 x13_6 l2 (l2.length : Int) x79_3 y186 (y186.length : Int) (wrap64 (x125_6 + 1)) ((rd_T27 l2 x79_3).f0) ((rd_T27 l2 x79_3).f1) ((rd_T27 l2 x79_3).f2))) = some r := by rw [if_pos rfl] at H; exact H
                                                      clear H
                                                      have H := H1
                                                      clear H1
                                                      by_cases c71 : (((rd_T27 l2 x79_3).f1).length : Int) > 0
                                                      · rw [if_pos c71] at H
                                                        have c71b0 : decide (0 < (((rd_T27 l2 x79_3).f1).length : Int)) = true := decide_eq_true c71
                                                        have c71b1 : decide (0 < ((rd_T27 l2 x79_3).f1).length) = true := decide_eq_true (by omega)
                                                        clear c71
                                                        replace H := Option.bind_eq_some_iff.mp H
                                                        obtain ⟨t194, A720, H⟩ := H
                                                        replace H : (if t194 = true then (if 0 < (((rd_T27 y186 x125_6).f2).length : Int) then (if (((rd_T27 y186 x125_6).f2).length : Int) = ((rd_L1 ((rd_T27 y186 x125_6).f2) 0).length : Int) then (laws_FnCache.l2 k6 a0 l2 t173 x79_3 ((rd_T27 y186 x125_6).f2) l2 (l2.length : Int) x79_3 y186 (y186.length : Int) (wrap64 (x125_6 + 1)) ((rd_T27 l2 x79_3).f0) ((rd_T27 l2 x79_3).f1) ((rd_T27 l2 x79_3).f2)) else (laws_FnCache.l2 k6 a0 l2 t173 x79_3 x13_6 l2 (l2.length : Int) x79_3 y186 (y186.length : Int) (wrap64 (x125_6 + 1)) ((rd_T27 l2 x79_3).f0) ((rd_T27 l2 x79_3).f1) ((rd_T27 l2 x79_3).f2))) else (none)) else (laws_FnCache.l2 k6 a0 l2 t173 x79_3 x13_6 l2 (l2.length : Int) x79_3 y186 (y186.length : Int) (wrap64 (x125_6 + 1)) ((rd_T27 l2 x79_3).f0) ((rd_T27 l2 x79_3).f1) ((rd_T27 l2 x79_3).f2))) = some r := H
                                                        have A72 := Aside0.mk A720
                                                        clear A720
                                                        by_cases c73 : t194 = true
                                                        · subst c73
                                                          have H1 : (if 0 < (((rd_T27 y186 x125_6).f2).length : Int) then (if (((rd_T27 y186 x125_6).f2).length : Int) = ((rd_L1 ((rd_T27 y186 x125_6).f2) 0).length : Int) then (laws_FnCache.l2 k6 a0 l2 t173 x79_3 ((rd_T27 y186 x125_6).f2) l2 (l2.length : Int) x79_3 y186 (y186.length : Int) (wrap64 (x125_6 + 1)) ((rd_T27 l2 x79_3).f0) ((rd_T27 l2 x79_3).f1) ((rd_T27 l2 x79_3).f2)) else (laws_FnCache.l2 k6 a0 l2 t173 x79_3 x13_6 l2 (l2.length : Int) x79_3 y186 (y186.length : Int) (wrap64 (x125_6 + 1)) ((rd_T27 l2 x79_3).f0) ((rd_T27 l2 x79_3).f1) ((rd_T27 l2 x79_3).f2))) else (none)) = some r := by rw [if_pos rfl] at H; exact H
                                                          clear H
                                                          have H := H1
                                                          clear H1
                                                          by_cases c74 : 0 < (((rd_T27 y186 x125_6).f2).length : Int)
                                                          · rw [if_pos c74] at H
                                                            have c74b0 : decide (0 < (((rd_T27 y186 x125_6).f2).length : Int)) = true := decide_eq_true c74
                                                            have c74b1 : decide (0 < ((rd_T27 y186 x125_6).f2).length) = true := decide_eq_true (by omega)
                                                            clear c74
                                                            by_cases c75 : (((rd_T27 y186 x125_6).f2).length : Int) = ((rd_L1 ((rd_T27 y186 x125_6).f2) 0).length : Int)
                                                            · rw [if_pos c75] at H
                                                              have c75b0 : ((((rd_T27 y186 x125_6).f2).length : Int) == ((rd_L1 ((rd_T27 y186 x125_6).f2) 0).length : Int)) = true := beq_iff_eq.mpr c75
                                                              have c75b1 : ((((rd_T27 y186 x125_6).f2).length : Int) != ((rd_L1 ((rd_T27 y186 x125_6).f2) 0).length : Int)) = false := bne_eq_false_iff_eq.mpr c75
                                                              have c75b2 : (((rd_T27 y186 x125_6).f2).length == (rd_L1 ((rd_T27 y186 x125_6).f2) 0).length) = true := by first | simpa using c75 | (simp at c75 ⊢; omega)
                                                              clear c75
                                                              have H' := Aside0.mk H
                                                              clear H
                                                              have p192 : 0 ≤ (x125_6 : Int) := of_decide_eq_true (by first | (with_reducible assumption) | assumption)
                                                              have q192 : x125_6 < (y186.length : Int) := of_decide_eq_true (by first | (with_reducible assumption) | assumption)
                                                              obtain ⟨ad192, A192_1, c192_1, A192_2, c192_2, e192, hx192_0, hx192_1, hx192_2, hl192_1, hi192_1, hl192_2, hi192_2⟩ := at_T27 HR189.out x125_6 p192 q192
                                                              (try rw [← Nbq69.out] at hx192_0)
                                                              obtain rfl : ad176 = ad192 := (by injection e192)
                                                              replace hx192_0 := (HB.out.cell (World.block_lt_of_cell? w _ hx192_0)).trans hx192_0
                                                              replace hx192_1 := (HB.out.cell (World.block_lt_of_cell? w _ hx192_1)).trans hx192_1
                                                              replace hx192_2 := (HB.out.cell (World.block_lt_of_cell? w _ hx192_2)).trans hx192_2
                                                              have HR192_1 := Aside0.mk hi192_1
                                                              have HC192_1 := Aside0.mk hl192_1
                                                              clear hi192_1 hl192_1
                                                              have HR192_2 := Aside0.mk hi192_2
                                                              have HC192_2 := Aside0.mk hl192_2
                                                              clear hi192_2 hl192_2
                                                              replace p192 := eq_true p192
                                                              replace q192 := eq_true q192
                                                              go_wp2_with (first | ((with_reducible refine gate_dst (N := 15) rfl ?_); (try (refine gate_guard (by rfl) ?_; dsimp only)); refine box_event ?hg (N := 15) ?hd (cs := #[.bool false, .slice none 0 0, .slice none 0 0]) (t := 27) ?hr ?_; (case hd => rfl); (case hg => rfl); (case hr => first | (go_simp; done) | (go_simp; rfl)); intro gb193 hg w77 hbox hb; have n0_ := Aside0.mk (Kd.R_below (by (with_reducible repeat (first | apply Kd.R_alloc | apply Kd.R_drewN | apply Kd.R_drew)); exact HO_9.out) hb); have n1_ := Aside0.mk (Mx_below (by (with_reducible repeat (first | apply Mx_alloc | apply Mx_drewN | apply Mx_drew)); exact HO_13.out) hb); have n2_ := Aside0.mk (blk_below (g := gb177) (o := .cells #[.bool ((rd_T27 l2 x79_3).f0), .slice A176_1 ((rd_T27 l2 x79_3).f1).length c176_1, .slice A176_2 ((rd_T27 l2 x79_3).f2).length c176_2] 27 (0, 0)) (by (with_reducible repeat (first | refine blk_drewN ?_ _ | refine blk_drew ?_ | refine blk_alloc ?_ _)); exact BK177.out) hb); have n3_ := Aside0.mk (below_step (by repeat (first | (with_reducible first | exact HB.out | apply below_alloc | apply pw_below_drewN | apply below_drew1 | refine below_set ?_ GE177.out) | exact HB.out)) hb); have n4_ := Aside0.mk (hbox); have n5_ := Aside0.mk ((by rw [hg]; exact (below_size (by repeat (first | (with_reducible first | exact HB.out | apply below_alloc | apply pw_below_drewN | apply below_drew1 | refine below_set ?_ GE177.out) | exact HB.out))) : w.heap.size ≤ gb193)); have n6_ := Aside0.mk ((by rw [hg]; exact (below_size (by repeat (first | (with_reducible first | exact HB.out | apply below_alloc | apply pw_below_drewN | apply below_drew1 | refine below_set ?_ GE177.out) | exact HB.out))) : w.heap.size ≤ gb193)); have n7_ := Aside0.mk ((by rw [hg]; exact Nat.ne_of_lt (blk_lt (g := gb177) (o := .cells #[.bool ((rd_T27 l2 x79_3).f0), .slice A176_1 ((rd_T27 l2 x79_3).f1).length c176_1, .slice A176_2 ((rd_T27 l2 x79_3).f2).length c176_2] 27 (0, 0)) (by (with_reducible repeat (first | refine blk_drewN ?_ _ | refine blk_drew ?_ | refine blk_alloc ?_ _)); exact BK177.out)) : gb177 ≠ gb193)); have n8_ := Aside0.mk ((by rw [hg]; exact Nat.ne_of_gt (blk_lt (g := gb177) (o := .cells #[.bool ((rd_T27 l2 x79_3).f0), .slice A176_1 ((rd_T27 l2 x79_3).f1).length c176_1, .slice A176_2 ((rd_T27 l2 x79_3).f2).length c176_2] 27 (0, 0)) (by (with_reducible repeat (first | refine blk_drewN ?_ _ | refine blk_drew ?_ | refine blk_alloc ?_ _)); exact BK177.out)) : gb193 ≠ gb177)); clear HO_9; clear HO_13; clear BK177; clear HB; have HO_9 := n0_; have HO_13 := n1_; have BK177 := n2_; have HB := n3_; have BK193 := n4_; have GW193 := n5_; have GE193 := n6_; have NB177_193 := n7_; have NB193_177 := n8_; clear n0_ n1_ n2_ n3_ n4_ n5_ n6_ n7_ n8_; clear hb hbox hg; have hnb78 := NB193_177.out; have hnc78 := NB177_193.out; have hcz79_0 : w77.cell? ⟨gb193, 0, none⟩ = some (.bool false) := (blk_cell BK193.out 0).trans rfl; have hcz79_1 : w77.cell? ⟨gb193, 1, none⟩ = some (.slice none 0 0) := (blk_cell BK193.out 1).trans rfl; have hcz79_2 : w77.cell? ⟨gb193, 2, none⟩ = some (.slice none 0 0) := (blk_cell BK193.out 2).trans rfl; have hfz79_0 := blk_frozen BK193.out 0; have hfz79_1 := blk_frozen BK193.out 1; have hfz79_2 := blk_frozen BK193.out 2; have hcz80_0 : w77.cell? ⟨gb177, 0, none⟩ = some (.bool ((rd_T27 l2 x79_3).f0)) := (blk_cell BK177.out 0).trans rfl; have hcz80_1 : w77.cell? ⟨gb177, 1, none⟩ = some (.slice A176_1 ((rd_T27 l2 x79_3).f1).length c176_1) := (blk_cell BK177.out 1).trans rfl; have hcz80_2 : w77.cell? ⟨gb177, 2, none⟩ = some (.slice A176_2 ((rd_T27 l2 x79_3).f2).length c176_2) := (blk_cell BK177.out 2).trans rfl; have hfz80_0 := blk_frozen BK177.out 0; have hfz80_1 := blk_frozen BK177.out 1; have hfz80_2 := blk_frozen BK177.out 2) | (go_at_call 9; (with_reducible refine (laws_sameNumbers.calls k6 _ _ ((rd_T27 y186 x125_6).f1) _ _ ((rd_T27 l2 x79_3).f1) true _ ?side1 ?side2 ?side3 ?side4 A72.out).mono ?_); (case side1 => exact Kd.C_below HR192_1.out (by repeat (first | (with_reducible first | exact HB.out | apply below_alloc | apply pw_below_drewN | apply below_drew1 | refine below_set ?_ GE177.out | refine below_set ?_ GE193.out) | exact HB.out))); (case side2 => exact HC192_1.out); (case side3 => exact Kd.C_below HR176_1.out (by repeat (first | (with_reducible first | exact HB.out | apply below_alloc | apply pw_below_drewN | apply below_drew1 | refine below_set ?_ GE177.out | refine below_set ?_ GE193.out) | exact HB.out))); (case side4 => exact HC176_1.out); rintro e w' ⟨rfl, ⟨nd, rfl⟩⟩; (try first | exact ⟨rfl, _, World.drewN_drewN _ _ _⟩ | exact ⟨rfl, _, Eq.trans (World.drewN_drewN _ _ _) (congrArg (World.drewN _) (Nat.add_assoc _ _ _))⟩); have p195 : 0 ≤ (0 : Int) := (by omega); have q195 : 0 < (((rd_T27 y186 x125_6).f2).length : Int) := of_decide_eq_true (by first | (with_reducible assumption) | assumption); obtain ⟨ad195, A195_0, c195_0, e195, hx195_0, hl195_0, hi195_0⟩ := at_L1 HR192_2.out 0 p195 q195; cases e195; have qi195 : (0 < ((rd_T27 y186 x125_6).f2).length) = True := eq_true (by omega); (try rw [show ((0 : Int)).toNat = 0 from rfl] at hx195_0); (try rw [Addr.add_zero'] at hx195_0); have hn195_0 : ad195.block ≠ gb193 := Nat.ne_of_lt (Nat.lt_of_lt_of_le (by have := World.block_lt_of_cell? _ _ hx195_0; first | rwa [add_block] at this | exact this) GW193.out); have hn195_1 : ad195.block ≠ gb193 := Nat.ne_of_lt (Nat.lt_of_lt_of_le (by have := World.block_lt_of_cell? _ _ hx195_0; first | rwa [add_block] at this | exact this) GW193.out); have hn195_2 : ad195.block ≠ gb193 := Nat.ne_of_lt (Nat.lt_of_lt_of_le (by have := World.block_lt_of_cell? _ _ hx195_0; first | rwa [add_block] at this | exact this) GW193.out); replace hx195_0 := (HB.out.cell (World.block_lt_of_cell? w _ hx195_0)).trans hx195_0; have HR195_0 := Aside0.mk hi195_0; have HC195_0 := Aside0.mk hl195_0; clear hi195_0 hl195_0; replace hx195_0 := (cell_far (p := ⟨gb193, 0, none⟩) (by first | (rw [add_block]; exact hn195_0) | (show (Addr.add _ _).block ≠ _; rw [add_block]; exact hn195_0) | exact hn195_0) (.bool true)).trans hx195_0; replace hx195_0 := (cell_far (p := ⟨gb193, 1, none⟩) (by first | (rw [add_block]; exact hn195_1) | (show (Addr.add _ _).block ≠ _; rw [add_block]; exact hn195_1) | exact hn195_1) (.slice A192_1 ((rd_T27 y186 x125_6).f1).length c192_1)).trans hx195_0; replace hx195_0 := (cell_far (p := ⟨gb193, 2, none⟩) (by first | (rw [add_block]; exact hn195_2) | (show (Addr.add _ _).block ≠ _; rw [add_block]; exact hn195_2) | exact hn195_2) (.slice (some ad195) ((rd_T27 y186 x125_6).f2).length c192_2)).trans hx195_0; (try have hy195_0 := fun (n_ : Nat) => (show (((((w77.drewN n_).setCell ⟨gb193, 0, none⟩ (.bool true)).setCell ⟨gb193, 1, none⟩ (.slice A192_1 ((rd_T27 y186 x125_6).f1).length c192_1)).setCell ⟨gb193, 2, none⟩ (.slice (some ad195) ((rd_T27 y186 x125_6).f2).length c192_2))).cell? _ = some _ from hx195_0)); clear hn195_0; clear hn195_1; clear hn195_2; replace p195 := eq_true p195; replace q195 := eq_true q195) )
                                                              repeat (go_quiet (first | ((with_reducible refine gate_dst (N := 15) rfl ?_); (try (refine gate_guard (by rfl) ?_; dsimp only)); refine box_event ?hg (N := 15) ?hd (cs := #[.bool false, .slice none 0 0, .slice none 0 0]) (t := 27) ?hr ?_; (case hd => rfl); (case hg => rfl); (case hr => first | (go_simp; done) | (go_simp; rfl)); intro gb193 hg w77 hbox hb; have n0_ := Aside0.mk (Kd.R_below (by (with_reducible repeat (first | apply Kd.R_alloc | apply Kd.R_drewN | apply Kd.R_drew)); exact HO_9.out) hb); have n1_ := Aside0.mk (Mx_below (by (with_reducible repeat (first | apply Mx_alloc | apply Mx_drewN | apply Mx_drew)); exact HO_13.out) hb); have n2_ := Aside0.mk (blk_below (g := gb177) (o := .cells #[.bool ((rd_T27 l2 x79_3).f0), .slice A176_1 ((rd_T27 l2 x79_3).f1).length c176_1, .slice A176_2 ((rd_T27 l2 x79_3).f2).length c176_2] 27 (0, 0)) (by (with_reducible repeat (first | refine blk_drewN ?_ _ | refine blk_drew ?_ | refine blk_alloc ?_ _)); exact BK177.out) hb); have n3_ := Aside0.mk (below_step (by repeat (first | (with_reducible first | exact HB.out | apply below_alloc | apply pw_below_drewN | apply below_drew1 | refine below_set ?_ GE177.out) | exact HB.out)) hb); have n4_ := Aside0.mk (hbox); have n5_ := Aside0.mk ((by rw [hg]; exact (below_size (by repeat (first | (with_reducible first | exact HB.out | apply below_alloc | apply pw_below_drewN | apply below_drew1 | refine below_set ?_ GE177.out) | exact HB.out))) : w.heap.size ≤ gb193)); have n6_ := Aside0.mk ((by rw [hg]; exact (below_size (by repeat (first | (with_reducible first | exact HB.out | apply below_alloc | apply pw_below_drewN | apply below_drew1 | refine below_set ?_ GE177.out) | exact HB.out))) : w.heap.size ≤ gb193)); have n7_ := Aside0.mk ((by rw [hg]; exact Nat.ne_of_lt (blk_lt (g := gb177) (o := .cells #[.bool ((rd_T27 l2 x79_3).f0), .slice A176_1 ((rd_T27 l2 x79_3).f1).length c176_1, .slice A176_2 ((rd_T27 l2 x79_3).f2).length c176_2] 27 (0, 0)) (by (with_reducible repeat (first | refine blk_drewN ?_ _ | refine blk_drew ?_ | refine blk_alloc ?_ _)); exact BK177.out)) : gb177 ≠ gb193)); have n8_ := Aside0.mk ((by rw [hg]; exact Nat.ne_of_gt (blk_lt (g := gb177) (o := .cells #[.bool ((rd_T27 l2 x79_3).f0), .slice A176_1 ((rd_T27 l2 x79_3).f1).length c176_1, .slice A176_2 ((rd_T27 l2 x79_3).f2).length c176_2] 27 (0, 0)) (by (with_reducible repeat (first | refine blk_drewN ?_ _ | refine blk_drew ?_ | refine blk_alloc ?_ _)); exact BK177.out)) : gb193 ≠ gb177)); clear HO_9; clear HO_13; clear BK177; clear HB; have HO_9 := n0_; have HO_13 := n1_; have BK177 := n2_; have HB := n3_; have BK193 := n4_; have GW193 := n5_; have GE193 := n6_; have NB177_193 := n7_; have NB193_177 := n8_; clear n0_ n1_ n2_ n3_ n4_ n5_ n6_ n7_ n8_; clear hb hbox hg; have hnb78 := NB193_177.out; have hnc78 := NB177_193.out; have hcz79_0 : w77.cell? ⟨gb193, 0, none⟩ = some (.bool false) := (blk_cell BK193.out 0).trans rfl; have hcz79_1 : w77.cell? ⟨gb193, 1, none⟩ = some (.slice none 0 0) := (blk_cell BK193.out 1).trans rfl; have hcz79_2 : w77.cell? ⟨gb193, 2, none⟩ = some (.slice none 0 0) := (blk_cell BK193.out 2).trans rfl; have hfz79_0 := blk_frozen BK193.out 0; have hfz79_1 := blk_frozen BK193.out 1; have hfz79_2 := blk_frozen BK193.out 2; have hcz80_0 : w77.cell? ⟨gb177, 0, none⟩ = some (.bool ((rd_T27 l2 x79_3).f0)) := (blk_cell BK177.out 0).trans rfl; have hcz80_1 : w77.cell? ⟨gb177, 1, none⟩ = some (.slice A176_1 ((rd_T27 l2 x79_3).f1).length c176_1) := (blk_cell BK177.out 1).trans rfl; have hcz80_2 : w77.cell? ⟨gb177, 2, none⟩ = some (.slice A176_2 ((rd_T27 l2 x79_3).f2).length c176_2) := (blk_cell BK177.out 2).trans rfl; have hfz80_0 := blk_frozen BK177.out 0; have hfz80_1 := blk_frozen BK177.out 1; have hfz80_2 := blk_frozen BK177.out 2) | (go_at_call 9; (with_reducible refine (laws_sameNumbers.calls k6 _ _ ((rd_T27 y186 x125_6).f1) _ _ ((rd_T27 l2 x79_3).f1) true _ ?side1 ?side2 ?side3 ?side4 A72.out).mono ?_); (case side1 => exact Kd.C_below HR192_1.out (by repeat (first | (with_reducible first | exact HB.out | apply below_alloc | apply pw_below_drewN | apply below_drew1 | refine below_set ?_ GE177.out | refine below_set ?_ GE193.out) | exact HB.out))); (case side2 => exact HC192_1.out); (case side3 => exact Kd.C_below HR176_1.out (by repeat (first | (with_reducible first | exact HB.out | apply below_alloc | apply pw_below_drewN | apply below_drew1 | refine below_set ?_ GE177.out | refine below_set ?_ GE193.out) | exact HB.out))); (case side4 => exact HC176_1.out); rintro e w' ⟨rfl, ⟨nd, rfl⟩⟩; (try first | exact ⟨rfl, _, World.drewN_drewN _ _ _⟩ | exact ⟨rfl, _, Eq.trans (World.drewN_drewN _ _ _) (congrArg (World.drewN _) (Nat.add_assoc _ _ _))⟩); have p195 : 0 ≤ (0 : Int) := (by omega); have q195 : 0 < (((rd_T27 y186 x125_6).f2).length : Int) := of_decide_eq_true (by first | (with_reducible assumption) | assumption); obtain ⟨ad195, A195_0, c195_0, e195, hx195_0, hl195_0, hi195_0⟩ := at_L1 HR192_2.out 0 p195 q195; cases e195; have qi195 : (0 < ((rd_T27 y186 x125_6).f2).length) = True := eq_true (by omega); (try rw [show ((0 : Int)).toNat = 0 from rfl] at hx195_0); (try rw [Addr.add_zero'] at hx195_0); have hn195_0 : ad195.block ≠ gb193 := Nat.ne_of_lt (Nat.lt_of_lt_of_le (by have := World.block_lt_of_cell? _ _ hx195_0; first | rwa [add_block] at this | exact this) GW193.out); have hn195_1 : ad195.block ≠ gb193 := Nat.ne_of_lt (Nat.lt_of_lt_of_le (by have := World.block_lt_of_cell? _ _ hx195_0; first | rwa [add_block] at this | exact this) GW193.out); have hn195_2 : ad195.block ≠ gb193 := Nat.ne_of_lt (Nat.lt_of_lt_of_le (by have := World.block_lt_of_cell? _ _ hx195_0; first | rwa [add_block] at this | exact this) GW193.out); replace hx195_0 := (HB.out.cell (World.block_lt_of_cell? w _ hx195_0)).trans hx195_0; have HR195_0 := Aside0.mk hi195_0; have HC195_0 := Aside0.mk hl195_0; clear hi195_0 hl195_0; replace hx195_0 := (cell_far (p := ⟨gb193, 0, none⟩) (by first | (rw [add_block]; exact hn195_0) | (show (Addr.add _ _).block ≠ _; rw [add_block]; exact hn195_0) | exact hn195_0) (.bool true)).trans hx195_0; replace hx195_0 := (cell_far (p := ⟨gb193, 1, none⟩) (by first | (rw [add_block]; exact hn195_1) | (show (Addr.add _ _).block ≠ _; rw [add_block]; exact hn195_1) | exact hn195_1) (.slice A192_1 ((rd_T27 y186 x125_6).f1).length c192_1)).trans hx195_0; replace hx195_0 := (cell_far (p := ⟨gb193, 2, none⟩) (by first | (rw [add_block]; exact hn195_2) | (show (Addr.add _ _).block ≠ _; rw [add_block]; exact hn195_2) | exact hn195_2) (.slice (some ad195) ((rd_T27 y186 x125_6).f2).length c192_2)).trans hx195_0; (try have hy195_0 := fun (n_ : Nat) => (show (((((w77.drewN n_).setCell ⟨gb193, 0, none⟩ (.bool true)).setCell ⟨gb193, 1, none⟩ (.slice A192_1 ((rd_T27 y186 x125_6).f1).length c192_1)).setCell ⟨gb193, 2, none⟩ (.slice (some ad195) ((rd_T27 y186 x125_6).f2).length c192_2))).cell? _ = some _ from hx195_0)); clear hn195_0; clear hn195_1; clear hn195_2; replace p195 := eq_true p195; replace q195 := eq_true q195) ); try go_wp2_with (first | ((with_reducible refine gate_dst (N := 15) rfl ?_); (try (refine gate_guard (by rfl) ?_; dsimp only)); refine box_event ?hg (N := 15) ?hd (cs := #[.bool false, .slice none 0 0, .slice none 0 0]) (t := 27) ?hr ?_; (case hd => rfl); (case hg => rfl); (case hr => first | (go_simp; done) | (go_simp; rfl)); intro gb193 hg w77 hbox hb; have n0_ := Aside0.mk (Kd.R_below (by (with_reducible repeat (first | apply Kd.R_alloc | apply Kd.R_drewN | apply Kd.R_drew)); exact HO_9.out) hb); have n1_ := Aside0.mk (Mx_below (by (with_reducible repeat (first | apply Mx_alloc | apply Mx_drewN | apply Mx_drew)); exact HO_13.out) hb); have n2_ := Aside0.mk (blk_below (g := gb177) (o := .cells #[.bool ((rd_T27 l2 x79_3).f0), .slice A176_1 ((rd_T27 l2 x79_3).f1).length c176_1, .slice A176_2 ((rd_T27 l2 x79_3).f2).length c176_2] 27 (0, 0)) (by (with_reducible repeat (first | refine blk_drewN ?_ _ | refine blk_drew ?_ | refine blk_alloc ?_ _)); exact BK177.out) hb); have n3_ := Aside0.mk (below_step (by repeat (first | (with_reducible first | exact HB.out | apply below_alloc | apply pw_below_drewN | apply below_drew1 | refine below_set ?_ GE177.out) | exact HB.out)) hb); have n4_ := Aside0.mk (hbox); have n5_ := Aside0.mk ((by rw [hg]; exact (below_size (by repeat (first | (with_reducible first | exact HB.out | apply below_alloc | apply pw_below_drewN | apply below_drew1 | refine below_set ?_ GE177.out) | exact HB.out))) : w.heap.size ≤ gb193)); have n6_ := Aside0.mk ((by rw [hg]; exact (below_size (by repeat (first | (with_reducible first | exact HB.out | apply below_alloc | apply pw_below_drewN | apply below_drew1 | refine below_set ?_ GE177.out) | exact HB.out))) : w.heap.size ≤ gb193)); have n7_ := Aside0.mk ((by rw [hg]; exact Nat.ne_of_lt (blk_lt (g := gb177) (o := .cells #[.bool ((rd_T27 l2 x79_3).f0), .slice A176_1 ((rd_T27 l2 x79_3).f1).length c176_1, .slice A176_2 ((rd_T27 l2 x79_3).f2).length c176_2] 27 (0, 0)) (by (with_reducible repeat (first | refine blk_drewN ?_ _ | refine blk_drew ?_ | refine blk_alloc ?_ _)); exact BK177.out)) : gb177 ≠ gb193)); have n8_ := Aside0.mk ((by rw [hg]; exact Nat.ne_of_gt (blk_lt (g := gb177) (o := .cells #[.bool ((rd_T27 l2 x79_3).f0), .slice A176_1 ((rd_T27 l2 x79_3).f1).length c176_1, .slice A176_2 ((rd_T27 l2 x79_3).f2).length c176_2] 27 (0, 0)) (by (with_reducible repeat (first | refine blk_drewN ?_ _ | refine blk_drew ?_ | refine blk_alloc ?_ _)); exact BK177.out)) : gb193 ≠ gb177)); clear HO_9; clear HO_13; clear BK177; clear HB; have HO_9 := n0_; have HO_13 := n1_; have BK177 := n2_; have HB := n3_; have BK193 := n4_; have GW193 := n5_; have GE193 := n6_; have NB177_193 := n7_; have NB193_177 := n8_; clear n0_ n1_ n2_ n3_ n4_ n5_ n6_ n7_ n8_; clear hb hbox hg; have hnb78 := NB193_177.out; have hnc78 := NB177_193.out; have hcz79_0 : w77.cell? ⟨gb193, 0, none⟩ = some (.bool false) := (blk_cell BK193.out 0).trans rfl; have hcz79_1 : w77.cell? ⟨gb193, 1, none⟩ = some (.slice none 0 0) := (blk_cell BK193.out 1).trans rfl; have hcz79_2 : w77.cell? ⟨gb193, 2, none⟩ = some (.slice none 0 0) := (blk_cell BK193.out 2).trans rfl; have hfz79_0 := blk_frozen BK193.out 0; have hfz79_1 := blk_frozen BK193.out 1; have hfz79_2 := blk_frozen BK193.out 2; have hcz80_0 : w77.cell? ⟨gb177, 0, none⟩ = some (.bool ((rd_T27 l2 x79_3).f0)) := (blk_cell BK177.out 0).trans rfl; have hcz80_1 : w77.cell? ⟨gb177, 1, none⟩ = some (.slice A176_1 ((rd_T27 l2 x79_3).f1).length c176_1) := (blk_cell BK177.out 1).trans rfl; have hcz80_2 : w77.cell? ⟨gb177, 2, none⟩ = some (.slice A176_2 ((rd_T27 l2 x79_3).f2).length c176_2) := (blk_cell BK177.out 2).trans rfl; have hfz80_0 := blk_frozen BK177.out 0; have hfz80_1 := blk_frozen BK177.out 1; have hfz80_2 := blk_frozen BK177.out 2) | (go_at_call 9; (with_reducible refine (laws_sameNumbers.calls k6 _ _ ((rd_T27 y186 x125_6).f1) _ _ ((rd_T27 l2 x79_3).f1) true _ ?side1 ?side2 ?side3 ?side4 A72.out).mono ?_); (case side1 => exact Kd.C_below HR192_1.out (by repeat (first | (with_reducible first | exact HB.out | apply below_alloc | apply pw_below_drewN | apply below_drew1 | refine below_set ?_ GE177.out | refine below_set ?_ GE193.out) | exact HB.out))); (case side2 => exact HC192_1.out); (case side3 => exact Kd.C_below HR176_1.out (by repeat (first | (with_reducible first | exact HB.out | apply below_alloc | apply pw_below_drewN | apply below_drew1 | refine below_set ?_ GE177.out | refine below_set ?_ GE193.out) | exact HB.out))); (case side4 => exact HC176_1.out); rintro e w' ⟨rfl, ⟨nd, rfl⟩⟩; (try first | exact ⟨rfl, _, World.drewN_drewN _ _ _⟩ | exact ⟨rfl, _, Eq.trans (World.drewN_drewN _ _ _) (congrArg (World.drewN _) (Nat.add_assoc _ _ _))⟩); have p195 : 0 ≤ (0 : Int) := (by omega); have q195 : 0 < (((rd_T27 y186 x125_6).f2).length : Int) := of_decide_eq_true (by first | (with_reducible assumption) | assumption); obtain ⟨ad195, A195_0, c195_0, e195, hx195_0, hl195_0, hi195_0⟩ := at_L1 HR192_2.out 0 p195 q195; cases e195; have qi195 : (0 < ((rd_T27 y186 x125_6).f2).length) = True := eq_true (by omega); (try rw [show ((0 : Int)).toNat = 0 from rfl] at hx195_0); (try rw [Addr.add_zero'] at hx195_0); have hn195_0 : ad195.block ≠ gb193 := Nat.ne_of_lt (Nat.lt_of_lt_of_le (by have := World.block_lt_of_cell? _ _ hx195_0; first | rwa [add_block] at this | exact this) GW193.out); have hn195_1 : ad195.block ≠ gb193 := Nat.ne_of_lt (Nat.lt_of_lt_of_le (by have := World.block_lt_of_cell? _ _ hx195_0; first | rwa [add_block] at this | exact this) GW193.out); have hn195_2 : ad195.block ≠ gb193 := Nat.ne_of_lt (Nat.lt_of_lt_of_le (by have := World.block_lt_of_cell? _ _ hx195_0; first | rwa [add_block] at this | exact this) GW193.out); replace hx195_0 := (HB.out.cell (World.block_lt_of_cell? w _ hx195_0)).trans hx195_0; have HR195_0 := Aside0.mk hi195_0; have HC195_0 := Aside0.mk hl195_0; clear hi195_0 hl195_0; replace hx195_0 := (cell_far (p := ⟨gb193, 0, none⟩) (by first | (rw [add_block]; exact hn195_0) | (show (Addr.add _ _).block ≠ _; rw [add_block]; exact hn195_0) | exact hn195_0) (.bool true)).trans hx195_0; replace hx195_0 := (cell_far (p := ⟨gb193, 1, none⟩) (by first | (rw [add_block]; exact hn195_1) | (show (Addr.add _ _).block ≠ _; rw [add_block]; exact hn195_1) | exact hn195_1) (.slice A192_1 ((rd_T27 y186 x125_6).f1).length c192_1)).trans hx195_0; replace hx195_0 := (cell_far (p := ⟨gb193, 2, none⟩) (by first | (rw [add_block]; exact hn195_2) | (show (Addr.add _ _).block ≠ _; rw [add_block]; exact hn195_2) | exact hn195_2) (.slice (some ad195) ((rd_T27 y186 x125_6).f2).length c192_2)).trans hx195_0; (try have hy195_0 := fun (n_ : Nat) => (show (((((w77.drewN n_).setCell ⟨gb193, 0, none⟩ (.bool true)).setCell ⟨gb193, 1, none⟩ (.slice A192_1 ((rd_T27 y186 x125_6).f1).length c192_1)).setCell ⟨gb193, 2, none⟩ (.slice (some ad195) ((rd_T27 y186 x125_6).f2).length c192_2))).cell? _ = some _ from hx195_0)); clear hn195_0; clear hn195_1; clear hn195_2; replace p195 := eq_true p195; replace q195 := eq_true q195) ))
                                                              go_roundg k6
                                                              case measure => have := HJ5.out; have := HK2.out; have := HK3.out; have := HJ39.out; have := HJ54.out; have := HK6.out; omega
                                                              case rel => exact ⟨((rd_T27 y186 x125_6).f2), (wrap64 (x125_6 + 1)), (by first | rfl | (simp; done) | (simp [*]; done)), H', ⟨by have := HJ5.out; have := HK2.out; have := HK3.out; have := HJ39.out; have := HJ54.out; have := HK6.out; omega⟩, ⟨by (with_reducible repeat (first | apply Kd.R_alloc | apply Kd.R_drewN | apply Kd.R_drew)); exact Kd.R_mono (Kd.R_far (p := ⟨gb193, 2, none⟩) (Kd.R_far (p := ⟨gb193, 1, none⟩) (Kd.R_far (p := ⟨gb193, 0, none⟩) (Kd.R_types HO_9.out BK193.out (by decide)) (fun _ hk => hk.2) (.bool true)) (fun _ hk => hk.2) (.slice A192_1 ((rd_T27 y186 x125_6).f1).length c192_1)) (fun _ hk => hk.2) (.slice (some ad195) ((rd_T27 y186 x125_6).f2).length c192_2)) (fun _ hk => hk.1)⟩, ⟨.inl ⟨_, _, rfl, HC192_2.out, HR192_2.out⟩⟩, ⟨by (with_reducible repeat (first | refine blk_drewN ?_ _ | refine blk_drew ?_ | refine blk_alloc ?_ _)); refine blk_far ?_ NB177_193.out _; (with_reducible repeat (first | refine blk_drewN ?_ _ | refine blk_drew ?_ | refine blk_alloc ?_ _)); refine blk_far ?_ NB177_193.out _; (with_reducible repeat (first | refine blk_drewN ?_ _ | refine blk_drew ?_ | refine blk_alloc ?_ _)); refine blk_far ?_ NB177_193.out _; (with_reducible repeat (first | refine blk_drewN ?_ _ | refine blk_drew ?_ | refine blk_alloc ?_ _)); exact BK177.out⟩, ⟨by repeat (first | (with_reducible first | exact HB.out | apply below_alloc | apply pw_below_drewN | apply below_drew1 | refine below_set ?_ GE177.out | refine below_set ?_ GE193.out) | exact HB.out)⟩⟩
                                                            · rw [if_neg c75] at H
                                                              have c75b0 : ((((rd_T27 y186 x125_6).f2).length : Int) == ((rd_L1 ((rd_T27 y186 x125_6).f2) 0).length : Int)) = false := beq_eq_false_iff_ne.mpr c75
                                                              have c75b1 : ((((rd_T27 y186 x125_6).f2).length : Int) != ((rd_L1 ((rd_T27 y186 x125_6).f2) 0).length : Int)) = true := bne_iff_ne.mpr c75
                                                              have c75b2 : (((rd_T27 y186 x125_6).f2).length == (rd_L1 ((rd_T27 y186 x125_6).f2) 0).length) = false := by first | simpa using c75 | (simp at c75 ⊢; omega)
                                                              have H' := Aside0.mk H
                                                              clear H
                                                              have p192 : 0 ≤ (x125_6 : Int) := of_decide_eq_true (by first | (with_reducible assumption) | assumption)
                                                              have q192 : x125_6 < (y186.length : Int) := of_decide_eq_true (by first | (with_reducible assumption) | assumption)
                                                              obtain ⟨ad192, A192_1, c192_1, A192_2, c192_2, e192, hx192_0, hx192_1, hx192_2, hl192_1, hi192_1, hl192_2, hi192_2⟩ := at_T27 HR189.out x125_6 p192 q192
                                                              (try rw [← Nbq69.out] at hx192_0)
                                                              obtain rfl : ad176 = ad192 := (by injection e192)
                                                              replace hx192_0 := (HB.out.cell (World.block_lt_of_cell? w _ hx192_0)).trans hx192_0
                                                              replace hx192_1 := (HB.out.cell (World.block_lt_of_cell? w _ hx192_1)).trans hx192_1
                                                              replace hx192_2 := (HB.out.cell (World.block_lt_of_cell? w _ hx192_2)).trans hx192_2
                                                              have HR192_1 := Aside0.mk hi192_1
                                                              have HC192_1 := Aside0.mk hl192_1
                                                              clear hi192_1 hl192_1
                                                              have HR192_2 := Aside0.mk hi192_2
                                                              have HC192_2 := Aside0.mk hl192_2
                                                              clear hi192_2 hl192_2
                                                              replace p192 := eq_true p192
                                                              replace q192 := eq_true q192
                                                              go_wp2_with (first | ((with_reducible refine gate_dst (N := 15) rfl ?_); (try (refine gate_guard (by rfl) ?_; dsimp only)); refine box_event ?hg (N := 15) ?hd (cs := #[.bool false, .slice none 0 0, .slice none 0 0]) (t := 27) ?hr ?_; (case hd => rfl); (case hg => rfl); (case hr => first | (go_simp; done) | (go_simp; rfl)); intro gb193 hg w82 hbox hb; have n0_ := Aside0.mk (Kd.R_below (by (with_reducible repeat (first | apply Kd.R_alloc | apply Kd.R_drewN | apply Kd.R_drew)); exact HO_9.out) hb); have n1_ := Aside0.mk (Mx_below (by (with_reducible repeat (first | apply Mx_alloc | apply Mx_drewN | apply Mx_drew)); exact HO_13.out) hb); have n2_ := Aside0.mk (blk_below (g := gb177) (o := .cells #[.bool ((rd_T27 l2 x79_3).f0), .slice A176_1 ((rd_T27 l2 x79_3).f1).length c176_1, .slice A176_2 ((rd_T27 l2 x79_3).f2).length c176_2] 27 (0, 0)) (by (with_reducible repeat (first | refine blk_drewN ?_ _ | refine blk_drew ?_ | refine blk_alloc ?_ _)); exact BK177.out) hb); have n3_ := Aside0.mk (below_step (by repeat (first | (with_reducible first | exact HB.out | apply below_alloc | apply pw_below_drewN | apply below_drew1 | refine below_set ?_ GE177.out) | exact HB.out)) hb); have n4_ := Aside0.mk (hbox); have n5_ := Aside0.mk ((by rw [hg]; exact (below_size (by repeat (first | (with_reducible first | exact HB.out | apply below_alloc | apply pw_below_drewN | apply below_drew1 | refine below_set ?_ GE177.out) | exact HB.out))) : w.heap.size ≤ gb193)); have n6_ := Aside0.mk ((by rw [hg]; exact (below_size (by repeat (first | (with_reducible first | exact HB.out | apply below_alloc | apply pw_below_drewN | apply below_drew1 | refine below_set ?_ GE177.out) | exact HB.out))) : w.heap.size ≤ gb193)); have n7_ := Aside0.mk ((by rw [hg]; exact Nat.ne_of_lt (blk_lt (g := gb177) (o := .cells #[.bool ((rd_T27 l2 x79_3).f0), .slice A176_1 ((rd_T27 l2 x79_3).f1).length c176_1, .slice A176_2 ((rd_T27 l2 x79_3).f2).length c176_2] 27 (0, 0)) (by (with_reducible repeat (first | refine blk_drewN ?_ _ | refine blk_drew ?_ | refine blk_alloc ?_ _)); exact BK177.out)) : gb177 ≠ gb193)); have n8_ := Aside0.mk ((by rw [hg]; exact Nat.ne_of_gt (blk_lt (g := gb177) (o := .cells #[.bool ((rd_T27 l2 x79_3).f0), .slice A176_1 ((rd_T27 l2 x79_3).f1).length c176_1, .slice A176_2 ((rd_T27 l2 x79_3).f2).length c176_2] 27 (0, 0)) (by (with_reducible repeat (first | refine blk_drewN ?_ _ | refine blk_drew ?_ | refine blk_alloc ?_ _)); exact BK177.out)) : gb193 ≠ gb177)); clear HO_9; clear HO_13; clear BK177; clear HB; have HO_9 := n0_; have HO_13 := n1_; have BK177 := n2_; have HB := n3_; have BK193 := n4_; have GW193 := n5_; have GE193 := n6_; have NB177_193 := n7_; have NB193_177 := n8_; clear n0_ n1_ n2_ n3_ n4_ n5_ n6_ n7_ n8_; clear hb hbox hg; have hnb83 := NB193_177.out; have hnc83 := NB177_193.out; have hcz84_0 : w82.cell? ⟨gb193, 0, none⟩ = some (.bool false) := (blk_cell BK193.out 0).trans rfl; have hcz84_1 : w82.cell? ⟨gb193, 1, none⟩ = some (.slice none 0 0) := (blk_cell BK193.out 1).trans rfl; have hcz84_2 : w82.cell? ⟨gb193, 2, none⟩ = some (.slice none 0 0) := (blk_cell BK193.out 2).trans rfl; have hfz84_0 := blk_frozen BK193.out 0; have hfz84_1 := blk_frozen BK193.out 1; have hfz84_2 := blk_frozen BK193.out 2; have hcz85_0 : w82.cell? ⟨gb177, 0, none⟩ = some (.bool ((rd_T27 l2 x79_3).f0)) := (blk_cell BK177.out 0).trans rfl; have hcz85_1 : w82.cell? ⟨gb177, 1, none⟩ = some (.slice A176_1 ((rd_T27 l2 x79_3).f1).length c176_1) := (blk_cell BK177.out 1).trans rfl; have hcz85_2 : w82.cell? ⟨gb177, 2, none⟩ = some (.slice A176_2 ((rd_T27 l2 x79_3).f2).length c176_2) := (blk_cell BK177.out 2).trans rfl; have hfz85_0 := blk_frozen BK177.out 0; have hfz85_1 := blk_frozen BK177.out 1; have hfz85_2 := blk_frozen BK177.out 2) | (go_at_call 9; (with_reducible refine (laws_sameNumbers.calls k6 _ _ ((rd_T27 y186 x125_6).f1) _ _ ((rd_T27 l2 x79_3).f1) true _ ?side1 ?side2 ?side3 ?side4 A72.out).mono ?_); (case side1 => exact Kd.C_below HR192_1.out (by repeat (first | (with_reducible first | exact HB.out | apply below_alloc | apply pw_below_drewN | apply below_drew1 | refine below_set ?_ GE177.out | refine below_set ?_ GE193.out) | exact HB.out))); (case side2 => exact HC192_1.out); (case side3 => exact Kd.C_below HR176_1.out (by repeat (first | (with_reducible first | exact HB.out | apply below_alloc | apply pw_below_drewN | apply below_drew1 | refine below_set ?_ GE177.out | refine below_set ?_ GE193.out) | exact HB.out))); (case side4 => exact HC176_1.out); rintro e w' ⟨rfl, ⟨nd, rfl⟩⟩; (try first | exact ⟨rfl, _, World.drewN_drewN _ _ _⟩ | exact ⟨rfl, _, Eq.trans (World.drewN_drewN _ _ _) (congrArg (World.drewN _) (Nat.add_assoc _ _ _))⟩); have p195 : 0 ≤ (0 : Int) := (by omega); have q195 : 0 < (((rd_T27 y186 x125_6).f2).length : Int) := of_decide_eq_true (by first | (with_reducible assumption) | assumption); obtain ⟨ad195, A195_0, c195_0, e195, hx195_0, hl195_0, hi195_0⟩ := at_L1 HR192_2.out 0 p195 q195; cases e195; have qi195 : (0 < ((rd_T27 y186 x125_6).f2).length) = True := eq_true (by omega); (try rw [show ((0 : Int)).toNat = 0 from rfl] at hx195_0); (try rw [Addr.add_zero'] at hx195_0); have hn195_0 : ad195.block ≠ gb193 := Nat.ne_of_lt (Nat.lt_of_lt_of_le (by have := World.block_lt_of_cell? _ _ hx195_0; first | rwa [add_block] at this | exact this) GW193.out); have hn195_1 : ad195.block ≠ gb193 := Nat.ne_of_lt (Nat.lt_of_lt_of_le (by have := World.block_lt_of_cell? _ _ hx195_0; first | rwa [add_block] at this | exact this) GW193.out); have hn195_2 : ad195.block ≠ gb193 := Nat.ne_of_lt (Nat.lt_of_lt_of_le (by have := World.block_lt_of_cell? _ _ hx195_0; first | rwa [add_block] at this | exact this) GW193.out); replace hx195_0 := (HB.out.cell (World.block_lt_of_cell? w _ hx195_0)).trans hx195_0; have HR195_0 := Aside0.mk hi195_0; have HC195_0 := Aside0.mk hl195_0; clear hi195_0 hl195_0; replace hx195_0 := (cell_far (p := ⟨gb193, 0, none⟩) (by first | (rw [add_block]; exact hn195_0) | (show (Addr.add _ _).block ≠ _; rw [add_block]; exact hn195_0) | exact hn195_0) (.bool true)).trans hx195_0; replace hx195_0 := (cell_far (p := ⟨gb193, 1, none⟩) (by first | (rw [add_block]; exact hn195_1) | (show (Addr.add _ _).block ≠ _; rw [add_block]; exact hn195_1) | exact hn195_1) (.slice A192_1 ((rd_T27 y186 x125_6).f1).length c192_1)).trans hx195_0; replace hx195_0 := (cell_far (p := ⟨gb193, 2, none⟩) (by first | (rw [add_block]; exact hn195_2) | (show (Addr.add _ _).block ≠ _; rw [add_block]; exact hn195_2) | exact hn195_2) (.slice (some ad195) ((rd_T27 y186 x125_6).f2).length c192_2)).trans hx195_0; (try have hy195_0 := fun (n_ : Nat) => (show (((((w82.drewN n_).setCell ⟨gb193, 0, none⟩ (.bool true)).setCell ⟨gb193, 1, none⟩ (.slice A192_1 ((rd_T27 y186 x125_6).f1).length c192_1)).setCell ⟨gb193, 2, none⟩ (.slice (some ad195) ((rd_T27 y186 x125_6).f2).length c192_2))).cell? _ = some _ from hx195_0)); clear hn195_0; clear hn195_1; clear hn195_2; replace p195 := eq_true p195; replace q195 := eq_true q195))
                                                              repeat (go_quiet (first | ((with_reducible refine gate_dst (N := 15) rfl ?_); (try (refine gate_guard (by rfl) ?_; dsimp only)); refine box_event ?hg (N := 15) ?hd (cs := #[.bool false, .slice none 0 0, .slice none 0 0]) (t := 27) ?hr ?_; (case hd => rfl); (case hg => rfl); (case hr => first | (go_simp; done) | (go_simp; rfl)); intro gb193 hg w82 hbox hb; have n0_ := Aside0.mk (Kd.R_below (by (with_reducible repeat (first | apply Kd.R_alloc | apply Kd.R_drewN | apply Kd.R_drew)); exact HO_9.out) hb); have n1_ := Aside0.mk (Mx_below (by (with_reducible repeat (first | apply Mx_alloc | apply Mx_drewN | apply Mx_drew)); exact HO_13.out) hb); have n2_ := Aside0.mk (blk_below (g := gb177) (o := .cells #[.bool ((rd_T27 l2 x79_3).f0), .slice A176_1 ((rd_T27 l2 x79_3).f1).length c176_1, .slice A176_2 ((rd_T27 l2 x79_3).f2).length c176_2] 27 (0, 0)) (by (with_reducible repeat (first | refine blk_drewN ?_ _ | refine blk_drew ?_ | refine blk_alloc ?_ _)); exact BK177.out) hb); have n3_ := Aside0.mk (below_step (by repeat (first | (with_reducible first | exact HB.out | apply below_alloc | apply pw_below_drewN | apply below_drew1 | refine below_set ?_ GE177.out) | exact HB.out)) hb); have n4_ := Aside0.mk (hbox); have n5_ := Aside0.mk ((by rw [hg]; exact (below_size (by repeat (first | (with_reducible first | exact HB.out | apply below_alloc | apply pw_below_drewN | apply below_drew1 | refine below_set ?_ GE177.out) | exact HB.out))) : w.heap.size ≤ gb193)); have n6_ := Aside0.mk ((by rw [hg]; exact (below_size (by repeat (first | (with_reducible first | exact HB.out | apply below_alloc | apply pw_below_drewN | apply below_drew1 | refine below_set ?_ GE177.out) | exact HB.out))) : w.heap.size ≤ gb193)); have n7_ := Aside0.mk ((by rw [hg]; exact Nat.ne_of_lt (blk_lt (g := gb177) (o := .cells #[.bool ((rd_T27 l2 x79_3).f0), .slice A176_1 ((rd_T27 l2 x79_3).f1).length c176_1, .slice A176_2 ((rd_T27 l2 x79_3).f2).length c176_2] 27 (0, 0)) (by (with_reducible repeat (first | refine blk_drewN ?_ _ | refine blk_drew ?_ | refine blk_alloc ?_ _)); exact BK177.out)) : gb177 ≠ gb193)); have n8_ := Aside0.mk ((by rw [hg]; exact Nat.ne_of_gt (blk_lt (g := gb177) (o := .cells #[.bool ((rd_T27 l2 x79_3).f0), .slice A176_1 ((rd_T27 l2 x79_3).f1).length c176_1, .slice A176_2 ((rd_T27 l2 x79_3).f2).length c176_2] 27 (0, 0)) (by (with_reducible repeat (first | refine blk_drewN ?_ _ | refine blk_drew ?_ | refine blk_alloc ?_ _)); exact BK177.out)) : gb193 ≠ gb177)); clear HO_9; clear HO_13; clear BK177; clear HB; have HO_9 := n0_; have HO_13 := n1_; have BK177 := n2_; have HB := n3_; have BK193 := n4_; have GW193 := n5_; have GE193 := n6_; have NB177_193 := n7_; have NB193_177 := n8_; clear n0_ n1_ n2_ n3_ n4_ n5_ n6_ n7_ n8_; clear hb hbox hg; have hnb83 := NB193_177.out; have hnc83 := NB177_193.out; have hcz84_0 : w82.cell? ⟨gb193, 0, none⟩ = some (.bool false) := (blk_cell BK193.out 0).trans rfl; have hcz84_1 : w82.cell? ⟨gb193, 1, none⟩ = some (.slice none 0 0) := (blk_cell BK193.out 1).trans rfl; have hcz84_2 : w82.cell? ⟨gb193, 2, none⟩ = some (.slice none 0 0) := (blk_cell BK193.out 2).trans rfl; have hfz84_0 := blk_frozen BK193.out 0; have hfz84_1 := blk_frozen BK193.out 1; have hfz84_2 := blk_frozen BK193.out 2; have hcz85_0 : w82.cell? ⟨gb177, 0, none⟩ = some (.bool ((rd_T27 l2 x79_3).f0)) := (blk_cell BK177.out 0).trans rfl; have hcz85_1 : w82.cell? ⟨gb177, 1, none⟩ = some (.slice A176_1 ((rd_T27 l2 x79_3).f1).length c176_1) := (blk_cell BK177.out 1).trans rfl; have hcz85_2 : w82.cell? ⟨gb177, 2, none⟩ = some (.slice A176_2 ((rd_T27 l2 x79_3).f2).length c176_2) := (blk_cell BK177.out 2).trans rfl; have hfz85_0 := blk_frozen BK177.out 0; have hfz85_1 := blk_frozen BK177.out 1; have hfz85_2 := blk_frozen BK177.out 2) | (go_at_call 9; (with_reducible refine (laws_sameNumbers.calls k6 _ _ ((rd_T27 y186 x125_6).f1) _ _ ((rd_T27 l2 x79_3).f1) true _ ?side1 ?side2 ?side3 ?side4 A72.out).mono ?_); (case side1 => exact Kd.C_below HR192_1.out (by repeat (first | (with_reducible first | exact HB.out | apply below_alloc | apply pw_below_drewN | apply below_drew1 | refine below_set ?_ GE177.out | refine below_set ?_ GE193.out) | exact HB.out))); (case side2 => exact HC192_1.out); (case side3 => exact Kd.C_below HR176_1.out (by repeat (first | (with_reducible first | exact HB.out | apply below_alloc | apply pw_below_drewN | apply below_drew1 | refine below_set ?_ GE177.out | refine below_set ?_ GE193.out) | exact HB.out))); (case side4 => exact HC176_1.out); rintro e w' ⟨rfl, ⟨nd, rfl⟩⟩; (try first | exact ⟨rfl, _, World.drewN_drewN _ _ _⟩ | exact ⟨rfl, _, Eq.trans (World.drewN_drewN _ _ _) (congrArg (World.drewN _) (Nat.add_assoc _ _ _))⟩); have p195 : 0 ≤ (0 : Int) := (by omega); have q195 : 0 < (((rd_T27 y186 x125_6).f2).length : Int) := of_decide_eq_true (by first | (with_reducible assumption) | assumption); obtain ⟨ad195, A195_0, c195_0, e195, hx195_0, hl195_0, hi195_0⟩ := at_L1 HR192_2.out 0 p195 q195; cases e195; have qi195 : (0 < ((rd_T27 y186 x125_6).f2).length) = True := eq_true (by omega); (try rw [show ((0 : Int)).toNat = 0 from rfl] at hx195_0); (try rw [Addr.add_zero'] at hx195_0); have hn195_0 : ad195.block ≠ gb193 := Nat.ne_of_lt (Nat.lt_of_lt_of_le (by have := World.block_lt_of_cell? _ _ hx195_0; first | rwa [add_block] at this | exact this) GW193.out); have hn195_1 : ad195.block ≠ gb193 := Nat.ne_of_lt (Nat.lt_of_lt_of_le (by have := World.block_lt_of_cell? _ _ hx195_0; first | rwa [add_block] at this | exact this) GW193.out); have hn195_2 : ad195.block ≠ gb193 := Nat.ne_of_lt (Nat.lt_of_lt_of_le (by have := World.block_lt_of_cell? _ _ hx195_0; first | rwa [add_block] at this | exact this) GW193.out); replace hx195_0 := (HB.out.cell (World.block_lt_of_cell? w _ hx195_0)).trans hx195_0; have HR195_0 := Aside0.mk hi195_0; have HC195_0 := Aside0.mk hl195_0; clear hi195_0 hl195_0; replace hx195_0 := (cell_far (p := ⟨gb193, 0, none⟩) (by first | (rw [add_block]; exact hn195_0) | (show (Addr.add _ _).block ≠ _; rw [add_block]; exact hn195_0) | exact hn195_0) (.bool true)).trans hx195_0; replace hx195_0 := (cell_far (p := ⟨gb193, 1, none⟩) (by first | (rw [add_block]; exact hn195_1) | (show (Addr.add _ _).block ≠ _; rw [add_block]; exact hn195_1) | exact hn195_1) (.slice A192_1 ((rd_T27 y186 x125_6).f1).length c192_1)).trans hx195_0; replace hx195_0 := (cell_far (p := ⟨gb193, 2, none⟩) (by first | (rw [add_block]; exact hn195_2) | (show (Addr.add _ _).block ≠ _; rw [add_block]; exact hn195_2) | exact hn195_2) (.slice (some ad195) ((rd_T27 y186 x125_6).f2).length c192_2)).trans hx195_0; (try have hy195_0 := fun (n_ : Nat) => (show (((((w82.drewN n_).setCell ⟨gb193, 0, none⟩ (.bool true)).setCell ⟨gb193, 1, none⟩ (.slice A192_1 ((rd_T27 y186 x125_6).f1).length c192_1)).setCell ⟨gb193, 2, none⟩ (.slice (some ad195) ((rd_T27 y186 x125_6).f2).length c192_2))).cell? _ = some _ from hx195_0)); clear hn195_0; clear hn195_1; clear hn195_2; replace p195 := eq_true p195; replace q195 := eq_true q195)); try go_wp2_with (first | ((with_reducible refine gate_dst (N := 15) rfl ?_); (try (refine gate_guard (by rfl) ?_; dsimp only)); refine box_event ?hg (N := 15) ?hd (cs := #[.bool false, .slice none 0 0, .slice none 0 0]) (t := 27) ?hr ?_; (case hd => rfl); (case hg => rfl); (case hr => first | (go_simp; done) | (go_simp; rfl)); intro gb193 hg w82 hbox hb; have n0_ := Aside0.mk (Kd.R_below (by (with_reducible repeat (first | apply Kd.R_alloc | apply Kd.R_drewN | apply Kd.R_drew)); exact HO_9.out) hb); have n1_ := Aside0.mk (Mx_below (by (with_reducible repeat (first | apply Mx_alloc | apply Mx_drewN | apply Mx_drew)); exact HO_13.out) hb); have n2_ := Aside0.mk (blk_below (g := gb177) (o := .cells #[.bool ((rd_T27 l2 x79_3).f0), .slice A176_1 ((rd_T27 l2 x79_3).f1).length c176_1, .slice A176_2 ((rd_T27 l2 x79_3).f2).length c176_2] 27 (0, 0)) (by (with_reducible repeat (first | refine blk_drewN ?_ _ | refine blk_drew ?_ | refine blk_alloc ?_ _)); exact BK177.out) hb); have n3_ := Aside0.mk (below_step (by repeat (first | (with_reducible first | exact HB.out | apply below_alloc | apply pw_below_drewN | apply below_drew1 | refine below_set ?_ GE177.out) | exact HB.out)) hb); have n4_ := Aside0.mk (hbox); have n5_ := Aside0.mk ((by rw [hg]; exact (below_size (by repeat (first | (with_reducible first | exact HB.out | apply below_alloc | apply pw_below_drewN | apply below_drew1 | refine below_set ?_ GE177.out) | exact HB.out))) : w.heap.size ≤ gb193)); have n6_ := Aside0.mk ((by rw [hg]; exact (below_size (by repeat (first | (with_reducible first | exact HB.out | apply below_alloc | apply pw_below_drewN | apply below_drew1 | refine below_set ?_ GE177.out) | exact HB.out))) : w.heap.size ≤ gb193)); have n7_ := Aside0.mk ((by rw [hg]; exact Nat.ne_of_lt (blk_lt (g := gb177) (o := .cells #[.bool ((rd_T27 l2 x79_3).f0), .slice A176_1 ((rd_T27 l2 x79_3).f1).length c176_1, .slice A176_2 ((rd_T27 l2 x79_3).f2).length c176_2] 27 (0, 0)) (by (with_reducible repeat (first | refine blk_drewN ?_ _ | refine blk_drew ?_ | refine blk_alloc ?_ _)); exact BK177.out)) : gb177 ≠ gb193)); have n8_ := Aside0.mk ((by rw [hg]; exact Nat.ne_of_gt (blk_lt (g := gb177) (o := .cells #[.bool ((rd_T27 l2 x79_3).f0), .slice A176_1 ((rd_T27 l2 x79_3).f1).length c176_1, .slice A176_2 ((rd_T27 l2 x79_3).f2).length c176_2] 27 (0, 0)) (by (with_reducible repeat (first | refine blk_drewN ?_ _ | refine blk_drew ?_ | refine blk_alloc ?_ _)); exact BK177.out)) : gb193 ≠ gb177)); clear HO_9; clear HO_13; clear BK177; clear HB; have HO_9 := n0_; have HO_13 := n1_; have BK177 := n2_; have HB := n3_; have BK193 := n4_; have GW193 := n5_; have GE193 := n6_; have NB177_193 := n7_; have NB193_177 := n8_; clear n0_ n1_ n2_ n3_ n4_ n5_ n6_ n7_ n8_; clear hb hbox hg; have hnb83 := NB193_177.out; have hnc83 := NB177_193.out; have hcz84_0 : w82.cell? ⟨gb193, 0, none⟩ = some (.bool false) := (blk_cell BK193.out 0).trans rfl; have hcz84_1 : w82.cell? ⟨gb193, 1, none⟩ = some (.slice none 0 0) := (blk_cell BK193.out 1).trans rfl; have hcz84_2 : w82.cell? ⟨gb193, 2, none⟩ = some (.slice none 0 0) := (blk_cell BK193.out 2).trans rfl; have hfz84_0 := blk_frozen BK193.out 0; have hfz84_1 := blk_frozen BK193.out 1; have hfz84_2 := blk_frozen BK193.out 2; have hcz85_0 : w82.cell? ⟨gb177, 0, none⟩ = some (.bool ((rd_T27 l2 x79_3).f0)) := (blk_cell BK177.out 0).trans rfl; have hcz85_1 : w82.cell? ⟨gb177, 1, none⟩ = some (.slice A176_1 ((rd_T27 l2 x79_3).f1).length c176_1) := (blk_cell BK177.out 1).trans rfl; have hcz85_2 : w82.cell? ⟨gb177, 2, none⟩ = some (.slice A176_2 ((rd_T27 l2 x79_3).f2).length c176_2) := (blk_cell BK177.out 2).trans rfl; have hfz85_0 := blk_frozen BK177.out 0; have hfz85_1 := blk_frozen BK177.out 1; have hfz85_2 := blk_frozen BK177.out 2) | (go_at_call 9; (with_reducible refine (laws_sameNumbers.calls k6 _ _ ((rd_T27 y186 x125_6).f1) _ _ ((rd_T27 l2 x79_3).f1) true _ ?side1 ?side2 ?side3 ?side4 A72.out).mono ?_); (case side1 => exact Kd.C_below HR192_1.out (by repeat (first | (with_reducible first | exact HB.out | apply below_alloc | apply pw_below_drewN | apply below_drew1 | refine below_set ?_ GE177.out | refine below_set ?_ GE193.out) | exact HB.out))); (case side2 => exact HC192_1.out); (case side3 => exact Kd.C_below HR176_1.out (by repeat (first | (with_reducible first | exact HB.out | apply below_alloc | apply pw_below_drewN | apply below_drew1 | refine below_set ?_ GE177.out | refine below_set ?_ GE193.out) | exact HB.out))); (case side4 => exact HC176_1.out); rintro e w' ⟨rfl, ⟨nd, rfl⟩⟩; (try first | exact ⟨rfl, _, World.drewN_drewN _ _ _⟩ | exact ⟨rfl, _, Eq.trans (World.drewN_drewN _ _ _) (congrArg (World.drewN _) (Nat.add_assoc _ _ _))⟩); have p195 : 0 ≤ (0 : Int) := (by omega); have q195 : 0 < (((rd_T27 y186 x125_6).f2).length : Int) := of_decide_eq_true (by first | (with_reducible assumption) | assumption); obtain ⟨ad195, A195_0, c195_0, e195, hx195_0, hl195_0, hi195_0⟩ := at_L1 HR192_2.out 0 p195 q195; cases e195; have qi195 : (0 < ((rd_T27 y186 x125_6).f2).length) = True := eq_true (by omega); (try rw [show ((0 : Int)).toNat = 0 from rfl] at hx195_0); (try rw [Addr.add_zero'] at hx195_0); have hn195_0 : ad195.block ≠ gb193 := Nat.ne_of_lt (Nat.lt_of_lt_of_le (by have := World.block_lt_of_cell? _ _ hx195_0; first | rwa [add_block] at this | exact this) GW193.out); have hn195_1 : ad195.block ≠ gb193 := Nat.ne_of_lt (Nat.lt_of_lt_of_le (by have := World.block_lt_of_cell? _ _ hx195_0; first | rwa [add_block] at this | exact this) GW193.out); have hn195_2 : ad195.block ≠ gb193 := Nat.ne_of_lt (Nat.lt_of_lt_of_le (by have := World.block_lt_of_cell? _ _ hx195_0; first | rwa [add_block] at this | exact this) GW193.out); replace hx195_0 := (HB.out.cell (World.block_lt_of_cell? w _ hx195_0)).trans hx195_0; have HR195_0 := Aside0.mk hi195_0; have HC195_0 := Aside0.mk hl195_0; clear hi195_0 hl195_0; replace hx195_0 := (cell_far (p := ⟨gb193, 0, none⟩) (by first | (rw [add_block]; exact hn195_0) | (show (Addr.add _ _).block ≠ _; rw [add_block]; exact hn195_0) | exact hn195_0) (.bool true)).trans hx195_0; replace hx195_0 := (cell_far (p := ⟨gb193, 1, none⟩) (by first | (rw [add_block]; exact hn195_1) | (show (Addr.add _ _).block ≠ _; rw [add_block]; exact hn195_1) | exact hn195_1) (.slice A192_1 ((rd_T27 y186 x125_6).f1).length c192_1)).trans hx195_0; replace hx195_0 := (cell_far (p := ⟨gb193, 2, none⟩) (by first | (rw [add_block]; exact hn195_2) | (show (Addr.add _ _).block ≠ _; rw [add_block]; exact hn195_2) | exact hn195_2) (.slice (some ad195) ((rd_T27 y186 x125_6).f2).length c192_2)).trans hx195_0; (try have hy195_0 := fun (n_ : Nat) => (show (((((w82.drewN n_).setCell ⟨gb193, 0, none⟩ (.bool true)).setCell ⟨gb193, 1, none⟩ (.slice A192_1 ((rd_T27 y186 x125_6).f1).length c192_1)).setCell ⟨gb193, 2, none⟩ (.slice (some ad195) ((rd_T27 y186 x125_6).f2).length c192_2))).cell? _ = some _ from hx195_0)); clear hn195_0; clear hn195_1; clear hn195_2; replace p195 := eq_true p195; replace q195 := eq_true q195)))
                                                              go_roundg k6
                                                              case measure => have := HJ5.out; have := HK2.out; have := HK3.out; have := HJ39.out; have := HJ54.out; have := HK6.out; omega
                                                              case rel => exact ⟨(x13_6), (wrap64 (x125_6 + 1)), (by first | rfl | (simp; done) | (simp [*]; done)), H', ⟨by have := HJ5.out; have := HK2.out; have := HK3.out; have := HJ39.out; have := HJ54.out; have := HK6.out; omega⟩, ⟨by (with_reducible repeat (first | apply Kd.R_alloc | apply Kd.R_drewN | apply Kd.R_drew)); exact Kd.R_mono (Kd.R_far (p := ⟨gb193, 2, none⟩) (Kd.R_far (p := ⟨gb193, 1, none⟩) (Kd.R_far (p := ⟨gb193, 0, none⟩) (Kd.R_types HO_9.out BK193.out (by decide)) (fun _ hk => hk.2) (.bool true)) (fun _ hk => hk.2) (.slice A192_1 ((rd_T27 y186 x125_6).f1).length c192_1)) (fun _ hk => hk.2) (.slice (some ad195) ((rd_T27 y186 x125_6).f2).length c192_2)) (fun _ hk => hk.1)⟩, ⟨by (with_reducible repeat (first | apply Mx_alloc | apply Mx_drewN | apply Mx_drew)); exact Mx_mono (Mx_far (p := ⟨gb193, 2, none⟩) (Mx_far (p := ⟨gb193, 1, none⟩) (Mx_far (p := ⟨gb193, 0, none⟩) (Mx_types HO_13.out BK193.out (by decide)) (fun _ hk => hk.2) (.bool true)) (fun _ hk => hk.2) (.slice A192_1 ((rd_T27 y186 x125_6).f1).length c192_1)) (fun _ hk => hk.2) (.slice (some ad195) ((rd_T27 y186 x125_6).f2).length c192_2)) (fun _ hk => trivial)⟩, ⟨by (with_reducible repeat (first | refine blk_drewN ?_ _ | refine blk_drew ?_ | refine blk_alloc ?_ _)); refine blk_far ?_ NB177_193.out _; (with_reducible repeat (first | refine blk_drewN ?_ _ | refine blk_drew ?_ | refine blk_alloc ?_ _)); refine blk_far ?_ NB177_193.out _; (with_reducible repeat (first | refine blk_drewN ?_ _ | refine blk_drew ?_ | refine blk_alloc ?_ _)); refine blk_far ?_ NB177_193.out _; (with_reducible repeat (first | refine blk_drewN ?_ _ | refine blk_drew ?_ | refine blk_alloc ?_ _)); exact BK177.out⟩, ⟨by repeat (first | (with_reducible first | exact HB.out | apply below_alloc | apply pw_below_drewN | apply below_drew1 | refine below_set ?_ GE177.out | refine below_set ?_ GE193.out) | exact HB.out)⟩⟩
                                                          · rw [if_neg c74] at H
                                                            exact absurd H (by simp)
                                                        · replace c73 := Bool.eq_false_iff.mpr c73
                                                          subst c73
                                                          have H1 : (laws_FnCache.l2 k6 a0 l2 t173 x79_3 x13_6 l2 (l2.length : Int) x79_3 y186 (y186.length : Int) (wrap64 (x125_6 + 1)) ((rd_T27 l2 x79_3).f0) ((rd_T27 l2 x79_3).f1) ((rd_T27 l2 x79_3).f2)) = some r := by rw [if_neg (show ¬ (false = true) by decide)] at H; exact H
                                                          clear H
                                                          have H := H1
                                                          clear H1
                                                          have H' := Aside0.mk H
                                                          clear H
                                                          have p192 : 0 ≤ (x125_6 : Int) := of_decide_eq_true (by first | (with_reducible assumption) | assumption)
                                                          have q192 : x125_6 < (y186.length : Int) := of_decide_eq_true (by first | (with_reducible assumption) | assumption)
                                                          obtain ⟨ad192, A192_1, c192_1, A192_2, c192_2, e192, hx192_0, hx192_1, hx192_2, hl192_1, hi192_1, hl192_2, hi192_2⟩ := at_T27 HR189.out x125_6 p192 q192
                                                          (try rw [← Nbq69.out] at hx192_0)
                                                          obtain rfl : ad176 = ad192 := (by injection e192)
                                                          replace hx192_0 := (HB.out.cell (World.block_lt_of_cell? w _ hx192_0)).trans hx192_0
                                                          replace hx192_1 := (HB.out.cell (World.block_lt_of_cell? w _ hx192_1)).trans hx192_1
                                                          replace hx192_2 := (HB.out.cell (World.block_lt_of_cell? w _ hx192_2)).trans hx192_2
                                                          have HR192_1 := Aside0.mk hi192_1
                                                          have HC192_1 := Aside0.mk hl192_1
                                                          clear hi192_1 hl192_1
                                                          have HR192_2 := Aside0.mk hi192_2
                                                          have HC192_2 := Aside0.mk hl192_2
                                                          clear hi192_2 hl192_2
                                                          replace p192 := eq_true p192
                                                          replace q192 := eq_true q192
                                                          go_wp2_with (first | ((with_reducible refine gate_dst (N := 15) rfl ?_); (try (refine gate_guard (by rfl) ?_; dsimp only)); refine box_event ?hg (N := 15) ?hd (cs := #[.bool false, .slice none 0 0, .slice none 0 0]) (t := 27) ?hr ?_; (case hd => rfl); (case hg => rfl); (case hr => first | (go_simp; done) | (go_simp; rfl)); intro gb193 hg w86 hbox hb; have n0_ := Aside0.mk (Kd.R_below (by (with_reducible repeat (first | apply Kd.R_alloc | apply Kd.R_drewN | apply Kd.R_drew)); exact HO_9.out) hb); have n1_ := Aside0.mk (Mx_below (by (with_reducible repeat (first | apply Mx_alloc | apply Mx_drewN | apply Mx_drew)); exact HO_13.out) hb); have n2_ := Aside0.mk (blk_below (g := gb177) (o := .cells #[.bool ((rd_T27 l2 x79_3).f0), .slice A176_1 ((rd_T27 l2 x79_3).f1).length c176_1, .slice A176_2 ((rd_T27 l2 x79_3).f2).length c176_2] 27 (0, 0)) (by (with_reducible repeat (first | refine blk_drewN ?_ _ | refine blk_drew ?_ | refine blk_alloc ?_ _)); exact BK177.out) hb); have n3_ := Aside0.mk (below_step (by repeat (first | (with_reducible first | exact HB.out | apply below_alloc | apply pw_below_drewN | apply below_drew1 | refine below_set ?_ GE177.out) | exact HB.out)) hb); have n4_ := Aside0.mk (hbox); have n5_ := Aside0.mk ((by rw [hg]; exact (below_size (by repeat (first | (with_reducible first | exact HB.out | apply below_alloc | apply pw_below_drewN | apply below_drew1 | refine below_set ?_ GE177.out) | exact HB.out))) : w.heap.size ≤ gb193)); have n6_ := Aside0.mk ((by rw [hg]; exact (below_size (by repeat (first | (with_reducible first | exact HB.out | apply below_alloc | apply pw_below_drewN | apply below_drew1 | refine below_set ?_ GE177.out) | exact HB.out))) : w.heap.size ≤ gb193)); have n7_ := Aside0.mk ((by rw [hg]; exact Nat.ne_of_lt (blk_lt (g := gb177) (o := .cells #[.bool ((rd_T27 l2 x79_3).f0), .slice A176_1 ((rd_T27 l2 x79_3).f1).length c176_1, .slice A176_2 ((rd_T27 l2 x79_3).f2).length c176_2] 27 (0, 0)) (by (with_reducible repeat (first | refine blk_drewN ?_ _ | refine blk_drew ?_ | refine blk_alloc ?_ _)); exact BK177.out)) : gb177 ≠ gb193)); have n8_ := Aside0.mk ((by rw [hg]; exact Nat.ne_of_gt (blk_lt (g := gb177) (o := .cells #[.bool ((rd_T27 l2 x79_3).f0), .slice A176_1 ((rd_T27 l2 x79_3).f1).length c176_1, .slice A176_2 ((rd_T27 l2 x79_3).f2).length c176_2] 27 (0, 0)) (by (with_reducible repeat (first | refine blk_drewN ?_ _ | refine blk_drew ?_ | refine blk_alloc ?_ _)); exact BK177.out)) : gb193 ≠ gb177)); clear HO_9; clear HO_13; clear BK177; clear HB; have HO_9 := n0_; have HO_13 := n1_; have BK177 := n2_; have HB := n3_; have BK193 := n4_; have GW193 := n5_; have GE193 := n6_; have NB177_193 := n7_; have NB193_177 := n8_; clear n0_ n1_ n2_ n3_ n4_ n5_ n6_ n7_ n8_; clear hb hbox hg; have hnb87 := NB193_177.out; have hnc87 := NB177_193.out; have hcz88_0 : w86.cell? ⟨gb193, 0, none⟩ = some (.bool false) := (blk_cell BK193.out 0).trans rfl; have hcz88_1 : w86.cell? ⟨gb193, 1, none⟩ = some (.slice none 0 0) := (blk_cell BK193.out 1).trans rfl; have hcz88_2 : w86.cell? ⟨gb193, 2, none⟩ = some (.slice none 0 0) := (blk_cell BK193.out 2).trans rfl; have hfz88_0 := blk_frozen BK193.out 0; have hfz88_1 := blk_frozen BK193.out 1; have hfz88_2 := blk_frozen BK193.out 2; have hcz89_0 : w86.cell? ⟨gb177, 0, none⟩ = some (.bool ((rd_T27 l2 x79_3).f0)) := (blk_cell BK177.out 0).trans rfl; have hcz89_1 : w86.cell? ⟨gb177, 1, none⟩ = some (.slice A176_1 ((rd_T27 l2 x79_3).f1).length c176_1) := (blk_cell BK177.out 1).trans rfl; have hcz89_2 : w86.cell? ⟨gb177, 2, none⟩ = some (.slice A176_2 ((rd_T27 l2 x79_3).f2).length c176_2) := (blk_cell BK177.out 2).trans rfl; have hfz89_0 := blk_frozen BK177.out 0; have hfz89_1 := blk_frozen BK177.out 1; have hfz89_2 := blk_frozen BK177.out 2) | (go_at_call 9; (with_reducible refine (laws_sameNumbers.calls k6 _ _ ((rd_T27 y186 x125_6).f1) _ _ ((rd_T27 l2 x79_3).f1) false _ ?side1 ?side2 ?side3 ?side4 A72.out).mono ?_); (case side1 => exact Kd.C_below HR192_1.out (by repeat (first | (with_reducible first | exact HB.out | apply below_alloc | apply pw_below_drewN | apply below_drew1 | refine below_set ?_ GE177.out | refine below_set ?_ GE193.out) | exact HB.out))); (case side2 => exact HC192_1.out); (case side3 => exact Kd.C_below HR176_1.out (by repeat (first | (with_reducible first | exact HB.out | apply below_alloc | apply pw_below_drewN | apply below_drew1 | refine below_set ?_ GE177.out | refine below_set ?_ GE193.out) | exact HB.out))); (case side4 => exact HC176_1.out); rintro e w' ⟨rfl, ⟨nd, rfl⟩⟩; (try first | exact ⟨rfl, _, World.drewN_drewN _ _ _⟩ | exact ⟨rfl, _, Eq.trans (World.drewN_drewN _ _ _) (congrArg (World.drewN _) (Nat.add_assoc _ _ _))⟩)))
                                                          repeat (go_quiet (first | ((with_reducible refine gate_dst (N := 15) rfl ?_); (try (refine gate_guard (by rfl) ?_; dsimp only)); refine box_event ?hg (N := 15) ?hd (cs := #[.bool false, .slice none 0 0, .slice none 0 0]) (t := 27) ?hr ?_; (case hd => rfl); (case hg => rfl); (case hr => first | (go_simp; done) | (go_simp; rfl)); intro gb193 hg w86 hbox hb; have n0_ := Aside0.mk (Kd.R_below (by (with_reducible repeat (first | apply Kd.R_alloc | apply Kd.R_drewN | apply Kd.R_drew)); exact HO_9.out) hb); have n1_ := Aside0.mk (Mx_below (by (with_reducible repeat (first | apply Mx_alloc | apply Mx_drewN | apply Mx_drew)); exact HO_13.out) hb); have n2_ := Aside0.mk (blk_below (g := gb177) (o := .cells #[.bool ((rd_T27 l2 x79_3).f0), .slice A176_1 ((rd_T27 l2 x79_3).f1).length c176_1, .slice A176_2 ((rd_T27 l2 x79_3).f2).length c176_2] 27 (0, 0)) (by (with_reducible repeat (first | refine blk_drewN ?_ _ | refine blk_drew ?_ | refine blk_alloc ?_ _)); exact BK177.out) hb); have n3_ := Aside0.mk (below_step (by repeat (first | (with_reducible first | exact HB.out | apply below_alloc | apply pw_below_drewN | apply below_drew1 | refine below_set ?_ GE177.out) | exact HB.out)) hb); have n4_ := Aside0.mk (hbox); have n5_ := Aside0.mk ((by rw [hg]; exact (below_size (by repeat (first | (with_reducible first | exact HB.out | apply below_alloc | apply pw_below_drewN | apply below_drew1 | refine below_set ?_ GE177.out) | exact HB.out))) : w.heap.size ≤ gb193)); have n6_ := Aside0.mk ((by rw [hg]; exact (below_size (by repeat (first | (with_reducible first | exact HB.out | apply below_alloc | apply pw_below_drewN | apply below_drew1 | refine below_set ?_ GE177.out) | exact HB.out))) : w.heap.size ≤ gb193)); have n7_ := Aside0.mk ((by rw [hg]; exact Nat.ne_of_lt (blk_lt (g := gb177) (o := .cells #[.bool ((rd_T27 l2 x79_3).f0), .slice A176_1 ((rd_T27 l2 x79_3).f1).length c176_1, .slice A176_2 ((rd_T27 l2 x79_3).f2).length c176_2] 27 (0, 0)) (by (with_reducible repeat (first | refine blk_drewN ?_ _ | refine blk_drew ?_ | refine blk_alloc ?_ _)); exact BK177.out)) : gb177 ≠ gb193)); have n8_ := Aside0.mk ((by rw [hg]; exact Nat.ne_of_gt (blk_lt (g := gb177) (o := .cells #[.bool ((rd_T27 l2 x79_3).f0), .slice A176_1 ((rd_T27 l2 x79_3).f1).length c176_1, .slice A176_2 ((rd_T27 l2 x79_3).f2).length c176_2] 27 (0, 0)) (by (with_reducible repeat (first | refine blk_drewN ?_ _ | refine blk_drew ?_ | refine blk_alloc ?_ _)); exact BK177.out)) : gb193 ≠ gb177)); clear HO_9; clear HO_13; clear BK177; clear HB; have HO_9 := n0_; have HO_13 := n1_; have BK177 := n2_; have HB := n3_; have BK193 := n4_; have GW193 := n5_; have GE193 := n6_; have NB177_193 := n7_; have NB193_177 := n8_; clear n0_ n1_ n2_ n3_ n4_ n5_ n6_ n7_ n8_; clear hb hbox hg; have hnb87 := NB193_177.out; have hnc87 := NB177_193.out; have hcz88_0 : w86.cell? ⟨gb193, 0, none⟩ = some (.bool false) := (blk_cell BK193.out 0).trans rfl; have hcz88_1 : w86.cell? ⟨gb193, 1, none⟩ = some (.slice none 0 0) := (blk_cell BK193.out 1).trans rfl; have hcz88_2 : w86.cell? ⟨gb193, 2, none⟩ = some (.slice none 0 0) := (blk_cell BK193.out 2).trans rfl; have hfz88_0 := blk_frozen BK193.out 0; have hfz88_1 := blk_frozen BK193.out 1; have hfz88_2 := blk_frozen BK193.out 2; have hcz89_0 : w86.cell? ⟨gb177, 0, none⟩ = some (.bool ((rd_T27 l2 x79_3).f0)) := (blk_cell BK177.out 0).trans rfl; have hcz89_1 : w86.cell? ⟨gb177, 1, none⟩ = some (.slice A176_1 ((rd_T27 l2 x79_3).f1).length c176_1) := (blk_cell BK177.out 1).trans rfl; have hcz89_2 : w86.cell? ⟨gb177, 2, none⟩ = some (.slice A176_2 ((rd_T27 l2 x79_3).f2).length c176_2) := (blk_cell BK177.out 2).trans rfl; have hfz89_0 := blk_frozen BK177.out 0; have hfz89_1 := blk_frozen BK177.out 1; have hfz89_2 := blk_frozen BK177.out 2) | (go_at_call 9; (with_reducible refine (laws_sameNumbers.calls k6 _ _ ((rd_T27 y186 x125_6).f1) _ _ ((rd_T27 l2 x79_3).f1) false _ ?side1 ?side2 ?side3 ?side4 A72.out).mono ?_); (case side1 => exact Kd.C_below HR192_1.out (by repeat (first | (with_reducible first | exact HB.out | apply below_alloc | apply pw_below_drewN | apply below_drew1 | refine below_set ?_ GE177.out | refine below_set ?_ GE193.out) | exact HB.out))); (case side2 => exact HC192_1.out); (case side3 => exact Kd.C_below HR176_1.out (by repeat (first | (with_reducible first | exact HB.out | apply below_alloc | apply pw_below_drewN | apply below_drew1 | refine below_set ?_ GE177.out | refine below_set ?_ GE193.out) | exact HB.out))); (case side4 => exact HC176_1.out); rintro e w' ⟨rfl, ⟨nd, rfl⟩⟩; (try first | exact ⟨rfl, _, World.drewN_drewN _ _ _⟩ | exact ⟨rfl, _, Eq.trans (World.drewN_drewN _ _ _) (congrArg (World.drewN _) (Nat.add_assoc _ _ _))⟩))); try go_wp2_with (first | ((with_reducible refine gate_dst (N := 15) rfl ?_); (try (refine gate_guard (by rfl) ?_; dsimp only)); refine box_event ?hg (N := 15) ?hd (cs := #[.bool false, .slice none 0 0, .slice none 0 0]) (t := 27) ?hr ?_; (case hd => rfl); (case hg => rfl); (case hr => first | (go_simp; done) | (go_simp; rfl)); intro gb193 hg w86 hbox hb; have n0_ := Aside0.mk (Kd.R_below (by (with_reducible repeat (first | apply Kd.R_alloc | apply Kd.R_drewN | apply Kd.R_drew)); exact HO_9.out) hb); have n1_ := Aside0.mk (Mx_below (by (with_reducible repeat (first | apply Mx_alloc | apply Mx_drewN | apply Mx_drew)); exact HO_13.out) hb); have n2_ := Aside0.mk (blk_below (g := gb177) (o := .cells #[.bool ((rd_T27 l2 x79_3).f0), .slice A176_1 ((rd_T27 l2 x79_3).f1).length c176_1, .slice A176_2 ((rd_T27 l2 x79_3).f2).length c176_2] 27 (0, 0)) (by (with_reducible repeat (first | refine blk_drewN ?_ _ | refine blk_drew ?_ | refine blk_alloc ?_ _)); exact BK177.out) hb); have n3_ := Aside0.mk (below_step (by repeat (first | (with_reducible first | exact HB.out | apply below_alloc | apply pw_below_drewN | apply below_drew1 | refine below_set ?_ GE177.out) | exact HB.out)) hb); have n4_ := Aside0.mk (hbox); have n5_ := Aside0.mk ((by rw [hg]; exact (below_size (by repeat (first | (with_reducible first | exact HB.out | apply below_alloc | apply pw_below_drewN | apply below_drew1 | refine below_set ?_ GE177.out) | exact HB.out))) : w.heap.size ≤ gb193)); have n6_ := Aside0.mk ((by rw [hg]; exact (below_size (by repeat (first | (with_reducible first | exact HB.out | apply below_alloc | apply pw_below_drewN | apply below_drew1 | refine below_set ?_ GE177.out) | exact HB.out))) : w.heap.size ≤ gb193)); have n7_ := Aside0.mk ((by rw [hg]; exact Nat.ne_of_lt (blk_lt (g := gb177) (o := .cells #[.bool ((rd_T27 l2 x79_3).f0), .slice A176_1 ((rd_T27 l2 x79_3).f1).length c176_1, .slice A176_2 ((rd_T27 l2 x79_3).f2).length c176_2] 27 (0, 0)) (by (with_reducible repeat (first | refine blk_drewN ?_ _ | refine blk_drew ?_ | refine blk_alloc ?_ _)); exact BK177.out)) : gb177 ≠ gb193)); have n8_ := Aside0.mk ((by rw [hg]; exact Nat.ne_of_gt (blk_lt (g := gb177) (o := .cells #[.bool ((rd_T27 l2 x79_3).f0), .slice A176_1 ((rd_T27 l2 x79_3).f1).length c176_1, .slice A176_2 ((rd_T27 l2 x79_3).f2).length c176_2] 27 (0, 0)) (by (with_reducible repeat (first | refine blk_drewN ?_ _ | refine blk_drew ?_ | refine blk_alloc ?_ _)); exact BK177.out)) : gb193 ≠ gb177)); clear HO_9; clear HO_13; clear BK177; clear HB; have HO_9 := n0_; have HO_13 := n1_; have BK177 := n2_; have HB := n3_; have BK193 := n4_; have GW193 := n5_; have GE193 := n6_; have NB177_193 := n7_; have NB193_177 := n8_; clear n0_ n1_ n2_ n3_ n4_ n5_ n6_ n7_ n8_; clear hb hbox hg; have hnb87 := NB193_177.out; have hnc87 := NB177_193.out; have hcz88_0 : w86.cell? ⟨gb193, 0, none⟩ = some (.bool false) := (blk_cell BK193.out 0).trans rfl; have hcz88_1 : w86.cell? ⟨gb193, 1, none⟩ = some (.slice none 0 0) := (blk_cell BK193.out 1).trans rfl; have hcz88_2 : w86.cell? ⟨gb193, 2, none⟩ = some (.slice none 0 0) := (blk_cell BK193.out 2).trans rfl; have hfz88_0 := blk_frozen BK193.out 0; have hfz88_1 := blk_frozen BK193.out 1; have hfz88_2 := blk_frozen BK193.out 2; have hcz89_0 : w86.cell? ⟨gb177, 0, none⟩ = some (.bool ((rd_T27 l2 x79_3).f0)) := (blk_cell BK177.out 0).trans rfl; have hcz89_1 : w86.cell? ⟨gb177, 1, none⟩ = some (.slice A176_1 ((rd_T27 l2 x79_3).f1).length c176_1) := (blk_cell BK177.out 1).trans rfl; have hcz89_2 : w86.cell? ⟨gb177, 2, none⟩ = some (.slice A176_2 ((rd_T27 l2 x79_3).f2).length c176_2) := (blk_cell BK177.out 2).trans rfl; have hfz89_0 := blk_frozen BK177.out 0; have hfz89_1 := blk_frozen BK177.out 1; have hfz89_2 := blk_frozen BK177.out 2) | (go_at_call 9; (with_reducible refine (laws_sameNumbers.calls k6 _ _ ((rd_T27 y186 x125_6).f1) _ _ ((rd_T27 l2 x79_3).f1) false _ ?side1 ?side2 ?side3 ?side4 A72.out).mono ?_); (case side1 => exact Kd.C_below HR192_1.out (by repeat (first | (with_reducible first | exact HB.out | apply below_alloc | apply pw_below_drewN | apply below_drew1 | refine below_set ?_ GE177.out | refine below_set ?_ GE193.out) | exact HB.out))); (case side2 => exact HC192_1.out); (case side3 => exact Kd.C_below HR176_1.out (by repeat (first | (with_reducible first | exact HB.out | apply below_alloc | apply pw_below_drewN | apply below_drew1 | refine below_set ?_ GE177.out | refine below_set ?_ GE193.out) | exact HB.out))); (case side4 => exact HC176_1.out); rintro e w' ⟨rfl, ⟨nd, rfl⟩⟩; (try first | exact ⟨rfl, _, World.drewN_drewN _ _ _⟩ | exact ⟨rfl, _, Eq.trans (World.drewN_drewN _ _ _) (congrArg (World.drewN _) (Nat.add_assoc _ _ _))⟩))))
                                                          go_roundg k6
                                                          case measure => have := HJ5.out; have := HK2.out; have := HK3.out; have := HJ39.out; have := HJ54.out; have := HK6.out; omega
                                                          case rel => exact ⟨(x13_6), (wrap64 (x125_6 + 1)), (by first | rfl | (simp; done) | (simp [*]; done)), H', ⟨by have := HJ5.out; have := HK2.out; have := HK3.out; have := HJ39.out; have := HJ54.out; have := HK6.out; omega⟩, ⟨by (with_reducible repeat (first | apply Kd.R_alloc | apply Kd.R_drewN | apply Kd.R_drew)); exact Kd.R_mono (Kd.R_far (p := ⟨gb193, 2, none⟩) (Kd.R_far (p := ⟨gb193, 1, none⟩) (Kd.R_far (p := ⟨gb193, 0, none⟩) (Kd.R_types HO_9.out BK193.out (by decide)) (fun _ hk => hk.2) (.bool true)) (fun _ hk => hk.2) (.slice A192_1 ((rd_T27 y186 x125_6).f1).length c192_1)) (fun _ hk => hk.2) (.slice A192_2 ((rd_T27 y186 x125_6).f2).length c192_2)) (fun _ hk => hk.1)⟩, ⟨by (with_reducible repeat (first | apply Mx_alloc | apply Mx_drewN | apply Mx_drew)); exact Mx_mono (Mx_far (p := ⟨gb193, 2, none⟩) (Mx_far (p := ⟨gb193, 1, none⟩) (Mx_far (p := ⟨gb193, 0, none⟩) (Mx_types HO_13.out BK193.out (by decide)) (fun _ hk => hk.2) (.bool true)) (fun _ hk => hk.2) (.slice A192_1 ((rd_T27 y186 x125_6).f1).length c192_1)) (fun _ hk => hk.2) (.slice A192_2 ((rd_T27 y186 x125_6).f2).length c192_2)) (fun _ hk => trivial)⟩, ⟨by (with_reducible repeat (first | refine blk_drewN ?_ _ | refine blk_drew ?_ | refine blk_alloc ?_ _)); refine blk_far ?_ NB177_193.out _; (with_reducible repeat (first | refine blk_drewN ?_ _ | refine blk_drew ?_ | refine blk_alloc ?_ _)); refine blk_far ?_ NB177_193.out _; (with_reducible repeat (first | refine blk_drewN ?_ _ | refine blk_drew ?_ | refine blk_alloc ?_ _)); refine blk_far ?_ NB177_193.out _; (with_reducible repeat (first | refine blk_drewN ?_ _ | refine blk_drew ?_ | refine blk_alloc ?_ _)); exact BK177.out⟩, ⟨by repeat (first | (with_reducible first | exact HB.out | apply below_alloc | apply pw_below_drewN | apply below_drew1 | refine below_set ?_ GE177.out | refine below_set ?_ GE193.out) | exact HB.out)⟩⟩
                                                      · rw [if_neg c71] at H
                                                        have c71b0 : decide (0 < (((rd_T27 l2 x79_3).f1).length : Int)) = false := decide_eq_false c71
                                                        have c71b1 : decide (0 < ((rd_T27 l2 x79_3).f1).length) = false := decide_eq_false (by omega)
                                                        clear c71
                                                        have H' := Aside0.mk H
                                                        clear H
                                                        have p192 : 0 ≤ (x125_6 : Int) := of_decide_eq_true (by first | (with_reducible assumption) | assumption)
                                                        have q192 : x125_6 < (y186.length : Int) := of_decide_eq_true (by first | (with_reducible assumption) | assumption)
                                                        obtain ⟨ad192, A192_1, c192_1, A192_2, c192_2, e192, hx192_0, hx192_1, hx192_2, hl192_1, hi192_1, hl192_2, hi192_2⟩ := at_T27 HR189.out x125_6 p192 q192
                                                        (try rw [← Nbq69.out] at hx192_0)
                                                        obtain rfl : ad176 = ad192 := (by injection e192)
                                                        replace hx192_0 := (HB.out.cell (World.block_lt_of_cell? w _ hx192_0)).trans hx192_0
                                                        replace hx192_1 := (HB.out.cell (World.block_lt_of_cell? w _ hx192_1)).trans hx192_1
                                                        replace hx192_2 := (HB.out.cell (World.block_lt_of_cell? w _ hx192_2)).trans hx192_2
                                                        have HR192_1 := Aside0.mk hi192_1
                                                        have HC192_1 := Aside0.mk hl192_1
                                                        clear hi192_1 hl192_1
                                                        have HR192_2 := Aside0.mk hi192_2
                                                        have HC192_2 := Aside0.mk hl192_2
                                                        clear hi192_2 hl192_2
                                                        replace p192 := eq_true p192
                                                        replace q192 := eq_true q192
                                                        go_wp2_with (first | ((with_reducible refine gate_dst (N := 15) rfl ?_); (try (refine gate_guard (by rfl) ?_; dsimp only)); refine box_event ?hg (N := 15) ?hd (cs := #[.bool false, .slice none 0 0, .slice none 0 0]) (t := 27) ?hr ?_; (case hd => rfl); (case hg => rfl); (case hr => first | (go_simp; done) | (go_simp; rfl)); intro gb193 hg w90 hbox hb; have n0_ := Aside0.mk (Kd.R_below (by (with_reducible repeat (first | apply Kd.R_alloc | apply Kd.R_drewN | apply Kd.R_drew)); exact HO_9.out) hb); have n1_ := Aside0.mk (Mx_below (by (with_reducible repeat (first | apply Mx_alloc | apply Mx_drewN | apply Mx_drew)); exact HO_13.out) hb); have n2_ := Aside0.mk (blk_below (g := gb177) (o := .cells #[.bool ((rd_T27 l2 x79_3).f0), .slice A176_1 ((rd_T27 l2 x79_3).f1).length c176_1, .slice A176_2 ((rd_T27 l2 x79_3).f2).length c176_2] 27 (0, 0)) (by (with_reducible repeat (first | refine blk_drewN ?_ _ | refine blk_drew ?_ | refine blk_alloc ?_ _)); exact BK177.out) hb); have n3_ := Aside0.mk (below_step (by repeat (first | (with_reducible first | exact HB.out | apply below_alloc | apply pw_below_drewN | apply below_drew1 | refine below_set ?_ GE177.out) | exact HB.out)) hb); have n4_ := Aside0.mk (hbox); have n5_ := Aside0.mk ((by rw [hg]; exact (below_size (by repeat (first | (with_reducible first | exact HB.out | apply below_alloc | apply pw_below_drewN | apply below_drew1 | refine below_set ?_ GE177.out) | exact HB.out))) : w.heap.size ≤ gb193)); have n6_ := Aside0.mk ((by rw [hg]; exact (below_size (by repeat (first | (with_reducible first | exact HB.out | apply below_alloc | apply pw_below_drewN | apply below_drew1 | refine below_set ?_ GE177.out) | exact HB.out))) : w.heap.size ≤ gb193)); have n7_ := Aside0.mk ((by rw [hg]; exact Nat.ne_of_lt (blk_lt (g := gb177) (o := .cells #[.bool ((rd_T27 l2 x79_3).f0), .slice A176_1 ((rd_T27 l2 x79_3).f1).length c176_1, .slice A176_2 ((rd_T27 l2 x79_3).f2).length c176_2] 27 (0, 0)) (by (with_reducible repeat (first | refine blk_drewN ?_ _ | refine blk_drew ?_ | refine blk_alloc ?_ _)); exact BK177.out)) : gb177 ≠ gb193)); have n8_ := Aside0.mk ((by rw [hg]; exact Nat.ne_of_gt (blk_lt (g := gb177) (o := .cells #[.bool ((rd_T27 l2 x79_3).f0), .slice A176_1 ((rd_T27 l2 x79_3).f1).length c176_1, .slice A176_2 ((rd_T27 l2 x79_3).f2).length c176_2] 27 (0, 0)) (by (with_reducible repeat (first | refine blk_drewN ?_ _ | refine blk_drew ?_ | refine blk_alloc ?_ _)); exact BK177.out)) : gb193 ≠ gb177)); clear HO_9; clear HO_13; clear BK177; clear HB; have HO_9 := n0_; have HO_13 := n1_; have BK177 := n2_; have HB := n3_; have BK193 := n4_; have GW193 := n5_; have GE193 := n6_; have NB177_193 := n7_; have NB193_177 := n8_; clear n0_ n1_ n2_ n3_ n4_ n5_ n6_ n7_ n8_; clear hb hbox hg; have hnb91 := NB193_177.out; have hnc91 := NB177_193.out; have hcz92_0 : w90.cell? ⟨gb193, 0, none⟩ = some (.bool false) := (blk_cell BK193.out 0).trans rfl; have hcz92_1 : w90.cell? ⟨gb193, 1, none⟩ = some (.slice none 0 0) := (blk_cell BK193.out 1).trans rfl; have hcz92_2 : w90.cell? ⟨gb193, 2, none⟩ = some (.slice none 0 0) := (blk_cell BK193.out 2).trans rfl; have hfz92_0 := blk_frozen BK193.out 0; have hfz92_1 := blk_frozen BK193.out 1; have hfz92_2 := blk_frozen BK193.out 2; have hcz93_0 : w90.cell? ⟨gb177, 0, none⟩ = some (.bool ((rd_T27 l2 x79_3).f0)) := (blk_cell BK177.out 0).trans rfl; have hcz93_1 : w90.cell? ⟨gb177, 1, none⟩ = some (.slice A176_1 ((rd_T27 l2 x79_3).f1).length c176_1) := (blk_cell BK177.out 1).trans rfl; have hcz93_2 : w90.cell? ⟨gb177, 2, none⟩ = some (.slice A176_2 ((rd_T27 l2 x79_3).f2).length c176_2) := (blk_cell BK177.out 2).trans rfl; have hfz93_0 := blk_frozen BK177.out 0; have hfz93_1 := blk_frozen BK177.out 1; have hfz93_2 := blk_frozen BK177.out 2))
                                                        repeat (go_quiet (first | ((with_reducible refine gate_dst (N := 15) rfl ?_); (try (refine gate_guard (by rfl) ?_; dsimp only)); refine box_event ?hg (N := 15) ?hd (cs := #[.bool false, .slice none 0 0, .slice none 0 0]) (t := 27) ?hr ?_; (case hd => rfl); (case hg => rfl); (case hr => first | (go_simp; done) | (go_simp; rfl)); intro gb193 hg w90 hbox hb; have n0_ := Aside0.mk (Kd.R_below (by (with_reducible repeat (first | apply Kd.R_alloc | apply Kd.R_drewN | apply Kd.R_drew)); exact HO_9.out) hb); have n1_ := Aside0.mk (Mx_below (by (with_reducible repeat (first | apply Mx_alloc | apply Mx_drewN | apply Mx_drew)); exact HO_13.out) hb); have n2_ := Aside0.mk (blk_below (g := gb177) (o := .cells #[.bool ((rd_T27 l2 x79_3).f0), .slice A176_1 ((rd_T27 l2 x79_3).f1).length c176_1, .slice A176_2 ((rd_T27 l2 x79_3).f2).length c176_2] 27 (0, 0)) (by (with_reducible repeat (first | refine blk_drewN ?_ _ | refine blk_drew ?_ | refine blk_alloc ?_ _)); exact BK177.out) hb); have n3_ := Aside0.mk (below_step (by repeat (first | (with_reducible first | exact HB.out | apply below_alloc | apply pw_below_drewN | apply below_drew1 | refine below_set ?_ GE177.out) | exact HB.out)) hb); have n4_ := Aside0.mk (hbox); have n5_ := Aside0.mk ((by rw [hg]; exact (below_size (by repeat (first | (with_reducible first | exact HB.out | apply below_alloc | apply pw_below_drewN | apply below_drew1 | refine below_set ?_ GE177.out) | exact HB.out))) : w.heap.size ≤ gb193)); have n6_ := Aside0.mk ((by rw [hg]; exact (below_size (by repeat (first | (with_reducible first | exact HB.out | apply below_alloc | apply pw_below_drewN | apply below_drew1 | refine below_set ?_ GE177.out) | exact HB.out))) : w.heap.size ≤ gb193)); have n7_ := Aside0.mk ((by rw [hg]; exact Nat.ne_of_lt (blk_lt (g := gb177) (o := .cells #[.bool ((rd_T27 l2 x79_3).f0), .slice A176_1 ((rd_T27 l2 x79_3).f1).length c176_1, .slice A176_2 ((rd_T27 l2 x79_3).f2).length c176_2] 27 (0, 0)) (by (with_reducible repeat (first | refine blk_drewN ?_ _ | refine blk_drew ?_ | refine blk_alloc ?_ _)); exact BK177.out)) : gb177 ≠ gb193)); have n8_ := Aside0.mk ((by rw [hg]; exact Nat.ne_of_gt (blk_lt (g := gb177) (o := .cells #[.bool ((rd_T27 l2 x79_3).f0), .slice A176_1 ((rd_T27 l2 x79_3).f1).length c176_1, .slice A176_2 ((rd_T27 l2 x79_3).f2).length c176_2] 27 (0, 0)) (by (with_reducible repeat (first | refine blk_drewN ?_ _ | refine blk_drew ?_ | refine blk_alloc ?_ _)); exact BK177.out)) : gb193 ≠ gb177)); clear HO_9; clear HO_13; clear BK177; clear HB; have HO_9 := n0_; have HO_13 := n1_; have BK177 := n2_; have HB := n3_; have BK193 := n4_; have GW193 := n5_; have GE193 := n6_; have NB177_193 := n7_; have NB193_177 := n8_; clear n0_ n1_ n2_ n3_ n4_ n5_ n6_ n7_ n8_; clear hb hbox hg; have hnb91 := NB193_177.out; have hnc91 := NB177_193.out; have hcz92_0 : w90.cell? ⟨gb193, 0, none⟩ = some (.bool false) := (blk_cell BK193.out 0).trans rfl; have hcz92_1 : w90.cell? ⟨gb193, 1, none⟩ = some (.slice none 0 0) := (blk_cell BK193.out 1).trans rfl; have hcz92_2 : w90.cell? ⟨gb193, 2, none⟩ = some (.slice none 0 0) := (blk_cell BK193.out 2).trans rfl; have hfz92_0 := blk_frozen BK193.out 0; have hfz92_1 := blk_frozen BK193.out 1; have hfz92_2 := blk_frozen BK193.out 2; have hcz93_0 : w90.cell? ⟨gb177, 0, none⟩ = some (.bool ((rd_T27 l2 x79_3).f0)) := (blk_cell BK177.out 0).trans rfl; have hcz93_1 : w90.cell? ⟨gb177, 1, none⟩ = some (.slice A176_1 ((rd_T27 l2 x79_3).f1).length c176_1) := (blk_cell BK177.out 1).trans rfl; have hcz93_2 : w90.cell? ⟨gb177, 2, none⟩ = some (.slice A176_2 ((rd_T27 l2 x79_3).f2).length c176_2) := (blk_cell BK177.out 2).trans rfl; have hfz93_0 := blk_frozen BK177.out 0; have hfz93_1 := blk_frozen BK177.out 1; have hfz93_2 := blk_frozen BK177.out 2)); try go_wp2_with (first | ((with_reducible refine gate_dst (N := 15) rfl ?_); (try (refine gate_guard (by rfl) ?_; dsimp only)); refine box_event ?hg (N := 15) ?hd (cs := #[.bool false, .slice none 0 0, .slice none 0 0]) (t := 27) ?hr ?_; (case hd => rfl); (case hg => rfl); (case hr => first | (go_simp; done) | (go_simp; rfl)); intro gb193 hg w90 hbox hb; have n0_ := Aside0.mk (Kd.R_below (by (with_reducible repeat (first | apply Kd.R_alloc | apply Kd.R_drewN | apply Kd.R_drew)); exact HO_9.out) hb); have n1_ := Aside0.mk (Mx_below (by (with_reducible repeat (first | apply Mx_alloc | apply Mx_drewN | apply Mx_drew)); exact HO_13.out) hb); have n2_ := Aside0.mk (blk_below (g := gb177) (o := .cells #[.bool ((rd_T27 l2 x79_3).f0), .slice A176_1 ((rd_T27 l2 x79_3).f1).length c176_1, .slice A176_2 ((rd_T27 l2 x79_3).f2).length c176_2] 27 (0, 0)) (by (with_reducible repeat (first | refine blk_drewN ?_ _ | refine blk_drew ?_ | refine blk_alloc ?_ _)); exact BK177.out) hb); have n3_ := Aside0.mk (below_step (by repeat (first | (with_reducible first | exact HB.out | apply below_alloc | apply pw_below_drewN | apply below_drew1 | refine below_set ?_ GE177.out) | exact HB.out)) hb); have n4_ := Aside0.mk (hbox); have n5_ := Aside0.mk ((by rw [hg]; exact (below_size (by repeat (first | (with_reducible first | exact HB.out | apply below_alloc | apply pw_below_drewN | apply below_drew1 | refine below_set ?_ GE177.out) | exact HB.out))) : w.heap.size ≤ gb193)); have n6_ := Aside0.mk ((by rw [hg]; exact (below_size (by repeat (first | (with_reducible first | exact HB.out | apply below_alloc | apply pw_below_drewN | apply below_drew1 | refine below_set ?_ GE177.out) | exact HB.out))) : w.heap.size ≤ gb193)); have n7_ := Aside0.mk ((by rw [hg]; exact Nat.ne_of_lt (blk_lt (g := gb177) (o := .cells #[.bool ((rd_T27 l2 x79_3).f0), .slice A176_1 ((rd_T27 l2 x79_3).f1).length c176_1, .slice A176_2 ((rd_T27 l2 x79_3).f2).length c176_2] 27 (0, 0)) (by (with_reducible repeat (first | refine blk_drewN ?_ _ | refine blk_drew ?_ | refine blk_alloc ?_ _)); exact BK177.out)) : gb177 ≠ gb193)); have n8_ := Aside0.mk ((by rw [hg]; exact Nat.ne_of_gt (blk_lt (g := gb177) (o := .cells #[.bool ((rd_T27 l2 x79_3).f0), .slice A176_1 ((rd_T27 l2 x79_3).f1).length c176_1, .slice A176_2 ((rd_T27 l2 x79_3).f2).length c176_2] 27 (0, 0)) (by (with_reducible repeat (first | refine blk_drewN ?_ _ | refine blk_drew ?_ | refine blk_alloc ?_ _)); exact BK177.out)) : gb193 ≠ gb177)); clear HO_9; clear HO_13; clear BK177; clear HB; have HO_9 := n0_; have HO_13 := n1_; have BK177 := n2_; have HB := n3_; have BK193 := n4_; have GW193 := n5_; have GE193 := n6_; have NB177_193 := n7_; have NB193_177 := n8_; clear n0_ n1_ n2_ n3_ n4_ n5_ n6_ n7_ n8_; clear hb hbox hg; have hnb91 := NB193_177.out; have hnc91 := NB177_193.out; have hcz92_0 : w90.cell? ⟨gb193, 0, none⟩ = some (.bool false) := (blk_cell BK193.out 0).trans rfl; have hcz92_1 : w90.cell? ⟨gb193, 1, none⟩ = some (.slice none 0 0) := (blk_cell BK193.out 1).trans rfl; have hcz92_2 : w90.cell? ⟨gb193, 2, none⟩ = some (.slice none 0 0) := (blk_cell BK193.out 2).trans rfl; have hfz92_0 := blk_frozen BK193.out 0; have hfz92_1 := blk_frozen BK193.out 1; have hfz92_2 := blk_frozen BK193.out 2; have hcz93_0 : w90.cell? ⟨gb177, 0, none⟩ = some (.bool ((rd_T27 l2 x79_3).f0)) := (blk_cell BK177.out 0).trans rfl; have hcz93_1 : w90.cell? ⟨gb177, 1, none⟩ = some (.slice A176_1 ((rd_T27 l2 x79_3).f1).length c176_1) := (blk_cell BK177.out 1).trans rfl; have hcz93_2 : w90.cell? ⟨gb177, 2, none⟩ = some (.slice A176_2 ((rd_T27 l2 x79_3).f2).length c176_2) := (blk_cell BK177.out 2).trans rfl; have hfz93_0 := blk_frozen BK177.out 0; have hfz93_1 := blk_frozen BK177.out 1; have hfz93_2 := blk_frozen BK177.out 2)))
                                                        go_roundg k6
                                                        case measure => have := HJ5.out; have := HK2.out; have := HK3.out; have := HJ39.out; have := HJ54.out; have := HK6.out; omega
                                                        case rel => exact ⟨(x13_6), (wrap64 (x125_6 + 1)), (by first | rfl | (simp; done) | (simp [*]; done)), H', ⟨by have := HJ5.out; have := HK2.out; have := HK3.out; have := HJ39.out; have := HJ54.out; have := HK6.out; omega⟩, ⟨by (with_reducible repeat (first | apply Kd.R_alloc | apply Kd.R_drewN | apply Kd.R_drew)); exact Kd.R_mono (Kd.R_far (p := ⟨gb193, 2, none⟩) (Kd.R_far (p := ⟨gb193, 1, none⟩) (Kd.R_far (p := ⟨gb193, 0, none⟩) (Kd.R_types HO_9.out BK193.out (by decide)) (fun _ hk => hk.2) (.bool true)) (fun _ hk => hk.2) (.slice A192_1 ((rd_T27 y186 x125_6).f1).length c192_1)) (fun _ hk => hk.2) (.slice A192_2 ((rd_T27 y186 x125_6).f2).length c192_2)) (fun _ hk => hk.1)⟩, ⟨by (with_reducible repeat (first | apply Mx_alloc | apply Mx_drewN | apply Mx_drew)); exact Mx_mono (Mx_far (p := ⟨gb193, 2, none⟩) (Mx_far (p := ⟨gb193, 1, none⟩) (Mx_far (p := ⟨gb193, 0, none⟩) (Mx_types HO_13.out BK193.out (by decide)) (fun _ hk => hk.2) (.bool true)) (fun _ hk => hk.2) (.slice A192_1 ((rd_T27 y186 x125_6).f1).length c192_1)) (fun _ hk => hk.2) (.slice A192_2 ((rd_T27 y186 x125_6).f2).length c192_2)) (fun _ hk => trivial)⟩, ⟨by (with_reducible repeat (first | refine blk_drewN ?_ _ | refine blk_drew ?_ | refine blk_alloc ?_ _)); refine blk_far ?_ NB177_193.out _; (with_reducible repeat (first | refine blk_drewN ?_ _ | refine blk_drew ?_ | refine blk_alloc ?_ _)); refine blk_far ?_ NB177_193.out _; (with_reducible repeat (first | refine blk_drewN ?_ _ | refine blk_drew ?_ | refine blk_alloc ?_ _)); refine blk_far ?_ NB177_193.out _; (with_reducible repeat (first | refine blk_drewN ?_ _ | refine blk_drew ?_ | refine blk_alloc ?_ _)); exact BK177.out⟩, ⟨by repeat (first | (with_reducible first | exact HB.out | apply below_alloc | apply pw_below_drewN | apply below_drew1 | refine below_set ?_ GE177.out | refine below_set ?_ GE193.out) | exact HB.out)⟩⟩
                                                    · replace c70 := Bool.eq_false_iff.mpr c70
                                                      subst c70
                                                      have H1 : (laws_FnCache.l2 k6 a0 l2 t173 x79_3 x13_6 l2 (l2.length : Int) x79_3 y186 (y186.length : Int) (wrap64 (x125_6 + 1)) ((rd_T27 l2 x79_3).f0) ((rd_T27 l2 x79_3).f1) ((rd_T27 l2 x79_3).f2)) = some r := by rw [if_neg (show ¬ (false = true) by decide)] at H; exact H
                                                      clear H
                                                      have H := H1
                                                      clear H1
                                                      have H' := Aside0.mk H
                                                      clear H
                                                      have p192 : 0 ≤ (x125_6 : Int) := of_decide_eq_true (by first | (with_reducible assumption) | assumption)
                                                      have q192 : x125_6 < (y186.length : Int) := of_decide_eq_true (by first | (with_reducible assumption) | assumption)
                                                      obtain ⟨ad192, A192_1, c192_1, A192_2, c192_2, e192, hx192_0, hx192_1, hx192_2, hl192_1, hi192_1, hl192_2, hi192_2⟩ := at_T27 HR189.out x125_6 p192 q192
                                                      (try rw [← Nbq69.out] at hx192_0)
                                                      obtain rfl : ad176 = ad192 := (by injection e192)
                                                      replace hx192_0 := (HB.out.cell (World.block_lt_of_cell? w _ hx192_0)).trans hx192_0
                                                      replace hx192_1 := (HB.out.cell (World.block_lt_of_cell? w _ hx192_1)).trans hx192_1
                                                      replace hx192_2 := (HB.out.cell (World.block_lt_of_cell? w _ hx192_2)).trans hx192_2
                                                      have HR192_1 := Aside0.mk hi192_1
                                                      have HC192_1 := Aside0.mk hl192_1
                                                      clear hi192_1 hl192_1
                                                      have HR192_2 := Aside0.mk hi192_2
                                                      have HC192_2 := Aside0.mk hl192_2
                                                      clear hi192_2 hl192_2
                                                      replace p192 := eq_true p192
                                                      replace q192 := eq_true q192
                                                      go_wp2_with (first | ((with_reducible refine gate_dst (N := 15) rfl ?_); (try (refine gate_guard (by rfl) ?_; dsimp only)); refine box_event ?hg (N := 15) ?hd (cs := #[.bool false, .slice none 0 0, .slice none 0 0]) (t := 27) ?hr ?_; (case hd => rfl); (case hg => rfl); (case hr => first | (go_simp; done) | (go_simp; rfl)); intro gb193 hg w94 hbox hb; have n0_ := Aside0.mk (Kd.R_below (by (with_reducible repeat (first | apply Kd.R_alloc | apply Kd.R_drewN | apply Kd.R_drew)); exact HO_9.out) hb); have n1_ := Aside0.mk (Mx_below (by (with_reducible repeat (first | apply Mx_alloc | apply Mx_drewN | apply Mx_drew)); exact HO_13.out) hb); have n2_ := Aside0.mk (blk_below (g := gb177) (o := .cells #[.bool ((rd_T27 l2 x79_3).f0), .slice A176_1 ((rd_T27 l2 x79_3).f1).length c176_1, .slice A176_2 ((rd_T27 l2 x79_3).f2).length c176_2] 27 (0, 0)) (by (with_reducible repeat (first | refine blk_drewN ?_ _ | refine blk_drew ?_ | refine blk_alloc ?_ _)); exact BK177.out) hb); have n3_ := Aside0.mk (below_step (by repeat (first | (with_reducible first | exact HB.out | apply below_alloc | apply pw_below_drewN | apply below_drew1 | refine below_set ?_ GE177.out) | exact HB.out)) hb); have n4_ := Aside0.mk (hbox); have n5_ := Aside0.mk ((by rw [hg]; exact (below_size (by repeat (first | (with_reducible first | exact HB.out | apply below_alloc | apply pw_below_drewN | apply below_drew1 | refine below_set ?_ GE177.out) | exact HB.out))) : w.heap.size ≤ gb193)); have n6_ := Aside0.mk ((by rw [hg]; exact (below_size (by repeat (first | (with_reducible first | exact HB.out | apply below_alloc | apply pw_below_drewN | apply below_drew1 | refine below_set ?_ GE177.out) | exact HB.out))) : w.heap.size ≤ gb193)); have n7_ := Aside0.mk ((by rw [hg]; exact Nat.ne_of_lt (blk_lt (g := gb177) (o := .cells #[.bool ((rd_T27 l2 x79_3).f0), .slice A176_1 ((rd_T27 l2 x79_3).f1).length c176_1, .slice A176_2 ((rd_T27 l2 x79_3).f2).length c176_2] 27 (0, 0)) (by (with_reducible repeat (first | refine blk_drewN ?_ _ | refine blk_drew ?_ | refine blk_alloc ?_ _)); exact BK177.out)) : gb177 ≠ gb193)); have n8_ := Aside0.mk ((by rw [hg]; exact Nat.ne_of_gt (blk_lt (g := gb177) (o := .cells #[.bool ((rd_T27 l2 x79_3).f0), .slice A176_1 ((rd_T27 l2 x79_3).f1).length c176_1, .slice A176_2 ((rd_T27 l2 x79_3).f2).length c176_2] 27 (0, 0)) (by (with_reducible repeat (first | refine blk_drewN ?_ _ | refine blk_drew ?_ | refine blk_alloc ?_ _)); exact BK177.out)) : gb193 ≠ gb177)); clear HO_9; clear HO_13; clear BK177; clear HB; have HO_9 := n0_; have HO_13 := n1_; have BK177 := n2_; have HB := n3_; have BK193 := n4_; have GW193 := n5_; have GE193 := n6_; have NB177_193 := n7_; have NB193_177 := n8_; clear n0_ n1_ n2_ n3_ n4_ n5_ n6_ n7_ n8_; clear hb hbox hg; have hnb95 := NB193_177.out; have hnc95 := NB177_193.out; have hcz96_0 : w94.cell? ⟨gb193, 0, none⟩ = some (.bool false) := (blk_cell BK193.out 0).trans rfl; have hcz96_1 : w94.cell? ⟨gb193, 1, none⟩ = some (.slice none 0 0) := (blk_cell BK193.out 1).trans rfl; have hcz96_2 : w94.cell? ⟨gb193, 2, none⟩ = some (.slice none 0 0) := (blk_cell BK193.out 2).trans rfl; have hfz96_0 := blk_frozen BK193.out 0; have hfz96_1 := blk_frozen BK193.out 1; have hfz96_2 := blk_frozen BK193.out 2))
                                                      repeat (go_quiet (first | ((with_reducible refine gate_dst (N := 15) rfl ?_); (try (refine gate_guard (by rfl) ?_; dsimp only)); refine box_event ?hg (N := 15) ?hd (cs := #[.bool false, .slice none 0 0, .slice none 0 0]) (t := 27) ?hr ?_; (case hd => rfl); (case hg => rfl); (case hr => first | (go_simp; done) | (go_simp; rfl)); intro gb193 hg w94 hbox hb; have n0_ := Aside0.mk (Kd.R_below (by (with_reducible repeat (first | apply Kd.R_alloc | apply Kd.R_drewN | apply Kd.R_drew)); exact HO_9.out) hb); have n1_ := Aside0.mk (Mx_below (by (with_reducible repeat (first | apply Mx_alloc | apply Mx_drewN | apply Mx_drew)); exact HO_13.out) hb); have n2_ := Aside0.mk (blk_below (g := gb177) (o := .cells #[.bool ((rd_T27 l2 x79_3).f0), .slice A176_1 ((rd_T27 l2 x79_3).f1).length c176_1, .slice A176_2 ((rd_T27 l2 x79_3).f2).length c176_2] 27 (0, 0)) (by (with_reducible repeat (first | refine blk_drewN ?_ _ | refine blk_drew ?_ | refine blk_alloc ?_ _)); exact BK177.out) hb); have n3_ := Aside0.mk (below_step (by repeat (first | (with_reducible first | exact HB.out | apply below_alloc | apply pw_below_drewN | apply below_drew1 | refine below_set ?_ GE177.out) | exact HB.out)) hb); have n4_ := Aside0.mk (hbox); have n5_ := Aside0.mk ((by rw [hg]; exact (below_size (by repeat (first | (with_reducible first | exact HB.out | apply below_alloc | apply pw_below_drewN | apply below_drew1 | refine below_set ?_ GE177.out) | exact HB.out))) : w.heap.size ≤ gb193)); have n6_ := Aside0.mk ((by rw [hg]; exact (below_size (by repeat (first | (with_reducible first | exact HB.out | apply below_alloc | apply pw_below_drewN | apply below_drew1 | refine below_set ?_ GE177.out) | exact HB.out))) : w.heap.size ≤ gb193)); have n7_ := Aside0.mk ((by rw [hg]; exact Nat.ne_of_lt (blk_lt (g := gb177) (o := .cells #[.bool ((rd_T27 l2 x79_3).f0), .slice A176_1 ((rd_T27 l2 x79_3).f1).length c176_1, .slice A176_2 ((rd_T27 l2 x79_3).f2).length c176_2] 27 (0, 0)) (by (with_reducible repeat (first | refine blk_drewN ?_ _ | refine blk_drew ?_ | refine blk_alloc ?_ _)); exact BK177.out)) : gb177 ≠ gb193)); have n8_ := Aside0.mk ((by rw [hg]; exact Nat.ne_of_gt (blk_lt (g := gb177) (o := .cells #[.bool ((rd_T27 l2 x79_3).f0), .slice A176_1 ((rd_T27 l2 x79_3).f1).length c176_1, .slice A176_2 ((rd_T27 l2 x79_3).f2).length c176_2] 27 (0, 0)) (by (with_reducible repeat (first | refine blk_drewN ?_ _ | refine blk_drew ?_ | refine blk_alloc ?_ _)); exact BK177.out)) : gb193 ≠ gb177)); clear HO_9; clear HO_13; clear BK177; clear HB; have HO_9 := n0_; have HO_13 := n1_; have BK177 := n2_; have HB := n3_; have BK193 := n4_; have GW193 := n5_; have GE193 := n6_; have NB177_193 := n7_; have NB193_177 := n8_; clear n0_ n1_ n2_ n3_ n4_ n5_ n6_ n7_ n8_; clear hb hbox hg; have hnb95 := NB193_177.out; have hnc95 := NB177_193.out; have hcz96_0 : w94.cell? ⟨gb193, 0, none⟩ = some (.bool false) := (blk_cell BK193.out 0).trans rfl; have hcz96_1 : w94.cell? ⟨gb193, 1, none⟩ = some (.slice none 0 0) := (blk_cell BK193.out 1).trans rfl; have hcz96_2 : w94.cell? ⟨gb193, 2, none⟩ = some (.slice none 0 0) := (blk_cell BK193.out 2).trans rfl; have hfz96_0 := blk_frozen BK193.out 0; have hfz96_1 := blk_frozen BK193.out 1; have hfz96_2 := blk_frozen BK193.out 2)); try go_wp2_with (first | ((with_reducible refine gate_dst (N := 15) rfl ?_); (try (refine gate_guard (by rfl) ?_; dsimp only)); refine box_event ?hg (N := 15) ?hd (cs := #[.bool false, .slice none 0 0, .slice none 0 0]) (t := 27) ?hr ?_; (case hd => rfl); (case hg => rfl); (case hr => first | (go_simp; done) | (go_simp; rfl)); intro gb193 hg w94 hbox hb; have n0_ := Aside0.mk (Kd.R_below (by (with_reducible repeat (first | apply Kd.R_alloc | apply Kd.R_drewN | apply Kd.R_drew)); exact HO_9.out) hb); have n1_ := Aside0.mk (Mx_below (by (with_reducible repeat (first | apply Mx_alloc | apply Mx_drewN | apply Mx_drew)); exact HO_13.out) hb); have n2_ := Aside0.mk (blk_below (g := gb177) (o := .cells #[.bool ((rd_T27 l2 x79_3).f0), .slice A176_1 ((rd_T27 l2 x79_3).f1).length c176_1, .slice A176_2 ((rd_T27 l2 x79_3).f2).length c176_2] 27 (0, 0)) (by (with_reducible repeat (first | refine blk_drewN ?_ _ | refine blk_drew ?_ | refine blk_alloc ?_ _)); exact BK177.out) hb); have n3_ := Aside0.mk (below_step (by repeat (first | (with_reducible first | exact HB.out | apply below_alloc | apply pw_below_drewN | apply below_drew1 | refine below_set ?_ GE177.out) | exact HB.out)) hb); have n4_ := Aside0.mk (hbox); have n5_ := Aside0.mk ((by rw [hg]; exact (below_size (by repeat (first | (with_reducible first | exact HB.out | apply below_alloc | apply pw_below_drewN | apply below_drew1 | refine below_set ?_ GE177.out) | exact HB.out))) : w.heap.size ≤ gb193)); have n6_ := Aside0.mk ((by rw [hg]; exact (below_size (by repeat (first | (with_reducible first | exact HB.out | apply below_alloc | apply pw_below_drewN | apply below_drew1 | refine below_set ?_ GE177.out) | exact HB.out))) : w.heap.size ≤ gb193)); have n7_ := Aside0.mk ((by rw [hg]; exact Nat.ne_of_lt (blk_lt (g := gb177) (o := .cells #[.bool ((rd_T27 l2 x79_3).f0), .slice A176_1 ((rd_T27 l2 x79_3).f1).length c176_1, .slice A176_2 ((rd_T27 l2 x79_3).f2).length c176_2] 27 (0, 0)) (by (with_reducible repeat (first | refine blk_drewN ?_ _ | refine blk_drew ?_ | refine blk_alloc ?_ _)); exact BK177.out)) : gb177 ≠ gb193)); have n8_ := Aside0.mk ((by rw [hg]; exact Nat.ne_of_gt (blk_lt (g := gb177) (o := .cells #[.bool ((rd_T27 l2 x79_3).f0), .slice A176_1 ((rd_T27 l2 x79_3).f1).length c176_1, .slice A176_2 ((rd_T27 l2 x79_3).f2).length c176_2] 27 (0, 0)) (by (with_reducible repeat (first | refine blk_drewN ?_ _ | refine blk_drew ?_ | refine blk_alloc ?_ _)); exact BK177.out)) : gb193 ≠ gb177)); clear HO_9; clear HO_13; clear BK177; clear HB; have HO_9 := n0_; have HO_13 := n1_; have BK177 := n2_; have HB := n3_; have BK193 := n4_; have GW193 := n5_; have GE193 := n6_; have NB177_193 := n7_; have NB193_177 := n8_; clear n0_ n1_ n2_ n3_ n4_ n5_ n6_ n7_ n8_; clear hb hbox hg; have hnb95 := NB193_177.out; have hnc95 := NB177_193.out; have hcz96_0 : w94.cell? ⟨gb193, 0, none⟩ = some (.bool false) := (blk_cell BK193.out 0).trans rfl; have hcz96_1 : w94.cell? ⟨gb193, 1, none⟩ = some (.slice none 0 0) := (blk_cell BK193.out 1).trans rfl; have hcz96_2 : w94.cell? ⟨gb193, 2, none⟩ = some (.slice none 0 0) := (blk_cell BK193.out 2).trans rfl; have hfz96_0 := blk_frozen BK193.out 0; have hfz96_1 := blk_frozen BK193.out 1; have hfz96_2 := blk_frozen BK193.out 2)))
                                                      go_roundg k6
                                                      case measure => have := HJ5.out; have := HK2.out; have := HK3.out; have := HJ39.out; have := HJ54.out; have := HK6.out; omega
                                                      case rel => exact ⟨(x13_6), (wrap64 (x125_6 + 1)), (by first | rfl | (simp; done) | (simp [*]; done)), H', ⟨by have := HJ5.out; have := HK2.out; have := HK3.out; have := HJ39.out; have := HJ54.out; have := HK6.out; omega⟩, ⟨by (with_reducible repeat (first | apply Kd.R_alloc | apply Kd.R_drewN | apply Kd.R_drew)); exact Kd.R_mono (Kd.R_far (p := ⟨gb193, 2, none⟩) (Kd.R_far (p := ⟨gb193, 1, none⟩) (Kd.R_far (p := ⟨gb193, 0, none⟩) (Kd.R_types HO_9.out BK193.out (by decide)) (fun _ hk => hk.2) (.bool false)) (fun _ hk => hk.2) (.slice A192_1 ((rd_T27 y186 x125_6).f1).length c192_1)) (fun _ hk => hk.2) (.slice A192_2 ((rd_T27 y186 x125_6).f2).length c192_2)) (fun _ hk => hk.1)⟩, ⟨by (with_reducible repeat (first | apply Mx_alloc | apply Mx_drewN | apply Mx_drew)); exact Mx_mono (Mx_far (p := ⟨gb193, 2, none⟩) (Mx_far (p := ⟨gb193, 1, none⟩) (Mx_far (p := ⟨gb193, 0, none⟩) (Mx_types HO_13.out BK193.out (by decide)) (fun _ hk => hk.2) (.bool false)) (fun _ hk => hk.2) (.slice A192_1 ((rd_T27 y186 x125_6).f1).length c192_1)) (fun _ hk => hk.2) (.slice A192_2 ((rd_T27 y186 x125_6).f2).length c192_2)) (fun _ hk => trivial)⟩, ⟨by (with_reducible repeat (first | refine blk_drewN ?_ _ | refine blk_drew ?_ | refine blk_alloc ?_ _)); refine blk_far ?_ NB177_193.out _; (with_reducible repeat (first | refine blk_drewN ?_ _ | refine blk_drew ?_ | refine blk_alloc ?_ _)); refine blk_far ?_ NB177_193.out _; (with_reducible repeat (first | refine blk_drewN ?_ _ | refine blk_drew ?_ | refine blk_alloc ?_ _)); refine blk_far ?_ NB177_193.out _; (with_reducible repeat (first | refine blk_drewN ?_ _ | refine blk_drew ?_ | refine blk_alloc ?_ _)); exact BK177.out⟩, ⟨by repeat (first | (with_reducible first | exact HB.out | apply below_alloc | apply pw_below_drewN | apply below_drew1 | refine below_set ?_ GE177.out | refine below_set ?_ GE193.out) | exact HB.out)⟩⟩
                                                  · rw [if_neg c68] at H
                                                    exact absurd H (by simp)
                                                · rw [if_neg c67] at H
                                                  exact absurd H (by simp)
                                              · rw [if_neg c66] at H
                                                have c66b0 : decide (x125_6 < (y186.length : Int)) = false := decide_eq_false c66
                                                clear c66
                                                by_cases c97 : 0 ≤ x79_3
                                                · rw [if_pos c97] at H
                                                  have c97b0 : decide (0 ≤ x79_3) = true := decide_eq_true c97
                                                  clear c97
                                                  by_cases c98 : x79_3 < (t173.length : Int)
                                                  · rw [if_pos c98] at H
                                                    have c98b0 : decide (x79_3 < (t173.length : Int)) = true := decide_eq_true c98
                                                    clear c98
                                                    replace H := Option.bind_eq_some_iff.mp H
                                                    obtain ⟨t191, A990, H⟩ := H
                                                    replace H : (if t191 = true then (laws_FnCache.l1 k6 a0 l2 t173 l2 (l2.length : Int) (wrap64 (x79_3 + 1))) else (some false)) = some r := H
                                                    have A99 := Aside0.mk A990
                                                    clear A990
                                                    by_cases c100 : t191 = true
                                                    · subst c100
                                                      have H1 : (laws_FnCache.l1 k6 a0 l2 t173 l2 (l2.length : Int) (wrap64 (x79_3 + 1))) = some r := by rw [if_pos rfl] at H; exact H
                                                      clear H
                                                      have H := H1
                                                      clear H1
                                                      have H' := Aside0.mk H
                                                      clear H
                                                      have p190 : 0 ≤ (x79_3 : Int) := of_decide_eq_true (by first | (with_reducible assumption) | assumption)
                                                      have q190 : x79_3 < (t173.length : Int) := of_decide_eq_true (by first | (with_reducible assumption) | assumption)
                                                      obtain ⟨ad190, A190_1, c190_1, e190, hx190_0, hx190_1, hl190_1, hi190_1⟩ := at_T34 (Kd.R_reads' HO_9.out).2.2 x79_3 p190 q190
                                                      cases e190
                                                      obtain ⟨ce190, hce190, hMe190, hcc190⟩ := Kd.R_get HO_9.out z34 x79_3 p190 (by first | exact q190 | exact of_decide_eq_true (by first | (with_reducible assumption) | assumption) | (have e_ := (Kd.R_reads' HO_9.out).1; omega))
                                                      obtain ⟨ve190_1, rfl, ge190_1⟩ := k34_openM hMe190
                                                      have hv190_1 := hcc190 1 _ rfl
                                                      rw [add_field _ _ 1 (by omega)] at hv190_1
                                                      replace hv190_1 := Option.some.inj (hv190_1.symm.trans hx190_1)
                                                      rw [hv190_1] at ge190_1
                                                      have HL190_1 := Aside0.mk (show Kd.R (Kd.slice 5 (Kd.int .u8)) 32 _ _ _ _ ((rd_T34 t173 x79_3).f1) from ge190_1)
                                                      clear hv190_1 ge190_1
                                                      clear hcc190 hce190
                                                      have HR190_1 := Aside0.mk hi190_1
                                                      have HC190_1 := Aside0.mk hl190_1
                                                      clear hi190_1 hl190_1
                                                      replace p190 := eq_true p190
                                                      replace q190 := eq_true q190
                                                      obtain ⟨Ao101, co101, eo101⟩ := Mx_slice HO_13.out
                                                      subst eo101
                                                      go_wp2_with (first | (go_at_call 10; (with_reducible refine (spec_EqualMatrices.calls k6 _ _ ((rd_T34 t173 x79_3).f1) _ _ x13_6 true _ ?side1 ?side2 ?side3 ?side4 A99.out).mono ?_); (case side1 => repeat (first | exact (by repeat (first | (with_reducible exact HR190_1.out) | (with_reducible refine Kd.C_alloc ?_ _) | (with_reducible refine Kd.C_drewN ?_ _) | (with_reducible refine Kd.C_drew ?_) | exact HR190_1.out)) | (with_reducible refine Kd.C_alloc ?_ _) | (with_reducible refine Kd.C_drewN ?_ _) | (with_reducible refine Kd.C_drew ?_))); (case side2 => exact HC190_1.out); (case side3 => repeat (first | exact (Mx_reads HO_13.out HB.out).2.2 | (with_reducible refine Kd.C_alloc ?_ _) | (with_reducible refine Kd.C_drewN ?_ _) | (with_reducible refine Kd.C_drew ?_))); (case side4 => exact (Mx_reads HO_13.out HB.out).2.1); rintro e w' ⟨rfl, ⟨nd, rfl⟩⟩; (try first | exact ⟨rfl, _, World.drewN_drewN _ _ _⟩ | exact ⟨rfl, _, Eq.trans (World.drewN_drewN _ _ _) (congrArg (World.drewN _) (Nat.add_assoc _ _ _))⟩)))
                                                      repeat (go_quiet (first | (go_at_call 10; (with_reducible refine (spec_EqualMatrices.calls k6 _ _ ((rd_T34 t173 x79_3).f1) _ _ x13_6 true _ ?side1 ?side2 ?side3 ?side4 A99.out).mono ?_); (case side1 => repeat (first | exact (by repeat (first | (with_reducible exact HR190_1.out) | (with_reducible refine Kd.C_alloc ?_ _) | (with_reducible refine Kd.C_drewN ?_ _) | (with_reducible refine Kd.C_drew ?_) | exact HR190_1.out)) | (with_reducible refine Kd.C_alloc ?_ _) | (with_reducible refine Kd.C_drewN ?_ _) | (with_reducible refine Kd.C_drew ?_))); (case side2 => exact HC190_1.out); (case side3 => repeat (first | exact (Mx_reads HO_13.out HB.out).2.2 | (with_reducible refine Kd.C_alloc ?_ _) | (with_reducible refine Kd.C_drewN ?_ _) | (with_reducible refine Kd.C_drew ?_))); (case side4 => exact (Mx_reads HO_13.out HB.out).2.1); rintro e w' ⟨rfl, ⟨nd, rfl⟩⟩; (try first | exact ⟨rfl, _, World.drewN_drewN _ _ _⟩ | exact ⟨rfl, _, Eq.trans (World.drewN_drewN _ _ _) (congrArg (World.drewN _) (Nat.add_assoc _ _ _))⟩))); try go_wp2_with (first | (go_at_call 10; (with_reducible refine (spec_EqualMatrices.calls k6 _ _ ((rd_T34 t173 x79_3).f1) _ _ x13_6 true _ ?side1 ?side2 ?side3 ?side4 A99.out).mono ?_); (case side1 => repeat (first | exact (by repeat (first | (with_reducible exact HR190_1.out) | (with_reducible refine Kd.C_alloc ?_ _) | (with_reducible refine Kd.C_drewN ?_ _) | (with_reducible refine Kd.C_drew ?_) | exact HR190_1.out)) | (with_reducible refine Kd.C_alloc ?_ _) | (with_reducible refine Kd.C_drewN ?_ _) | (with_reducible refine Kd.C_drew ?_))); (case side2 => exact HC190_1.out); (case side3 => repeat (first | exact (Mx_reads HO_13.out HB.out).2.2 | (with_reducible refine Kd.C_alloc ?_ _) | (with_reducible refine Kd.C_drewN ?_ _) | (with_reducible refine Kd.C_drew ?_))); (case side4 => exact (Mx_reads HO_13.out HB.out).2.1); rintro e w' ⟨rfl, ⟨nd, rfl⟩⟩; (try first | exact ⟨rfl, _, World.drewN_drewN _ _ _⟩ | exact ⟨rfl, _, Eq.trans (World.drewN_drewN _ _ _) (congrArg (World.drewN _) (Nat.add_assoc _ _ _))⟩))))
                                                      go_roundg k6
                                                      case measure => have := HJ5.out; have := HK2.out; have := HK3.out; have := HJ39.out; have := HJ54.out; have := HK6.out; omega
                                                      case rel => exact ⟨(wrap64 (x79_3 + 1)), (by first | rfl | (simp; done) | (simp [*]; done)), H', ⟨by have := HJ5.out; have := HK2.out; have := HK3.out; have := HJ39.out; have := HJ54.out; have := HK6.out; omega⟩, ⟨by (with_reducible repeat (first | apply Kd.R_alloc | apply Kd.R_drewN | apply Kd.R_drew)); exact Kd.R_mono HO_9.out (fun _ hk => trivial)⟩, ⟨by repeat (first | (with_reducible first | exact HB.out | apply below_alloc | apply pw_below_drewN | apply below_drew1 | refine below_set ?_ GE177.out) | exact HB.out)⟩⟩
                                                    · replace c100 := Bool.eq_false_iff.mpr c100
                                                      subst c100
                                                      have H1 : (some false) = some r := by rw [if_neg (show ¬ (false = true) by decide)] at H; exact H
                                                      clear H
                                                      have H := H1
                                                      clear H1
                                                      obtain rfl := Option.some.inj H
                                                      have p190 : 0 ≤ (x79_3 : Int) := of_decide_eq_true (by first | (with_reducible assumption) | assumption)
                                                      have q190 : x79_3 < (t173.length : Int) := of_decide_eq_true (by first | (with_reducible assumption) | assumption)
                                                      obtain ⟨ad190, A190_1, c190_1, e190, hx190_0, hx190_1, hl190_1, hi190_1⟩ := at_T34 (Kd.R_reads' HO_9.out).2.2 x79_3 p190 q190
                                                      cases e190
                                                      obtain ⟨ce190, hce190, hMe190, hcc190⟩ := Kd.R_get HO_9.out z34 x79_3 p190 (by first | exact q190 | exact of_decide_eq_true (by first | (with_reducible assumption) | assumption) | (have e_ := (Kd.R_reads' HO_9.out).1; omega))
                                                      obtain ⟨ve190_1, rfl, ge190_1⟩ := k34_openM hMe190
                                                      have hv190_1 := hcc190 1 _ rfl
                                                      rw [add_field _ _ 1 (by omega)] at hv190_1
                                                      replace hv190_1 := Option.some.inj (hv190_1.symm.trans hx190_1)
                                                      rw [hv190_1] at ge190_1
                                                      have HL190_1 := Aside0.mk (show Kd.R (Kd.slice 5 (Kd.int .u8)) 32 _ _ _ _ ((rd_T34 t173 x79_3).f1) from ge190_1)
                                                      clear hv190_1 ge190_1
                                                      clear hcc190 hce190
                                                      have HR190_1 := Aside0.mk hi190_1
                                                      have HC190_1 := Aside0.mk hl190_1
                                                      clear hi190_1 hl190_1
                                                      replace p190 := eq_true p190
                                                      replace q190 := eq_true q190
                                                      obtain ⟨Ao102, co102, eo102⟩ := Mx_slice HO_13.out
                                                      subst eo102
                                                      go_wp2_with (first | (go_at_call 10; (with_reducible refine (spec_EqualMatrices.calls k6 _ _ ((rd_T34 t173 x79_3).f1) _ _ x13_6 false _ ?side1 ?side2 ?side3 ?side4 A99.out).mono ?_); (case side1 => repeat (first | exact (by repeat (first | (with_reducible exact HR190_1.out) | (with_reducible refine Kd.C_alloc ?_ _) | (with_reducible refine Kd.C_drewN ?_ _) | (with_reducible refine Kd.C_drew ?_) | exact HR190_1.out)) | (with_reducible refine Kd.C_alloc ?_ _) | (with_reducible refine Kd.C_drewN ?_ _) | (with_reducible refine Kd.C_drew ?_))); (case side2 => exact HC190_1.out); (case side3 => repeat (first | exact (Mx_reads HO_13.out HB.out).2.2 | (with_reducible refine Kd.C_alloc ?_ _) | (with_reducible refine Kd.C_drewN ?_ _) | (with_reducible refine Kd.C_drew ?_))); (case side4 => exact (Mx_reads HO_13.out HB.out).2.1); rintro e w' ⟨rfl, ⟨nd, rfl⟩⟩; (try first | exact ⟨rfl, _, World.drewN_drewN _ _ _⟩ | exact ⟨rfl, _, Eq.trans (World.drewN_drewN _ _ _) (congrArg (World.drewN _) (Nat.add_assoc _ _ _))⟩)))
                                                      repeat (go_quiet (first | (go_at_call 10; (with_reducible refine (spec_EqualMatrices.calls k6 _ _ ((rd_T34 t173 x79_3).f1) _ _ x13_6 false _ ?side1 ?side2 ?side3 ?side4 A99.out).mono ?_); (case side1 => repeat (first | exact (by repeat (first | (with_reducible exact HR190_1.out) | (with_reducible refine Kd.C_alloc ?_ _) | (with_reducible refine Kd.C_drewN ?_ _) | (with_reducible refine Kd.C_drew ?_) | exact HR190_1.out)) | (with_reducible refine Kd.C_alloc ?_ _) | (with_reducible refine Kd.C_drewN ?_ _) | (with_reducible refine Kd.C_drew ?_))); (case side2 => exact HC190_1.out); (case side3 => repeat (first | exact (Mx_reads HO_13.out HB.out).2.2 | (with_reducible refine Kd.C_alloc ?_ _) | (with_reducible refine Kd.C_drewN ?_ _) | (with_reducible refine Kd.C_drew ?_))); (case side4 => exact (Mx_reads HO_13.out HB.out).2.1); rintro e w' ⟨rfl, ⟨nd, rfl⟩⟩; (try first | exact ⟨rfl, _, World.drewN_drewN _ _ _⟩ | exact ⟨rfl, _, Eq.trans (World.drewN_drewN _ _ _) (congrArg (World.drewN _) (Nat.add_assoc _ _ _))⟩))); try go_wp2_with (first | (go_at_call 10; (with_reducible refine (spec_EqualMatrices.calls k6 _ _ ((rd_T34 t173 x79_3).f1) _ _ x13_6 false _ ?side1 ?side2 ?side3 ?side4 A99.out).mono ?_); (case side1 => repeat (first | exact (by repeat (first | (with_reducible exact HR190_1.out) | (with_reducible refine Kd.C_alloc ?_ _) | (with_reducible refine Kd.C_drewN ?_ _) | (with_reducible refine Kd.C_drew ?_) | exact HR190_1.out)) | (with_reducible refine Kd.C_alloc ?_ _) | (with_reducible refine Kd.C_drewN ?_ _) | (with_reducible refine Kd.C_drew ?_))); (case side2 => exact HC190_1.out); (case side3 => repeat (first | exact (Mx_reads HO_13.out HB.out).2.2 | (with_reducible refine Kd.C_alloc ?_ _) | (with_reducible refine Kd.C_drewN ?_ _) | (with_reducible refine Kd.C_drew ?_))); (case side4 => exact (Mx_reads HO_13.out HB.out).2.1); rintro e w' ⟨rfl, ⟨nd, rfl⟩⟩; (try first | exact ⟨rfl, _, World.drewN_drewN _ _ _⟩ | exact ⟨rfl, _, Eq.trans (World.drewN_drewN _ _ _) (congrArg (World.drewN _) (Nat.add_assoc _ _ _))⟩))))
                                                      go_ret
                                                      exact ⟨by first | rfl | (simp [errW_none, errW_some] <;> rfl) | (simp [*, errW_none, errW_some] <;> rfl), by repeat (first | (with_reducible first | exact HB.out | apply below_alloc | apply pw_below_drewN | apply below_drew1 | refine below_set ?_ GE177.out) | exact HB.out)⟩
                                                  · rw [if_neg c98] at H
                                                    exact absurd H (by simp)
                                                · rw [if_neg c97] at H
                                                  exact absurd H (by simp)
                                        · rw [if_neg c64] at H
                                          exact absurd H (by simp)
                                      · rw [if_neg c63] at H
                                        exact absurd H (by simp)
                          · rw [if_neg c39] at H
                            exact absurd H (by simp)
                        · rw [if_neg c38] at H
                          exact absurd H (by simp)
                      · rw [if_neg c37] at H
                        have c37b0 : decide (x79_3 < (l2.length : Int)) = false := decide_eq_false c37
                        clear c37
                        obtain rfl := Option.some.inj H
                        go_wp2
                        repeat (go_quiet (fail); try go_wp2)
                        go_ret
                        exact ⟨by first | rfl | (simp [errW_none, errW_some] <;> rfl) | (simp [*, errW_none, errW_some] <;> rfl), by repeat (first | (with_reducible first | exact HB.out | apply below_alloc | apply pw_below_drewN | apply below_drew1) | exact HB.out)⟩
                · rw [if_neg c34] at H
                  have c34b0 : ((t173.length : Int) == (l2.length : Int)) = false := beq_eq_false_iff_ne.mpr c34
                  have c34b1 : ((t173.length : Int) != (l2.length : Int)) = true := bne_iff_ne.mpr c34
                  have c34b2 : (t173.length == l2.length) = false := by first | simpa using c34 | (simp at c34 ⊢; omega)
                  obtain rfl := Option.some.inj H
                  go_wp2_with (first | (go_at_call 7; (with_reducible refine (impl_CacheScript.calls k2 a0 a1 _ _ l2 t173 _ ?side1 ?side2 ?side3 A33.out).mono ?_); (case side1 => exact TabOK.below HT.out (by repeat (first | (with_reducible first | exact HB.out | apply below_alloc | apply pw_below_drewN | apply below_drew1) | exact HB.out))); (case side2 => repeat (first | exact (Kd.C_below HR2.out HB.out) | (with_reducible refine Kd.C_alloc ?_ _) | (with_reducible refine Kd.C_drewN ?_ _) | (with_reducible refine Kd.C_drew ?_))); (case side3 => exact HC2.out); rintro e w103 ⟨v174, rfl, ho0, hb⟩; have n0_ := Aside0.mk (Kd.R_lower ho0 (below_size (by repeat (first | (with_reducible first | exact HB.out | apply below_alloc | apply pw_below_drewN | apply below_drew1) | exact HB.out)))); have n1_ := Aside0.mk (below_step (by repeat (first | (with_reducible first | exact HB.out | apply below_alloc | apply pw_below_drewN | apply below_drew1) | exact HB.out)) hb); clear HB; have HO175 := n0_; have HB := n1_; clear n0_ n1_; (try clear hb); (try clear hb2); (try clear hk); (try clear hi); (try clear ho0); obtain ⟨Ao104, co104, eo104⟩ := Kd.R_slice HO175.out; subst eo104))
                  repeat (go_quiet (first | (go_at_call 7; (with_reducible refine (impl_CacheScript.calls k2 a0 a1 _ _ l2 t173 _ ?side1 ?side2 ?side3 A33.out).mono ?_); (case side1 => exact TabOK.below HT.out (by repeat (first | (with_reducible first | exact HB.out | apply below_alloc | apply pw_below_drewN | apply below_drew1) | exact HB.out))); (case side2 => repeat (first | exact (Kd.C_below HR2.out HB.out) | (with_reducible refine Kd.C_alloc ?_ _) | (with_reducible refine Kd.C_drewN ?_ _) | (with_reducible refine Kd.C_drew ?_))); (case side3 => exact HC2.out); rintro e w103 ⟨v174, rfl, ho0, hb⟩; have n0_ := Aside0.mk (Kd.R_lower ho0 (below_size (by repeat (first | (with_reducible first | exact HB.out | apply below_alloc | apply pw_below_drewN | apply below_drew1) | exact HB.out)))); have n1_ := Aside0.mk (below_step (by repeat (first | (with_reducible first | exact HB.out | apply below_alloc | apply pw_below_drewN | apply below_drew1) | exact HB.out)) hb); clear HB; have HO175 := n0_; have HB := n1_; clear n0_ n1_; (try clear hb); (try clear hb2); (try clear hk); (try clear hi); (try clear ho0); obtain ⟨Ao104, co104, eo104⟩ := Kd.R_slice HO175.out; subst eo104)); try go_wp2_with (first | (go_at_call 7; (with_reducible refine (impl_CacheScript.calls k2 a0 a1 _ _ l2 t173 _ ?side1 ?side2 ?side3 A33.out).mono ?_); (case side1 => exact TabOK.below HT.out (by repeat (first | (with_reducible first | exact HB.out | apply below_alloc | apply pw_below_drewN | apply below_drew1) | exact HB.out))); (case side2 => repeat (first | exact (Kd.C_below HR2.out HB.out) | (with_reducible refine Kd.C_alloc ?_ _) | (with_reducible refine Kd.C_drewN ?_ _) | (with_reducible refine Kd.C_drew ?_))); (case side3 => exact HC2.out); rintro e w103 ⟨v174, rfl, ho0, hb⟩; have n0_ := Aside0.mk (Kd.R_lower ho0 (below_size (by repeat (first | (with_reducible first | exact HB.out | apply below_alloc | apply pw_below_drewN | apply below_drew1) | exact HB.out)))); have n1_ := Aside0.mk (below_step (by repeat (first | (with_reducible first | exact HB.out | apply below_alloc | apply pw_below_drewN | apply below_drew1) | exact HB.out)) hb); clear HB; have HO175 := n0_; have HB := n1_; clear n0_ n1_; (try clear hb); (try clear hb2); (try clear hk); (try clear hi); (try clear ho0); obtain ⟨Ao104, co104, eo104⟩ := Kd.R_slice HO175.out; subst eo104)))
                  go_ret
                  exact ⟨by first | rfl | (simp [errW_none, errW_some] <;> rfl) | (simp [*, errW_none, errW_some] <;> rfl), by repeat (first | (with_reducible first | exact HB.out | apply below_alloc | apply pw_below_drewN | apply below_drew1) | exact HB.out)⟩
  · replace c5 := Bool.eq_false_iff.mpr c5
    subst c5
    have H1 : (some true) = some r := by rw [if_neg (show ¬ (false = true) by decide)] at H; exact H
    clear H
    have H := H1
    clear H1
    obtain rfl := Option.some.inj H
    go_enter Tryd.func3, Tryd.ntmps3
    go_wp2_with (first | (go_at_call 4; (with_reducible refine (laws_zzFits9.calls k _ _ l2 false _ ?side1 ?side2 A4.out).mono ?_); (case side1 => repeat (first | exact HR2.out | (with_reducible refine Kd.C_alloc ?_ _) | (with_reducible refine Kd.C_drewN ?_ _) | (with_reducible refine Kd.C_drew ?_))); (case side2 => exact HC2.out); rintro e w105 ⟨rfl, hb⟩; have n0_ := Aside0.mk (below_step (by repeat (first | (with_reducible first | exact HB.out | apply below_alloc | apply pw_below_drewN | apply below_drew1) | exact HB.out)) hb); clear HB; have HB := n0_; clear n0_; (try clear hb); (try clear hb2); (try clear hk); (try clear hi)))
    repeat (go_quiet (first | (go_at_call 4; (with_reducible refine (laws_zzFits9.calls k _ _ l2 false _ ?side1 ?side2 A4.out).mono ?_); (case side1 => repeat (first | exact HR2.out | (with_reducible refine Kd.C_alloc ?_ _) | (with_reducible refine Kd.C_drewN ?_ _) | (with_reducible refine Kd.C_drew ?_))); (case side2 => exact HC2.out); rintro e w105 ⟨rfl, hb⟩; have n0_ := Aside0.mk (below_step (by repeat (first | (with_reducible first | exact HB.out | apply below_alloc | apply pw_below_drewN | apply below_drew1) | exact HB.out)) hb); clear HB; have HB := n0_; clear n0_; (try clear hb); (try clear hb2); (try clear hk); (try clear hi))); try go_wp2_with (first | (go_at_call 4; (with_reducible refine (laws_zzFits9.calls k _ _ l2 false _ ?side1 ?side2 A4.out).mono ?_); (case side1 => repeat (first | exact HR2.out | (with_reducible refine Kd.C_alloc ?_ _) | (with_reducible refine Kd.C_drewN ?_ _) | (with_reducible refine Kd.C_drew ?_))); (case side2 => exact HC2.out); rintro e w105 ⟨rfl, hb⟩; have n0_ := Aside0.mk (below_step (by repeat (first | (with_reducible first | exact HB.out | apply below_alloc | apply pw_below_drewN | apply below_drew1) | exact HB.out)) hb); clear HB; have HB := n0_; clear n0_; (try clear hb); (try clear hb2); (try clear hk); (try clear hi))))
    go_ret
    exact ⟨by first | rfl | (simp [errW_none, errW_some] <;> rfl) | (simp [*, errW_none, errW_some] <;> rfl), by repeat (first | (with_reducible first | exact HB.out | apply below_alloc | apply pw_below_drewN | apply below_drew1) | exact HB.out)⟩

end Go.Proofs.YtlfmplhleglibaaDoor.M
