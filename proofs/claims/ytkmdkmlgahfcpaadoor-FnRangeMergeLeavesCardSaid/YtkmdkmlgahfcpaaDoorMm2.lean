-- Written by a program of ours (wip/xp) out of the translation; Lean checks it.
import Derived.Test.YtkmdkmlgahfcpaaDoorSq
import Derived.Test.YtkmdkmlgahfcpaaDoorMm1
namespace Go.Proofs.YtkmdkmlgahfcpaaDoor.M
open Go.RowKit Go.Proofs.YtkmdkmlgahfcpaaDoorW.PrintWords Go.Proofs.YtkmdkmlgahfcpaaDoorW.PrintLast Go.Proofs.YtkmdkmlgahfcpaaDoorW.PrintMore
attribute [local go_sem] max2_int min2_int max_two min_two max_three min_three max_four min_four   -- for this text's walks alone
set_option linter.unusedVariables false
set_option linter.unusedSimpArgs false

/-! ### spec_Same: function 17 -/
def spec_Same.l0 : Nat → List (List Int) → List (List Int) → Int → Int → Option (Bool)
 | 0, _, _, _, _ => none
 | k + 1, x0, x1, x12, x13 => if x13 < x12 then (if 0 ≤ x13 then (if x13 < (x0.length : Int) then (if x13 < (x1.length : Int) then (if (strOfNums (rd_L1 x0 x13)).toList = (strOfNums (rd_L1 x1 x13)).toList then (spec_Same.l0 k x0 x1 x12 (wrap64 (x13 + 1))) else (some false)) else (none)) else (none)) else (none)) else (some true)
def spec_Same.f (k : Nat) (l0 : List (List Int)) (l1 : List (List Int)) : Option (Bool) := if (l0.length : Int) = (l1.length : Int) then (spec_Same.l0 k l0 l1 (l0.length : Int) 0) else (some false)
theorem spec_Same.mono_l : ∀ k, (∀ y0 y1 y2 y3, LeO (spec_Same.l0 k y0 y1 y2 y3) (spec_Same.l0 (k + 1) y0 y1 y2 y3))
 | 0 => fun _ _ _ _ r h => by simp [spec_Same.l0] at h
 | k + 1 => by
  have ih0 := spec_Same.mono_l k
  ·intro y0 y1 y2 y3
   unfold spec_Same.l0
   repeat' first
   | (with_reducible exact ih0 _ _ _ _)
   | (with_reducible exact LeO.refl _)
   | (with_reducible exact LeO.none _)
   | (with_reducible refine LeO.ite ?_ ?_)
   | (with_reducible refine LeO.bind ?_ (fun _ => ?_))
   | exact ih0 _ _ _ _
   | exact LeO.none _
   | refine LeO.ite ?_ ?_
   | refine LeO.bind ?_ (fun _ => ?_)
theorem spec_Same.mono : ∀ a0 a1 k, LeO (spec_Same.f k a0 a1) (spec_Same.f (k + 1) a0 a1) := by
 intro a0 a1 k
 have ih0 := spec_Same.mono_l k
 unfold spec_Same.f
 repeat' first
   | (with_reducible exact ih0 _ _ _ _)
   | (with_reducible exact LeO.refl _)
   | (with_reducible exact LeO.none _)
   | (with_reducible refine LeO.ite ?_ ?_)
   | (with_reducible refine LeO.bind ?_ (fun _ => ?_))
   | exact ih0 _ _ _ _
   | exact LeO.none _
   | refine LeO.ite ?_ ?_
   | refine LeO.bind ?_ (fun _ => ?_)
set_option maxHeartbeats 8000000 in
set_option maxRecDepth 100000 in
theorem spec_Same.calls (k : Nat) (A0 : Option Addr) (c0 : Nat) (l0 : List (List Int)) (A1 : Option Addr) (c1 : Nat) (l1 : List (List Int)) (r : Bool) (w : World) (hr0 : Kd.C (Kd.slice 5 (Kd.int .u8)) w A0 l0.length l0) (hc0 : l0.length ≤ c0) (hr1 : Kd.C (Kd.slice 5 (Kd.int .u8)) w A1 l1.length l1) (hc1 : l1.length ≤ c1) (h : spec_Same.f k l0 l1 = some r) :
  Calls Tryd.prog 17 #[.slice A0 l0.length c0, .slice A1 l1.length c1] w fun e w' => e = .returned (.bool r) ∧ Drawn0 w w' := by
 have HR0 := Aside0.mk hr0
 have HC0 := Aside0.mk hc0
 clear hr0 hc0
 have HR1 := Aside0.mk hr1
 have HC1 := Aside0.mk hc1
 clear hr1 hc1
 have H : (if (l0.length : Int) = (l1.length : Int) then (spec_Same.l0 k l0 l1 (l0.length : Int) 0) else (some false)) = some r := h
 clear h
 by_cases c3 : (l0.length : Int) = (l1.length : Int)
 ·rw [if_pos c3] at H
  have c3b0 : ((l0.length : Int) == (l1.length : Int)) = true := beq_iff_eq.mpr c3
  have c3b1 : ((l0.length : Int) != (l1.length : Int)) = false := bne_eq_false_iff_eq.mpr c3
  have c3b2 : (l0.length == l1.length) = true := by first | simpa using c3 | (simp at c3 ⊢; omega)
  clear c3
  have H' := Aside0.mk H
  clear H
  go_enter Tryd.func17, Tryd.ntmps17
  go_wp2
  repeat (go_quiet (fail); try go_wp2)
  go_loopg [13] k (fun kq v13 w' => ∃ (x13_1 : Int), v13 = .int .i64 x13_1 ∧ Aside0 (spec_Same.l0 kq l0 l1 (l0.length : Int) x13_1 = some r) ∧ Aside0 (kq ≤ k) ∧ Drawn0 w w')
  case atStart => exact ⟨(0), (by first | rfl | (simp; done) | (simp [*]; done)), H', ⟨Nat.le_refl _⟩, by repeat (first | exact Drawn0.refl _ | apply Drawn0.step)⟩
  case round =>
   clear H'
   try clear c1
   try clear p2
   try clear c3
   try clear c3b0
   try clear c3b1
   try clear c3b2
   obtain ⟨x13_1, rfl, HA, HK1, ⟨m1, rfl⟩⟩ := hrel
   cases gk with
   | zero => exact absurd HA.out (by simp [spec_Same.l0])
   | succ k1 =>
    have H := HA.out
    clear HA
    simp only [spec_Same.l0] at H
    by_cases c4 : x13_1 < (l0.length : Int)
    ·rw [if_pos c4] at H
     have c4b0 : decide (x13_1 < (l0.length : Int)) = true := decide_eq_true c4
     clear c4
     by_cases c5 : 0 ≤ x13_1
     ·rw [if_pos c5] at H
      have c5b0 : decide (0 ≤ x13_1) = true := decide_eq_true c5
      clear c5
      by_cases c6 : x13_1 < (l0.length : Int)
      ·rw [if_pos c6] at H
       have c6b0 : decide (x13_1 < (l0.length : Int)) = true := decide_eq_true c6
       clear c6
       by_cases c7 : x13_1 < (l1.length : Int)
       ·rw [if_pos c7] at H
        have c7b0 : decide (x13_1 < (l1.length : Int)) = true := decide_eq_true c7
        clear c7
        by_cases c8 : (strOfNums (rd_L1 l0 x13_1)).toList = (strOfNums (rd_L1 l1 x13_1)).toList
        ·rw [if_pos c8] at H
         have c8b0 : ((strOfNums (rd_L1 l0 x13_1)).toList == (strOfNums (rd_L1 l1 x13_1)).toList) = true := beq_iff_eq.mpr c8
         have c8b1 : ((strOfNums (rd_L1 l0 x13_1)).toList != (strOfNums (rd_L1 l1 x13_1)).toList) = false := bne_eq_false_iff_eq.mpr c8
         clear c8
         have H' := Aside0.mk H
         clear H
         have p105 : 0 ≤ (x13_1 : Int) := dA
         have q105 : x13_1 < (l0.length : Int) := dA
         obtain ⟨ad105, A105_0, c105_0, e105, hx105_0, hl105_0, hi105_0⟩ := at_L1 HR0.out x13_1 p105 q105
         cases e105
         have HR105_0 := Aside0.mk hi105_0
         have HC105_0 := Aside0.mk hl105_0
         clear hi105_0 hl105_0
         replace p105 := eq_true p105
         replace q105 := eq_true q105
         have hcv9 := Kd.C_string (P := Tryd.prog) (A := A105_0) (c := c105_0) Tryd.underlying27 Tryd.underlying5 Tryd.underlying9 HR105_0.out
         have hcv9b := fun m_ : Nat => Kd.C_string (P := Tryd.prog) (A := A105_0) (c := c105_0) Tryd.underlying27 Tryd.underlying5 Tryd.underlying9 (Kd.C_drewN HR105_0.out m_)
         have p106 : 0 ≤ (x13_1 : Int) := dA
         have q106 : x13_1 < (l1.length : Int) := dA
         obtain ⟨ad106, A106_0, c106_0, e106, hx106_0, hl106_0, hi106_0⟩ := at_L1 HR1.out x13_1 p106 q106
         cases e106
         have HR106_0 := Aside0.mk hi106_0
         have HC106_0 := Aside0.mk hl106_0
         clear hi106_0 hl106_0
         replace p106 := eq_true p106
         replace q106 := eq_true q106
         have hcv10 := Kd.C_string (P := Tryd.prog) (A := A106_0) (c := c106_0) Tryd.underlying27 Tryd.underlying5 Tryd.underlying9 HR106_0.out
         have hcv10b := fun m_ : Nat => Kd.C_string (P := Tryd.prog) (A := A106_0) (c := c106_0) Tryd.underlying27 Tryd.underlying5 Tryd.underlying9 (Kd.C_drewN HR106_0.out m_)
         go_wp2
         repeat (go_quiet (fail); try go_wp2)
         go_roundg k1
         case measure => have := HK1.out; omega
         case rel => exact ⟨(wrap64 (x13_1 + 1)), (by first | rfl | (simp; done) | (simp [*]; done)), H', ⟨by have := HK1.out; omega⟩, by repeat (first | exact Drawn0.refl _ | apply Drawn0.step)⟩
        ·rw [if_neg c8] at H
         have c8b0 : ((strOfNums (rd_L1 l0 x13_1)).toList == (strOfNums (rd_L1 l1 x13_1)).toList) = false := beq_eq_false_iff_ne.mpr c8
         have c8b1 : ((strOfNums (rd_L1 l0 x13_1)).toList != (strOfNums (rd_L1 l1 x13_1)).toList) = true := bne_iff_ne.mpr c8
         obtain rfl := Option.some.inj H
         have p105 : 0 ≤ (x13_1 : Int) := dA
         have q105 : x13_1 < (l0.length : Int) := dA
         obtain ⟨ad105, A105_0, c105_0, e105, hx105_0, hl105_0, hi105_0⟩ := at_L1 HR0.out x13_1 p105 q105
         cases e105
         have HR105_0 := Aside0.mk hi105_0
         have HC105_0 := Aside0.mk hl105_0
         clear hi105_0 hl105_0
         replace p105 := eq_true p105
         replace q105 := eq_true q105
         have hcv11 := Kd.C_string (P := Tryd.prog) (A := A105_0) (c := c105_0) Tryd.underlying27 Tryd.underlying5 Tryd.underlying9 HR105_0.out
         have hcv11b := fun m_ : Nat => Kd.C_string (P := Tryd.prog) (A := A105_0) (c := c105_0) Tryd.underlying27 Tryd.underlying5 Tryd.underlying9 (Kd.C_drewN HR105_0.out m_)
         have p106 : 0 ≤ (x13_1 : Int) := dA
         have q106 : x13_1 < (l1.length : Int) := dA
         obtain ⟨ad106, A106_0, c106_0, e106, hx106_0, hl106_0, hi106_0⟩ := at_L1 HR1.out x13_1 p106 q106
         cases e106
         have HR106_0 := Aside0.mk hi106_0
         have HC106_0 := Aside0.mk hl106_0
         clear hi106_0 hl106_0
         replace p106 := eq_true p106
         replace q106 := eq_true q106
         have hcv12 := Kd.C_string (P := Tryd.prog) (A := A106_0) (c := c106_0) Tryd.underlying27 Tryd.underlying5 Tryd.underlying9 HR106_0.out
         have hcv12b := fun m_ : Nat => Kd.C_string (P := Tryd.prog) (A := A106_0) (c := c106_0) Tryd.underlying27 Tryd.underlying5 Tryd.underlying9 (Kd.C_drewN HR106_0.out m_)
         go_wp2
         repeat (go_quiet (fail); try go_wp2)
         go_ret
         exact ⟨by first | rfl | (simp; done) | (simp [*]; done), by repeat (first | exact Drawn0.refl _ | apply Drawn0.step)⟩
       ·rw [if_neg c7] at H
        exact absurd H (by simp)
      ·rw [if_neg c6] at H
       exact absurd H (by simp)
     ·rw [if_neg c5] at H
      exact absurd H (by simp)
    ·rw [if_neg c4] at H
     have c4b0 : decide (x13_1 < (l0.length : Int)) = false := decide_eq_false c4
     clear c4
     obtain rfl := Option.some.inj H
     go_wp2
     repeat (go_quiet (fail); try go_wp2)
     go_ret
     exact ⟨by first | rfl | (simp; done) | (simp [*]; done), by repeat (first | exact Drawn0.refl _ | apply Drawn0.step)⟩
 ·rw [if_neg c3] at H
  have c3b0 : ((l0.length : Int) == (l1.length : Int)) = false := beq_eq_false_iff_ne.mpr c3
  have c3b1 : ((l0.length : Int) != (l1.length : Int)) = true := bne_iff_ne.mpr c3
  have c3b2 : (l0.length == l1.length) = false := by first | simpa using c3 | (simp at c3 ⊢; omega)
  obtain rfl := Option.some.inj H
  go_enter Tryd.func17, Tryd.ntmps17
  go_wp2
  repeat (go_quiet (fail); try go_wp2)
  go_ret
  exact ⟨by first | rfl | (simp; done) | (simp [*]; done), by repeat (first | exact Drawn0.refl _ | apply Drawn0.step)⟩


/-! ### laws_rangeRoom: function 22 -/
def laws_rangeRoom.f (k : Nat) (a0_0 : Int) (a0_1 : Int) (l0_2 : List (List Int)) (l1 : List (List Int)) : Option (Bool) := (laws_logSmall.f k l1).bind fun t104 => (if t104 = true then (some (decide ((IntKind.u64.wrap (a0_1 + (IntKind.u64.wrap ((l1.length : Int))))) ≥ a0_1))) else (some false))
theorem laws_rangeRoom.mono : ∀ a0 a1 a2 a3 k, LeO (laws_rangeRoom.f k a0 a1 a2 a3) (laws_rangeRoom.f (k + 1) a0 a1 a2 a3) := by
 intro a0 a1 a2 a3 k
 unfold laws_rangeRoom.f
 repeat' first
   | (with_reducible exact laws_logSmall.mono _ _)
   | (with_reducible exact LeO.refl _)
   | (with_reducible exact LeO.none _)
   | (with_reducible refine LeO.ite ?_ ?_)
   | (with_reducible refine LeO.bind ?_ (fun _ => ?_))
   | exact laws_logSmall.mono _ _
   | exact LeO.none _
   | refine LeO.ite ?_ ?_
   | refine LeO.bind ?_ (fun _ => ?_)
set_option maxHeartbeats 8000000 in
set_option maxRecDepth 100000 in
theorem laws_rangeRoom.calls (k : Nat) (a0_0 : Int) (a0_1 : Int) (A0_2 : Option Addr) (c0_2 : Nat) (l0_2 : List (List Int)) (A1 : Option Addr) (c1 : Nat) (l1 : List (List Int)) (r : Bool) (w : World) (hr0_2 : Kd.C (Kd.slice 5 (Kd.int .u8)) w A0_2 l0_2.length l0_2) (hc0_2 : l0_2.length ≤ c0_2) (hr1 : Kd.C (Kd.slice 5 (Kd.int .u8)) w A1 l1.length l1) (hc1 : l1.length ≤ c1) (h : laws_rangeRoom.f k a0_0 a0_1 l0_2 l1 = some r) :
  Calls Tryd.prog 22 #[.agg #[.int .u64 a0_0, .int .u64 a0_1, .slice A0_2 l0_2.length c0_2], .slice A1 l1.length c1] w fun e w' => e = .returned (.bool r) ∧ Below w.heap.size w w' := by
 have hu39 := Tryd.underlying39
 have HR0_2 := Aside0.mk hr0_2
 have HC0_2 := Aside0.mk hc0_2
 clear hr0_2 hc0_2
 have HR1 := Aside0.mk hr1
 have HC1 := Aside0.mk hc1
 clear hr1 hc1
 have HB := Aside0.mk (Below.refl w.heap.size w)
 have H : ((laws_logSmall.f k l1).bind fun t104 => (if t104 = true then (some (decide ((IntKind.u64.wrap (a0_1 + (IntKind.u64.wrap ((l1.length : Int))))) ≥ a0_1))) else (some false))) = some r := h
 clear h
 replace H := Option.bind_eq_some_iff.mp H
 obtain ⟨t104, A30, H⟩ := H
 replace H : (if t104 = true then (some (decide ((IntKind.u64.wrap (a0_1 + (IntKind.u64.wrap ((l1.length : Int))))) ≥ a0_1))) else (some false)) = some r := H
 have A3 := Aside0.mk A30
 clear A30
 by_cases c4 : t104 = true
 ·subst c4
  have H1 : (some (decide ((IntKind.u64.wrap (a0_1 + (IntKind.u64.wrap ((l1.length : Int))))) ≥ a0_1))) = some r := by rw [if_pos rfl] at H; exact H
  clear H
  have H := H1
  clear H1
  obtain rfl := Option.some.inj H
  go_enter Tryd.func22, Tryd.ntmps22
  go_wp2_with (first | ((with_reducible refine gate_dst (N := 2) rfl ?_); (try (refine gate_guard (by rfl) ?_; dsimp only)); refine box_event ?hg (N := 2) ?hd (cs := #[.int .u64 a0_0, .int .u64 a0_1, .slice A0_2 l0_2.length c0_2]) (t := 39) ?hr ?_; (case hd => rfl); (case hg => rfl); (case hr => first | (go_simp; done) | (go_simp; rfl)); intro gb103 hg w5 hbox hb; have n0_ := Aside0.mk (below_step bB hb); have n1_ := Aside0.mk (hbox); have n2_ := Aside0.mk ((by rw [hg]; exact (below_size bB) : w.heap.size ≤ gb103)); have n3_ := Aside0.mk ((by rw [hg]; exact (below_size bB) : w.heap.size ≤ gb103)); clear HB; have HB := n0_; have BK103 := n1_; have GW103 := n2_; have GE103 := n3_; clear n0_ n1_ n2_ n3_; clear hb hbox hg) | ((with_reducible refine gate_callee (f := 13) rfl ?_); refine goesL_ (some 6) rfl rfl Tryd.func13 (by kernel_rfl) rfl #[.slice A1 l1.length c1] rfl aV ?_; (with_reducible refine (laws_logSmall.calls k _ _ l1 true _ ?side1 ?side2 A3.out).mono ?_); (case side1 => repeat (first | exact (Kd.C_below HR1.out HB.out) | (with_reducible refine Kd.C_alloc ?_ _) | (with_reducible refine Kd.C_drewN ?_ _) | (with_reducible refine Kd.C_drew ?_))); (case side2 => exact HC1.out); rintro e w' ⟨rfl, ⟨nd, rfl⟩⟩; refine ⟨_, rfl, ?_⟩; have hcz6_0 : w5.cell? ⟨gb103, 0, none⟩ = some (.int .u64 a0_0) := (blk_cell BK103.out 0).trans rfl; have hcz6_1 : w5.cell? ⟨gb103, 1, none⟩ = some (.int .u64 a0_1) := (blk_cell BK103.out 1).trans rfl; have hcz6_2 : w5.cell? ⟨gb103, 2, none⟩ = some (.slice A0_2 l0_2.length c0_2) := (blk_cell BK103.out 2).trans rfl; have hfz6_0 := blk_frozen BK103.out 0; have hfz6_1 := blk_frozen BK103.out 1; have hfz6_2 := blk_frozen BK103.out 2))
  go_ret
  exact ⟨by first | rfl | (simp [errW_none, errW_some] <;> rfl) | (simp [*, errW_none, errW_some] <;> rfl), bB⟩
 ·replace c4 := Bool.eq_false_iff.mpr c4
  subst c4
  have H1 : (some false) = some r := by rw [if_neg (show ¬ (false = true) by decide)] at H; exact H
  clear H
  have H := H1
  clear H1
  obtain rfl := Option.some.inj H
  go_enter Tryd.func22, Tryd.ntmps22
  go_wp2_with (first | ((with_reducible refine gate_dst (N := 2) rfl ?_); (try (refine gate_guard (by rfl) ?_; dsimp only)); refine box_event ?hg (N := 2) ?hd (cs := #[.int .u64 a0_0, .int .u64 a0_1, .slice A0_2 l0_2.length c0_2]) (t := 39) ?hr ?_; (case hd => rfl); (case hg => rfl); (case hr => first | (go_simp; done) | (go_simp; rfl)); intro gb103 hg w7 hbox hb; have n0_ := Aside0.mk (below_step bB hb); have n1_ := Aside0.mk (hbox); have n2_ := Aside0.mk ((by rw [hg]; exact (below_size bB) : w.heap.size ≤ gb103)); have n3_ := Aside0.mk ((by rw [hg]; exact (below_size bB) : w.heap.size ≤ gb103)); clear HB; have HB := n0_; have BK103 := n1_; have GW103 := n2_; have GE103 := n3_; clear n0_ n1_ n2_ n3_; clear hb hbox hg) | ((with_reducible refine gate_callee (f := 13) rfl ?_); refine goesL_ (some 6) rfl rfl Tryd.func13 (by kernel_rfl) rfl #[.slice A1 l1.length c1] rfl aV ?_; (with_reducible refine (laws_logSmall.calls k _ _ l1 false _ ?side1 ?side2 A3.out).mono ?_); (case side1 => repeat (first | exact (Kd.C_below HR1.out HB.out) | (with_reducible refine Kd.C_alloc ?_ _) | (with_reducible refine Kd.C_drewN ?_ _) | (with_reducible refine Kd.C_drew ?_))); (case side2 => exact HC1.out); rintro e w' ⟨rfl, ⟨nd, rfl⟩⟩; refine ⟨_, rfl, ?_⟩))
  go_ret
  exact ⟨by first | rfl | (simp [errW_none, errW_some] <;> rfl) | (simp [*, errW_none, errW_some] <;> rfl), bB⟩


/-! ### spec_SameRange: function 25 -/
def spec_SameRange.f (k : Nat) (a0_0 : Int) (a0_1 : Int) (l0_2 : List (List Int)) (a1_0 : Int) (a1_1 : Int) (l1_2 : List (List Int)) : Option (Bool) := if a0_0 = a1_0 then (if a0_1 = a1_1 then ((spec_Same.f k l0_2 l1_2).bind fun t109 => (some t109)) else (some false)) else (some false)
theorem spec_SameRange.mono : ∀ a0 a1 a2 a3 a4 a5 k, LeO (spec_SameRange.f k a0 a1 a2 a3 a4 a5) (spec_SameRange.f (k + 1) a0 a1 a2 a3 a4 a5) := by
 intro a0 a1 a2 a3 a4 a5 k
 unfold spec_SameRange.f
 repeat' first
   | (with_reducible exact spec_Same.mono _ _ _)
   | (with_reducible exact LeO.refl _)
   | (with_reducible exact LeO.none _)
   | (with_reducible refine LeO.ite ?_ ?_)
   | (with_reducible refine LeO.bind ?_ (fun _ => ?_))
   | exact spec_Same.mono _ _ _
   | exact LeO.none _
   | refine LeO.ite ?_ ?_
   | refine LeO.bind ?_ (fun _ => ?_)
set_option maxHeartbeats 8000000 in
set_option maxRecDepth 100000 in
theorem spec_SameRange.calls (k : Nat) (a0_0 : Int) (a0_1 : Int) (A0_2 : Option Addr) (c0_2 : Nat) (l0_2 : List (List Int)) (a1_0 : Int) (a1_1 : Int) (A1_2 : Option Addr) (c1_2 : Nat) (l1_2 : List (List Int)) (r : Bool) (w : World) (hr0_2 : Kd.C (Kd.slice 5 (Kd.int .u8)) w A0_2 l0_2.length l0_2) (hc0_2 : l0_2.length ≤ c0_2) (hr1_2 : Kd.C (Kd.slice 5 (Kd.int .u8)) w A1_2 l1_2.length l1_2) (hc1_2 : l1_2.length ≤ c1_2) (h : spec_SameRange.f k a0_0 a0_1 l0_2 a1_0 a1_1 l1_2 = some r) :
  Calls Tryd.prog 25 #[.agg #[.int .u64 a0_0, .int .u64 a0_1, .slice A0_2 l0_2.length c0_2], .agg #[.int .u64 a1_0, .int .u64 a1_1, .slice A1_2 l1_2.length c1_2]] w fun e w' => e = .returned (.bool r) ∧ Below w.heap.size w w' := by
 have hu39 := Tryd.underlying39
 have HR0_2 := Aside0.mk hr0_2
 have HC0_2 := Aside0.mk hc0_2
 clear hr0_2 hc0_2
 have HR1_2 := Aside0.mk hr1_2
 have HC1_2 := Aside0.mk hc1_2
 clear hr1_2 hc1_2
 have HB := Aside0.mk (Below.refl w.heap.size w)
 have H : (if a0_0 = a1_0 then (if a0_1 = a1_1 then ((spec_Same.f k l0_2 l1_2).bind fun t109 => (some t109)) else (some false)) else (some false)) = some r := h
 clear h
 by_cases c3 : a0_0 = a1_0
 ·rw [if_pos c3] at H
  have c3b0 : (a0_0 == a1_0) = true := beq_iff_eq.mpr c3
  have c3b1 : (a0_0 != a1_0) = false := bne_eq_false_iff_eq.mpr c3
  clear c3
  by_cases c4 : a0_1 = a1_1
  ·rw [if_pos c4] at H
   have c4b0 : (a0_1 == a1_1) = true := beq_iff_eq.mpr c4
   have c4b1 : (a0_1 != a1_1) = false := bne_eq_false_iff_eq.mpr c4
   clear c4
   replace H := Option.bind_eq_some_iff.mp H
   obtain ⟨t109, A50, H⟩ := H
   replace H : (some t109) = some r := H
   have A5 := Aside0.mk A50
   clear A50
   obtain rfl := Option.some.inj H
   go_enter Tryd.func25, Tryd.ntmps25
   go_wp2_with (first | ((with_reducible refine gate_dst (N := 2) rfl ?_); refine box_event ?hg (N := 2) ?hd (cs := #[.int .u64 a0_0, .int .u64 a0_1, .slice A0_2 l0_2.length c0_2]) (t := 39) ?hr ?_; (case hd => rfl); (case hg => rfl); (case hr => first | (go_simp; done) | (go_simp; rfl)); intro gb107 hg w6 hbox hb; have n0_ := Aside0.mk (below_step bB hb); have n1_ := Aside0.mk (hbox); have n2_ := Aside0.mk ((by rw [hg]; exact (below_size bB) : w.heap.size ≤ gb107)); have n3_ := Aside0.mk ((by rw [hg]; exact (below_size bB) : w.heap.size ≤ gb107)); clear HB; have HB := n0_; have BK107 := n1_; have GW107 := n2_; have GE107 := n3_; clear n0_ n1_ n2_ n3_; clear hb hbox hg) | ((with_reducible refine gate_dst (N := 3) rfl ?_); refine box_event ?hg (N := 3) ?hd (cs := #[.int .u64 a1_0, .int .u64 a1_1, .slice A1_2 l1_2.length c1_2]) (t := 39) ?hr ?_; (case hd => rfl); (case hg => rfl); (case hr => first | (go_simp; done) | (go_simp; rfl)); intro gb108 hg w7 hbox hb; have n0_ := Aside0.mk (blk_below (g := gb107) (o := .cells #[.int .u64 a0_0, .int .u64 a0_1, .slice A0_2 l0_2.length c0_2] 39 (0, 0)) (kB BK107.out) hb); have n1_ := Aside0.mk (below_step bB hb); have n2_ := Aside0.mk (hbox); have n3_ := Aside0.mk ((by rw [hg]; exact (below_size bB) : w.heap.size ≤ gb108)); have n4_ := Aside0.mk ((by rw [hg]; exact (below_size bB) : w.heap.size ≤ gb108)); have n5_ := Aside0.mk ((by rw [hg]; exact Nat.ne_of_lt (blk_lt (g := gb107) (o := .cells #[.int .u64 a0_0, .int .u64 a0_1, .slice A0_2 l0_2.length c0_2] 39 (0, 0)) (kB BK107.out)) : gb107 ≠ gb108)); have n6_ := Aside0.mk ((by rw [hg]; exact Nat.ne_of_gt (blk_lt (g := gb107) (o := .cells #[.int .u64 a0_0, .int .u64 a0_1, .slice A0_2 l0_2.length c0_2] 39 (0, 0)) (kB BK107.out)) : gb108 ≠ gb107)); clear BK107; clear HB; have BK107 := n0_; have HB := n1_; have BK108 := n2_; have GW108 := n3_; have GE108 := n4_; have NB107_108 := n5_; have NB108_107 := n6_; clear n0_ n1_ n2_ n3_ n4_ n5_ n6_; clear hb hbox hg; have hnb8 := NB107_108.out; have hnc8 := NB108_107.out; have hcz9_0 : w7.cell? ⟨gb107, 0, none⟩ = some (.int .u64 a0_0) := (blk_cell BK107.out 0).trans rfl; have hcz9_1 : w7.cell? ⟨gb107, 1, none⟩ = some (.int .u64 a0_1) := (blk_cell BK107.out 1).trans rfl; have hcz9_2 : w7.cell? ⟨gb107, 2, none⟩ = some (.slice A0_2 l0_2.length c0_2) := (blk_cell BK107.out 2).trans rfl; have hfz9_0 := blk_frozen BK107.out 0; have hfz9_1 := blk_frozen BK107.out 1; have hfz9_2 := blk_frozen BK107.out 2; have hcz10_0 : w7.cell? ⟨gb108, 0, none⟩ = some (.int .u64 a1_0) := (blk_cell BK108.out 0).trans rfl; have hcz10_1 : w7.cell? ⟨gb108, 1, none⟩ = some (.int .u64 a1_1) := (blk_cell BK108.out 1).trans rfl; have hcz10_2 : w7.cell? ⟨gb108, 2, none⟩ = some (.slice A1_2 l1_2.length c1_2) := (blk_cell BK108.out 2).trans rfl; have hfz10_0 := blk_frozen BK108.out 0; have hfz10_1 := blk_frozen BK108.out 1; have hfz10_2 := blk_frozen BK108.out 2) | (go_at_call 17; (with_reducible refine (spec_Same.calls k _ _ l0_2 _ _ l1_2 t109 _ ?side1 ?side2 ?side3 ?side4 A5.out).mono ?_); (case side1 => repeat (first | exact (Kd.C_below HR0_2.out HB.out) | (with_reducible refine Kd.C_alloc ?_ _) | (with_reducible refine Kd.C_drewN ?_ _) | (with_reducible refine Kd.C_drew ?_))); (case side2 => exact HC0_2.out); (case side3 => repeat (first | exact (Kd.C_below HR1_2.out HB.out) | (with_reducible refine Kd.C_alloc ?_ _) | (with_reducible refine Kd.C_drewN ?_ _) | (with_reducible refine Kd.C_drew ?_))); (case side4 => exact HC1_2.out); rintro e w' ⟨rfl, ⟨nd, rfl⟩⟩))
   go_ret
   exact ⟨by first | rfl | (simp [errW_none, errW_some] <;> rfl) | (simp [*, errW_none, errW_some] <;> rfl), bB⟩
  ·rw [if_neg c4] at H
   have c4b0 : (a0_1 == a1_1) = false := beq_eq_false_iff_ne.mpr c4
   have c4b1 : (a0_1 != a1_1) = true := bne_iff_ne.mpr c4
   obtain rfl := Option.some.inj H
   go_enter Tryd.func25, Tryd.ntmps25
   go_wp2_with (first | ((with_reducible refine gate_dst (N := 2) rfl ?_); refine box_event ?hg (N := 2) ?hd (cs := #[.int .u64 a0_0, .int .u64 a0_1, .slice A0_2 l0_2.length c0_2]) (t := 39) ?hr ?_; (case hd => rfl); (case hg => rfl); (case hr => first | (go_simp; done) | (go_simp; rfl)); intro gb107 hg w11 hbox hb; have n0_ := Aside0.mk (below_step bB hb); have n1_ := Aside0.mk (hbox); have n2_ := Aside0.mk ((by rw [hg]; exact (below_size bB) : w.heap.size ≤ gb107)); have n3_ := Aside0.mk ((by rw [hg]; exact (below_size bB) : w.heap.size ≤ gb107)); clear HB; have HB := n0_; have BK107 := n1_; have GW107 := n2_; have GE107 := n3_; clear n0_ n1_ n2_ n3_; clear hb hbox hg) | ((with_reducible refine gate_dst (N := 3) rfl ?_); refine box_event ?hg (N := 3) ?hd (cs := #[.int .u64 a1_0, .int .u64 a1_1, .slice A1_2 l1_2.length c1_2]) (t := 39) ?hr ?_; (case hd => rfl); (case hg => rfl); (case hr => first | (go_simp; done) | (go_simp; rfl)); intro gb108 hg w12 hbox hb; have n0_ := Aside0.mk (blk_below (g := gb107) (o := .cells #[.int .u64 a0_0, .int .u64 a0_1, .slice A0_2 l0_2.length c0_2] 39 (0, 0)) (kB BK107.out) hb); have n1_ := Aside0.mk (below_step bB hb); have n2_ := Aside0.mk (hbox); have n3_ := Aside0.mk ((by rw [hg]; exact (below_size bB) : w.heap.size ≤ gb108)); have n4_ := Aside0.mk ((by rw [hg]; exact (below_size bB) : w.heap.size ≤ gb108)); have n5_ := Aside0.mk ((by rw [hg]; exact Nat.ne_of_lt (blk_lt (g := gb107) (o := .cells #[.int .u64 a0_0, .int .u64 a0_1, .slice A0_2 l0_2.length c0_2] 39 (0, 0)) (kB BK107.out)) : gb107 ≠ gb108)); have n6_ := Aside0.mk ((by rw [hg]; exact Nat.ne_of_gt (blk_lt (g := gb107) (o := .cells #[.int .u64 a0_0, .int .u64 a0_1, .slice A0_2 l0_2.length c0_2] 39 (0, 0)) (kB BK107.out)) : gb108 ≠ gb107)); clear BK107; clear HB; have BK107 := n0_; have HB := n1_; have BK108 := n2_; have GW108 := n3_; have GE108 := n4_; have NB107_108 := n5_; have NB108_107 := n6_; clear n0_ n1_ n2_ n3_ n4_ n5_ n6_; clear hb hbox hg; have hnb13 := NB107_108.out; have hnc13 := NB108_107.out; have hcz14_0 : w12.cell? ⟨gb107, 0, none⟩ = some (.int .u64 a0_0) := (blk_cell BK107.out 0).trans rfl; have hcz14_1 : w12.cell? ⟨gb107, 1, none⟩ = some (.int .u64 a0_1) := (blk_cell BK107.out 1).trans rfl; have hcz14_2 : w12.cell? ⟨gb107, 2, none⟩ = some (.slice A0_2 l0_2.length c0_2) := (blk_cell BK107.out 2).trans rfl; have hfz14_0 := blk_frozen BK107.out 0; have hfz14_1 := blk_frozen BK107.out 1; have hfz14_2 := blk_frozen BK107.out 2; have hcz15_0 : w12.cell? ⟨gb108, 0, none⟩ = some (.int .u64 a1_0) := (blk_cell BK108.out 0).trans rfl; have hcz15_1 : w12.cell? ⟨gb108, 1, none⟩ = some (.int .u64 a1_1) := (blk_cell BK108.out 1).trans rfl; have hcz15_2 : w12.cell? ⟨gb108, 2, none⟩ = some (.slice A1_2 l1_2.length c1_2) := (blk_cell BK108.out 2).trans rfl; have hfz15_0 := blk_frozen BK108.out 0; have hfz15_1 := blk_frozen BK108.out 1; have hfz15_2 := blk_frozen BK108.out 2))
   go_ret
   exact ⟨by first | rfl | (simp [errW_none, errW_some] <;> rfl) | (simp [*, errW_none, errW_some] <;> rfl), bB⟩
 ·rw [if_neg c3] at H
  have c3b0 : (a0_0 == a1_0) = false := beq_eq_false_iff_ne.mpr c3
  have c3b1 : (a0_0 != a1_0) = true := bne_iff_ne.mpr c3
  obtain rfl := Option.some.inj H
  go_enter Tryd.func25, Tryd.ntmps25
  go_wp2_with (first | ((with_reducible refine gate_dst (N := 2) rfl ?_); refine box_event ?hg (N := 2) ?hd (cs := #[.int .u64 a0_0, .int .u64 a0_1, .slice A0_2 l0_2.length c0_2]) (t := 39) ?hr ?_; (case hd => rfl); (case hg => rfl); (case hr => first | (go_simp; done) | (go_simp; rfl)); intro gb107 hg w16 hbox hb; have n0_ := Aside0.mk (below_step bB hb); have n1_ := Aside0.mk (hbox); have n2_ := Aside0.mk ((by rw [hg]; exact (below_size bB) : w.heap.size ≤ gb107)); have n3_ := Aside0.mk ((by rw [hg]; exact (below_size bB) : w.heap.size ≤ gb107)); clear HB; have HB := n0_; have BK107 := n1_; have GW107 := n2_; have GE107 := n3_; clear n0_ n1_ n2_ n3_; clear hb hbox hg) | ((with_reducible refine gate_dst (N := 3) rfl ?_); refine box_event ?hg (N := 3) ?hd (cs := #[.int .u64 a1_0, .int .u64 a1_1, .slice A1_2 l1_2.length c1_2]) (t := 39) ?hr ?_; (case hd => rfl); (case hg => rfl); (case hr => first | (go_simp; done) | (go_simp; rfl)); intro gb108 hg w17 hbox hb; have n0_ := Aside0.mk (blk_below (g := gb107) (o := .cells #[.int .u64 a0_0, .int .u64 a0_1, .slice A0_2 l0_2.length c0_2] 39 (0, 0)) (kB BK107.out) hb); have n1_ := Aside0.mk (below_step bB hb); have n2_ := Aside0.mk (hbox); have n3_ := Aside0.mk ((by rw [hg]; exact (below_size bB) : w.heap.size ≤ gb108)); have n4_ := Aside0.mk ((by rw [hg]; exact (below_size bB) : w.heap.size ≤ gb108)); have n5_ := Aside0.mk ((by rw [hg]; exact Nat.ne_of_lt (blk_lt (g := gb107) (o := .cells #[.int .u64 a0_0, .int .u64 a0_1, .slice A0_2 l0_2.length c0_2] 39 (0, 0)) (kB BK107.out)) : gb107 ≠ gb108)); have n6_ := Aside0.mk ((by rw [hg]; exact Nat.ne_of_gt (blk_lt (g := gb107) (o := .cells #[.int .u64 a0_0, .int .u64 a0_1, .slice A0_2 l0_2.length c0_2] 39 (0, 0)) (kB BK107.out)) : gb108 ≠ gb107)); clear BK107; clear HB; have BK107 := n0_; have HB := n1_; have BK108 := n2_; have GW108 := n3_; have GE108 := n4_; have NB107_108 := n5_; have NB108_107 := n6_; clear n0_ n1_ n2_ n3_ n4_ n5_ n6_; clear hb hbox hg; have hnb18 := NB107_108.out; have hnc18 := NB108_107.out; have hcz19_0 : w17.cell? ⟨gb107, 0, none⟩ = some (.int .u64 a0_0) := (blk_cell BK107.out 0).trans rfl; have hcz19_1 : w17.cell? ⟨gb107, 1, none⟩ = some (.int .u64 a0_1) := (blk_cell BK107.out 1).trans rfl; have hcz19_2 : w17.cell? ⟨gb107, 2, none⟩ = some (.slice A0_2 l0_2.length c0_2) := (blk_cell BK107.out 2).trans rfl; have hfz19_0 := blk_frozen BK107.out 0; have hfz19_1 := blk_frozen BK107.out 1; have hfz19_2 := blk_frozen BK107.out 2; have hcz20_0 : w17.cell? ⟨gb108, 0, none⟩ = some (.int .u64 a1_0) := (blk_cell BK108.out 0).trans rfl; have hcz20_1 : w17.cell? ⟨gb108, 1, none⟩ = some (.int .u64 a1_1) := (blk_cell BK108.out 1).trans rfl; have hcz20_2 : w17.cell? ⟨gb108, 2, none⟩ = some (.slice A1_2 l1_2.length c1_2) := (blk_cell BK108.out 2).trans rfl; have hfz20_0 := blk_frozen BK108.out 0; have hfz20_1 := blk_frozen BK108.out 1; have hfz20_2 := blk_frozen BK108.out 2))
  go_ret
  exact ⟨by first | rfl | (simp [errW_none, errW_some] <;> rfl) | (simp [*, errW_none, errW_some] <;> rfl), bB⟩


attribute [local go_sem high] eqA54
/-! ### spec_SameVisits: function 26 -/
def spec_SameVisits.l0 : Nat → List (S60) → List (S60) → Int → Int → Option (Bool)
 | 0, _, _, _, _ => none
 | k + 1, x0, x1, x12, x13 => if x13 < x12 then (if 0 ≤ x13 then (if x13 < (x0.length : Int) then (if x13 < (x1.length : Int) then (if (!(((rd_T60 x0 x13).f0.f0) == ((rd_T60 x1 x13).f0.f0)) || (!(((rd_T60 x0 x13).f0.f1) == ((rd_T60 x1 x13).f0.f1)))) = true then (some false) else (if (strOfNums ((rd_T60 x0 x13).f1)).toList = (strOfNums ((rd_T60 x1 x13).f1)).toList then (spec_SameVisits.l0 k x0 x1 x12 (wrap64 (x13 + 1))) else (some false))) else (none)) else (none)) else (none)) else (some true)
def spec_SameVisits.f (k : Nat) (l0 : List (S60)) (l1 : List (S60)) : Option (Bool) := if (l0.length : Int) = (l1.length : Int) then (spec_SameVisits.l0 k l0 l1 (l0.length : Int) 0) else (some false)
theorem spec_SameVisits.mono_l : ∀ k, (∀ y0 y1 y2 y3, LeO (spec_SameVisits.l0 k y0 y1 y2 y3) (spec_SameVisits.l0 (k + 1) y0 y1 y2 y3))
 | 0 => fun _ _ _ _ r h => by simp [spec_SameVisits.l0] at h
 | k + 1 => by
  have ih0 := spec_SameVisits.mono_l k
  ·intro y0 y1 y2 y3
   unfold spec_SameVisits.l0
   repeat' first
   | (with_reducible exact ih0 _ _ _ _)
   | (with_reducible exact LeO.refl _)
   | (with_reducible exact LeO.none _)
   | (with_reducible refine LeO.ite ?_ ?_)
   | (with_reducible refine LeO.bind ?_ (fun _ => ?_))
   | exact ih0 _ _ _ _
   | exact LeO.none _
   | refine LeO.ite ?_ ?_
   | refine LeO.bind ?_ (fun _ => ?_)
theorem spec_SameVisits.mono : ∀ a0 a1 k, LeO (spec_SameVisits.f k a0 a1) (spec_SameVisits.f (k + 1) a0 a1) := by
 intro a0 a1 k
 have ih0 := spec_SameVisits.mono_l k
 unfold spec_SameVisits.f
 repeat' first
   | (with_reducible exact ih0 _ _ _ _)
   | (with_reducible exact LeO.refl _)
   | (with_reducible exact LeO.none _)
   | (with_reducible refine LeO.ite ?_ ?_)
   | (with_reducible refine LeO.bind ?_ (fun _ => ?_))
   | exact ih0 _ _ _ _
   | exact LeO.none _
   | refine LeO.ite ?_ ?_
   | refine LeO.bind ?_ (fun _ => ?_)
set_option maxHeartbeats 8000000 in
set_option maxRecDepth 100000 in
theorem spec_SameVisits.calls (k : Nat) (A0 : Option Addr) (c0 : Nat) (l0 : List (S60)) (A1 : Option Addr) (c1 : Nat) (l1 : List (S60)) (r : Bool) (w : World) (hr0 : Kd.C k60 w A0 l0.length l0) (hc0 : l0.length ≤ c0) (hr1 : Kd.C k60 w A1 l1.length l1) (hc1 : l1.length ≤ c1) (h : spec_SameVisits.f k l0 l1 = some r) :
  Calls Tryd.prog 26 #[.slice A0 l0.length c0, .slice A1 l1.length c1] w fun e w' => e = .returned (.bool r) ∧ Drawn0 w w' := by
 have hu54 := Tryd.underlying54
 have HR0 := Aside0.mk hr0
 have HC0 := Aside0.mk hc0
 clear hr0 hc0
 have HR1 := Aside0.mk hr1
 have HC1 := Aside0.mk hc1
 clear hr1 hc1
 have H : (if (l0.length : Int) = (l1.length : Int) then (spec_SameVisits.l0 k l0 l1 (l0.length : Int) 0) else (some false)) = some r := h
 clear h
 by_cases c3 : (l0.length : Int) = (l1.length : Int)
 ·rw [if_pos c3] at H
  have c3b0 : ((l0.length : Int) == (l1.length : Int)) = true := beq_iff_eq.mpr c3
  have c3b1 : ((l0.length : Int) != (l1.length : Int)) = false := bne_eq_false_iff_eq.mpr c3
  have c3b2 : (l0.length == l1.length) = true := by first | simpa using c3 | (simp at c3 ⊢; omega)
  clear c3
  have H' := Aside0.mk H
  clear H
  go_enter Tryd.func26, Tryd.ntmps26
  go_wp2
  repeat (go_quiet (fail); try go_wp2)
  go_loopg [13] k (fun kq v13 w' => ∃ (x13_1 : Int), v13 = .int .i64 x13_1 ∧ Aside0 (spec_SameVisits.l0 kq l0 l1 (l0.length : Int) x13_1 = some r) ∧ Aside0 (kq ≤ k) ∧ Drawn0 w w')
  case atStart => exact ⟨(0), (by first | rfl | (simp; done) | (simp [*]; done)), H', ⟨Nat.le_refl _⟩, by repeat (first | exact Drawn0.refl _ | apply Drawn0.step)⟩
  case round =>
   clear H'
   try clear c1
   try clear c2
   try clear p2
   try clear c3
   try clear c3b0
   try clear c3b1
   try clear c3b2
   obtain ⟨x13_1, rfl, HA, HK1, ⟨m1, rfl⟩⟩ := hrel
   cases gk with
   | zero => exact absurd HA.out (by simp [spec_SameVisits.l0])
   | succ k1 =>
    have H := HA.out
    clear HA
    simp only [spec_SameVisits.l0] at H
    by_cases c4 : x13_1 < (l0.length : Int)
    ·rw [if_pos c4] at H
     have c4b0 : decide (x13_1 < (l0.length : Int)) = true := decide_eq_true c4
     clear c4
     by_cases c5 : 0 ≤ x13_1
     ·rw [if_pos c5] at H
      have c5b0 : decide (0 ≤ x13_1) = true := decide_eq_true c5
      clear c5
      by_cases c6 : x13_1 < (l0.length : Int)
      ·rw [if_pos c6] at H
       have c6b0 : decide (x13_1 < (l0.length : Int)) = true := decide_eq_true c6
       clear c6
       by_cases c7 : x13_1 < (l1.length : Int)
       ·rw [if_pos c7] at H
        have c7b0 : decide (x13_1 < (l1.length : Int)) = true := decide_eq_true c7
        clear c7
        by_cases c8 : (!(((rd_T60 l0 x13_1).f0.f0) == ((rd_T60 l1 x13_1).f0.f0)) || (!(((rd_T60 l0 x13_1).f0.f1) == ((rd_T60 l1 x13_1).f0.f1)))) = true
        ·rw [if_pos c8] at H
         have c8b0 : (!(((rd_T60 l0 x13_1).f0.f0) == ((rd_T60 l1 x13_1).f0.f0)) || (!(((rd_T60 l0 x13_1).f0.f1) == ((rd_T60 l1 x13_1).f0.f1)))) = true := c8
         clear c8
         obtain rfl := Option.some.inj H
         have p266 : 0 ≤ (x13_1 : Int) := dA
         have q266 : x13_1 < (l0.length : Int) := dA
         obtain ⟨ad266, A266_2, c266_2, e266, hx266_0, hx266_1, hx266_2, hl266_2, hi266_2⟩ := at_T60 HR0.out x13_1 p266 q266
         cases e266
         have HR266_2 := Aside0.mk hi266_2
         have HC266_2 := Aside0.mk hl266_2
         clear hi266_2 hl266_2
         replace p266 := eq_true p266
         replace q266 := eq_true q266
         have p267 : 0 ≤ (x13_1 : Int) := dA
         have q267 : x13_1 < (l1.length : Int) := dA
         obtain ⟨ad267, A267_2, c267_2, e267, hx267_0, hx267_1, hx267_2, hl267_2, hi267_2⟩ := at_T60 HR1.out x13_1 p267 q267
         cases e267
         have HR267_2 := Aside0.mk hi267_2
         have HC267_2 := Aside0.mk hl267_2
         clear hi267_2 hl267_2
         replace p267 := eq_true p267
         replace q267 := eq_true q267
         go_wp2
         repeat (go_quiet (fail); try go_wp2)
         go_ret
         exact ⟨by first | rfl | (simp; done) | (simp [*]; done), by repeat (first | exact Drawn0.refl _ | apply Drawn0.step)⟩
        ·rw [if_neg c8] at H
         have c8b0 : (!(((rd_T60 l0 x13_1).f0.f0) == ((rd_T60 l1 x13_1).f0.f0)) || (!(((rd_T60 l0 x13_1).f0.f1) == ((rd_T60 l1 x13_1).f0.f1)))) = false := by simpa using c8
         clear c8
         by_cases c9 : (strOfNums ((rd_T60 l0 x13_1).f1)).toList = (strOfNums ((rd_T60 l1 x13_1).f1)).toList
         ·rw [if_pos c9] at H
          have c9b0 : ((strOfNums ((rd_T60 l0 x13_1).f1)).toList == (strOfNums ((rd_T60 l1 x13_1).f1)).toList) = true := beq_iff_eq.mpr c9
          have c9b1 : ((strOfNums ((rd_T60 l0 x13_1).f1)).toList != (strOfNums ((rd_T60 l1 x13_1).f1)).toList) = false := bne_eq_false_iff_eq.mpr c9
          clear c9
          have H' := Aside0.mk H
          clear H
          have p266 : 0 ≤ (x13_1 : Int) := dA
          have q266 : x13_1 < (l0.length : Int) := dA
          obtain ⟨ad266, A266_2, c266_2, e266, hx266_0, hx266_1, hx266_2, hl266_2, hi266_2⟩ := at_T60 HR0.out x13_1 p266 q266
          cases e266
          have HR266_2 := Aside0.mk hi266_2
          have HC266_2 := Aside0.mk hl266_2
          clear hi266_2 hl266_2
          replace p266 := eq_true p266
          replace q266 := eq_true q266
          have p267 : 0 ≤ (x13_1 : Int) := dA
          have q267 : x13_1 < (l1.length : Int) := dA
          obtain ⟨ad267, A267_2, c267_2, e267, hx267_0, hx267_1, hx267_2, hl267_2, hi267_2⟩ := at_T60 HR1.out x13_1 p267 q267
          cases e267
          have HR267_2 := Aside0.mk hi267_2
          have HC267_2 := Aside0.mk hl267_2
          clear hi267_2 hl267_2
          replace p267 := eq_true p267
          replace q267 := eq_true q267
          have p268 : 0 ≤ (x13_1 : Int) := dA
          have q268 : x13_1 < (l0.length : Int) := dA
          obtain ⟨ad268, A268_2, c268_2, e268, hx268_0, hx268_1, hx268_2, hl268_2, hi268_2⟩ := at_T60 HR0.out x13_1 p268 q268
          obtain rfl : ad266 = ad268 := (by injection e268)
          have HR268_2 := Aside0.mk hi268_2
          have HC268_2 := Aside0.mk hl268_2
          clear hi268_2 hl268_2
          replace p268 := eq_true p268
          replace q268 := eq_true q268
          have ea_ := Option.some.inj (hx266_2.symm.trans hx268_2)
          injection ea_ with ea_ en_ ec_
          subst ea_
          subst ec_
          clear en_
          have hcv10 := Kd.C_string (P := Tryd.prog) (A := A266_2) (c := c266_2) Tryd.underlying27 Tryd.underlying5 Tryd.underlying9 HR268_2.out
          have hcv10b := fun m_ : Nat => Kd.C_string (P := Tryd.prog) (A := A266_2) (c := c266_2) Tryd.underlying27 Tryd.underlying5 Tryd.underlying9 (Kd.C_drewN HR268_2.out m_)
          have p269 : 0 ≤ (x13_1 : Int) := dA
          have q269 : x13_1 < (l1.length : Int) := dA
          obtain ⟨ad269, A269_2, c269_2, e269, hx269_0, hx269_1, hx269_2, hl269_2, hi269_2⟩ := at_T60 HR1.out x13_1 p269 q269
          obtain rfl : ad267 = ad269 := (by injection e269)
          have HR269_2 := Aside0.mk hi269_2
          have HC269_2 := Aside0.mk hl269_2
          clear hi269_2 hl269_2
          replace p269 := eq_true p269
          replace q269 := eq_true q269
          have ea_ := Option.some.inj (hx267_2.symm.trans hx269_2)
          injection ea_ with ea_ en_ ec_
          subst ea_
          subst ec_
          clear en_
          have hcv11 := Kd.C_string (P := Tryd.prog) (A := A267_2) (c := c267_2) Tryd.underlying27 Tryd.underlying5 Tryd.underlying9 HR269_2.out
          have hcv11b := fun m_ : Nat => Kd.C_string (P := Tryd.prog) (A := A267_2) (c := c267_2) Tryd.underlying27 Tryd.underlying5 Tryd.underlying9 (Kd.C_drewN HR269_2.out m_)
          go_wp2
          repeat (go_quiet (fail); try go_wp2)
          go_roundg k1
          case measure => have := HK1.out; omega
          case rel => exact ⟨(wrap64 (x13_1 + 1)), (by first | rfl | (simp; done) | (simp [*]; done)), H', ⟨by have := HK1.out; omega⟩, by repeat (first | exact Drawn0.refl _ | apply Drawn0.step)⟩
         ·rw [if_neg c9] at H
          have c9b0 : ((strOfNums ((rd_T60 l0 x13_1).f1)).toList == (strOfNums ((rd_T60 l1 x13_1).f1)).toList) = false := beq_eq_false_iff_ne.mpr c9
          have c9b1 : ((strOfNums ((rd_T60 l0 x13_1).f1)).toList != (strOfNums ((rd_T60 l1 x13_1).f1)).toList) = true := bne_iff_ne.mpr c9
          obtain rfl := Option.some.inj H
          have p266 : 0 ≤ (x13_1 : Int) := dA
          have q266 : x13_1 < (l0.length : Int) := dA
          obtain ⟨ad266, A266_2, c266_2, e266, hx266_0, hx266_1, hx266_2, hl266_2, hi266_2⟩ := at_T60 HR0.out x13_1 p266 q266
          cases e266
          have HR266_2 := Aside0.mk hi266_2
          have HC266_2 := Aside0.mk hl266_2
          clear hi266_2 hl266_2
          replace p266 := eq_true p266
          replace q266 := eq_true q266
          have p267 : 0 ≤ (x13_1 : Int) := dA
          have q267 : x13_1 < (l1.length : Int) := dA
          obtain ⟨ad267, A267_2, c267_2, e267, hx267_0, hx267_1, hx267_2, hl267_2, hi267_2⟩ := at_T60 HR1.out x13_1 p267 q267
          cases e267
          have HR267_2 := Aside0.mk hi267_2
          have HC267_2 := Aside0.mk hl267_2
          clear hi267_2 hl267_2
          replace p267 := eq_true p267
          replace q267 := eq_true q267
          have p268 : 0 ≤ (x13_1 : Int) := dA
          have q268 : x13_1 < (l0.length : Int) := dA
          obtain ⟨ad268, A268_2, c268_2, e268, hx268_0, hx268_1, hx268_2, hl268_2, hi268_2⟩ := at_T60 HR0.out x13_1 p268 q268
          obtain rfl : ad266 = ad268 := (by injection e268)
          have HR268_2 := Aside0.mk hi268_2
          have HC268_2 := Aside0.mk hl268_2
          clear hi268_2 hl268_2
          replace p268 := eq_true p268
          replace q268 := eq_true q268
          have ea_ := Option.some.inj (hx266_2.symm.trans hx268_2)
          injection ea_ with ea_ en_ ec_
          subst ea_
          subst ec_
          clear en_
          have hcv12 := Kd.C_string (P := Tryd.prog) (A := A266_2) (c := c266_2) Tryd.underlying27 Tryd.underlying5 Tryd.underlying9 HR268_2.out
          have hcv12b := fun m_ : Nat => Kd.C_string (P := Tryd.prog) (A := A266_2) (c := c266_2) Tryd.underlying27 Tryd.underlying5 Tryd.underlying9 (Kd.C_drewN HR268_2.out m_)
          have p269 : 0 ≤ (x13_1 : Int) := dA
          have q269 : x13_1 < (l1.length : Int) := dA
          obtain ⟨ad269, A269_2, c269_2, e269, hx269_0, hx269_1, hx269_2, hl269_2, hi269_2⟩ := at_T60 HR1.out x13_1 p269 q269
          obtain rfl : ad267 = ad269 := (by injection e269)
          have HR269_2 := Aside0.mk hi269_2
          have HC269_2 := Aside0.mk hl269_2
          clear hi269_2 hl269_2
          replace p269 := eq_true p269
          replace q269 := eq_true q269
          have ea_ := Option.some.inj (hx267_2.symm.trans hx269_2)
          injection ea_ with ea_ en_ ec_
          subst ea_
          subst ec_
          clear en_
          have hcv13 := Kd.C_string (P := Tryd.prog) (A := A267_2) (c := c267_2) Tryd.underlying27 Tryd.underlying5 Tryd.underlying9 HR269_2.out
          have hcv13b := fun m_ : Nat => Kd.C_string (P := Tryd.prog) (A := A267_2) (c := c267_2) Tryd.underlying27 Tryd.underlying5 Tryd.underlying9 (Kd.C_drewN HR269_2.out m_)
          go_wp2
          repeat (go_quiet (fail); try go_wp2)
          go_ret
          exact ⟨by first | rfl | (simp; done) | (simp [*]; done), by repeat (first | exact Drawn0.refl _ | apply Drawn0.step)⟩
       ·rw [if_neg c7] at H
        exact absurd H (by simp)
      ·rw [if_neg c6] at H
       exact absurd H (by simp)
     ·rw [if_neg c5] at H
      exact absurd H (by simp)
    ·rw [if_neg c4] at H
     have c4b0 : decide (x13_1 < (l0.length : Int)) = false := decide_eq_false c4
     clear c4
     obtain rfl := Option.some.inj H
     go_wp2
     repeat (go_quiet (fail); try go_wp2)
     go_ret
     exact ⟨by first | rfl | (simp; done) | (simp [*]; done), by repeat (first | exact Drawn0.refl _ | apply Drawn0.step)⟩
 ·rw [if_neg c3] at H
  have c3b0 : ((l0.length : Int) == (l1.length : Int)) = false := beq_eq_false_iff_ne.mpr c3
  have c3b1 : ((l0.length : Int) != (l1.length : Int)) = true := bne_iff_ne.mpr c3
  have c3b2 : (l0.length == l1.length) = false := by first | simpa using c3 | (simp at c3 ⊢; omega)
  obtain rfl := Option.some.inj H
  go_enter Tryd.func26, Tryd.ntmps26
  go_wp2
  repeat (go_quiet (fail); try go_wp2)
  go_ret
  exact ⟨by first | rfl | (simp; done) | (simp [*]; done), by repeat (first | exact Drawn0.refl _ | apply Drawn0.step)⟩


/-! ### impl_texts: function 46 -/
def impl_texts.l0 : Nat → List (List Int) → List (List Int) → Int → Int → Option ((List (List Int)))
 | 0, _, _, _, _ => none
 | k + 1, x3, x6, x7, x8 => if x8 < x7 then (if 0 ≤ x8 then (if x8 < (x6.length : Int) then ((some (([] : List Int) : List Int)).bind fun y111 => (if y111.length + (rd_L1 x6 x8).length < 140737488355328 then (if x3.length < 5864062014805 then (impl_texts.l0 k (x3 ++ [(y111 ++ (rd_L1 x6 x8))]) x6 x7 (wrap64 (x8 + 1))) else (none)) else (none))) else (none)) else (none)) else (some x3)
def impl_texts.f (k : Nat) (l0 : List (List Int)) : Option ((List (List Int))) := impl_texts.l0 k ([] : List (List Int)) l0 (l0.length : Int) 0
theorem impl_texts.mono_l : ∀ k, (∀ y0 y1 y2 y3, LeO (impl_texts.l0 k y0 y1 y2 y3) (impl_texts.l0 (k + 1) y0 y1 y2 y3))
 | 0 => fun _ _ _ _ r h => by simp [impl_texts.l0] at h
 | k + 1 => by
  have ih0 := impl_texts.mono_l k
  ·intro y0 y1 y2 y3
   unfold impl_texts.l0
   repeat' first
   | (with_reducible exact ih0 _ _ _ _)
   | (with_reducible exact LeO.refl _)
   | (with_reducible exact LeO.none _)
   | (with_reducible refine LeO.ite ?_ ?_)
   | (with_reducible refine LeO.bind ?_ (fun _ => ?_))
   | exact ih0 _ _ _ _
   | exact LeO.none _
   | refine LeO.ite ?_ ?_
   | refine LeO.bind ?_ (fun _ => ?_)
theorem impl_texts.mono : ∀ a0 k, LeO (impl_texts.f k a0) (impl_texts.f (k + 1) a0) := by
 intro a0 k
 have ih0 := impl_texts.mono_l k
 unfold impl_texts.f
 repeat' first
   | (with_reducible exact ih0 _ _ _ _)
   | (with_reducible exact LeO.refl _)
   | (with_reducible exact LeO.none _)
   | (with_reducible refine LeO.ite ?_ ?_)
   | (with_reducible refine LeO.bind ?_ (fun _ => ?_))
   | exact ih0 _ _ _ _
   | exact LeO.none _
   | refine LeO.ite ?_ ?_
   | refine LeO.bind ?_ (fun _ => ?_)
set_option maxHeartbeats 8000000 in
set_option maxRecDepth 100000 in
theorem impl_texts.calls (k : Nat) (A0 : Option Addr) (c0 : Nat) (l0 : List (List Int)) (r : List (List Int)) (w : World) (hr0 : Kd.C (Kd.slice 5 (Kd.int .u8)) w A0 l0.length l0) (hc0 : l0.length ≤ c0) (h : impl_texts.f k l0 = some r) :
  Calls Tryd.prog 46 #[.slice A0 l0.length c0] w fun e w' => ∃ v0_ : Value, e = .returned (v0_) ∧ Kd.S (Kd.slice 5 (Kd.int .u8)) 27 w' w.heap.size (fun _ => True) v0_ r ∧ Below w.heap.size w w' := by
 have HR0 := Aside0.mk hr0
 have HC0 := Aside0.mk hc0
 clear hr0 hc0
 have HB := Aside0.mk (Below.refl w.heap.size w)
 have H : (impl_texts.l0 k ([] : List (List Int)) l0 (l0.length : Int) 0) = some r := h
 clear h
 have H' := Aside0.mk H
 clear H
 go_enter Tryd.func46, Tryd.ntmps46
 go_wp2
 go_loopg [3, 8] k (fun kq v3 v8 w' => ∃ (x3_1 : List (List Int)) (x8_1 : Int), v8 = .int .i64 x8_1 ∧ Aside0 (impl_texts.l0 kq x3_1 l0 (l0.length : Int) x8_1 = some r) ∧ Aside0 (kq ≤ k) ∧ Aside0 (Kd.S (Kd.slice 5 (Kd.int .u8)) 27 w' w.heap.size (fun _ => True) v3 x3_1) ∧ Aside0 (Below w.heap.size w w'))
 case atStart => exact ⟨(([] : List (List Int))), (0), (by first | rfl | (simp; done) | (simp [*]; done)), H', ⟨Nat.le_refl _⟩, ⟨by first | exact Kd.S_nil _ _ _ _ _ | exact Kd.N_nil _ _ _ _ _ | exact Kd.V_nil _ _ _ _ _ | exact Kd.Q_nil _ _ _ _ _ | exact Kd.R_nil _ _ _ _ _⟩, ⟨bB⟩⟩
 case round =>
  clear H'
  obtain ⟨x3_1, x8_1, rfl, HA, HK1, HO_3, HB⟩ := hrel
  cases gk with
  | zero => exact absurd HA.out (by simp [impl_texts.l0])
  | succ k1 =>
   have H := HA.out
   clear HA
   simp only [impl_texts.l0] at H
   by_cases c2 : x8_1 < (l0.length : Int)
   ·rw [if_pos c2] at H
    have c2b0 : decide (x8_1 < (l0.length : Int)) = true := decide_eq_true c2
    clear c2
    by_cases c3 : 0 ≤ x8_1
    ·rw [if_pos c3] at H
     have c3b0 : decide (0 ≤ x8_1) = true := decide_eq_true c3
     clear c3
     by_cases c4 : x8_1 < (l0.length : Int)
     ·rw [if_pos c4] at H
      have c4b0 : decide (x8_1 < (l0.length : Int)) = true := decide_eq_true c4
      clear c4
      obtain ⟨y111, hy111⟩ : ∃ y_ : List Int, y_ = (([] : List Int)) := ⟨_, rfl⟩
      replace H : (if y111.length + (rd_L1 l0 x8_1).length < 140737488355328 then (if x3_1.length < 5864062014805 then (impl_texts.l0 k1 (x3_1 ++ [(y111 ++ (rd_L1 l0 x8_1))]) l0 (l0.length : Int) (wrap64 (x8_1 + 1))) else (none)) else (none)) = some r := by first | (rw [hy111]; with_reducible exact H) | (have H2_ := (Option.bind_some _ _).symm.trans H; rw [hy111]; with_reducible exact H2_) | (have H2_ := (Option.bind_some _ _).symm.trans H; with_reducible exact H2_) | with_reducible exact H | (rw [hy111]; exact H) | exact H
      have Ny111 := Aside0.mk hy111
      clear hy111
      by_cases c5 : y111.length + (rd_L1 l0 x8_1).length < 140737488355328
      ·rw [if_pos c5] at H
       have LMc5 := Aside0.mk c5
       clear c5
       obtain ⟨y114, hy114⟩ : ∃ y_ : List Int, y_ = (y111 ++ (rd_L1 l0 x8_1)) := ⟨_, rfl⟩
       replace H : (if x3_1.length < 5864062014805 then (impl_texts.l0 k1 (x3_1 ++ [y114]) l0 (l0.length : Int) (wrap64 (x8_1 + 1))) else (none)) = some r := by first | (rw [hy114]; with_reducible exact H) | (have H2_ := (Option.bind_some _ _).symm.trans H; rw [hy114]; with_reducible exact H2_) | (have H2_ := (Option.bind_some _ _).symm.trans H; with_reducible exact H2_) | with_reducible exact H | (rw [hy114]; exact H) | exact H
       have Ny114 := Aside0.mk hy114
       clear hy114
       by_cases c6 : x3_1.length < 5864062014805
       ·rw [if_pos c6] at H
        have LMc6 := Aside0.mk c6
        clear c6
        obtain ⟨y117, hy117⟩ : ∃ y_ : List (List Int), y_ = (x3_1 ++ [y114]) := ⟨_, rfl⟩
        replace H : (impl_texts.l0 k1 y117 l0 (l0.length : Int) (wrap64 (x8_1 + 1))) = some r := by first | (rw [hy117]; with_reducible exact H) | (have H2_ := (Option.bind_some _ _).symm.trans H; rw [hy117]; with_reducible exact H2_) | (have H2_ := (Option.bind_some _ _).symm.trans H; with_reducible exact H2_) | with_reducible exact H | (rw [hy117]; exact H) | exact H
        have Ny117 := Aside0.mk hy117
        clear hy117
        have H' := Aside0.mk H
        clear H
        have p110 : 0 ≤ (x8_1 : Int) := dA
        have q110 : x8_1 < (l0.length : Int) := dA
        obtain ⟨ad110, A110_0, c110_0, e110, hx110_0, hl110_0, hi110_0⟩ := at_L1 HR0.out x8_1 p110 q110
        cases e110
        replace hx110_0 := (HB.out.cell (World.block_lt_of_cell? w _ hx110_0)).trans hx110_0
        have HR110_0 := Aside0.mk hi110_0
        have HC110_0 := Aside0.mk hl110_0
        clear hi110_0 hl110_0
        replace p110 := eq_true p110
        replace q110 := eq_true q110
        go_wp2_with (first | ((with_reducible refine gate_dst (N := 13) rfl ?_); refine Kd.R_lit (Kd.int .u8) _ 5 ?hg (N := 13) ?hd (xs := ([] : List Int)) (inner := []) (ok := fun _ => True) (okp := fun _ => True) ?hr ?hp (fun _ hk => hk) trivial (Below.refl _ _) (Nat.le_refl _) (by simp) ?_; (case hd => rfl); (case hg => rfl); (case hr => first | (go_simp; done) | (go_simp; rfl)); (case hp => exact (Reps.none _ _)); intro v112 w7 ho8 hb hg_ hnew_; clear hg_ hnew_; (first | rw [← Ny111.out] at ho8 | (simp only [Int.reduceToNat] at ho8; rw [← Ny111.out] at ho8)); have n0_ := Aside0.mk (Kd.S_elder' (by (with_reducible repeat (first | apply Kd.S_alloc | apply Kd.S_drewN | apply Kd.S_drew)); exact HO_3.out) (Kd.R_base ho8) hb); have n1_ := Aside0.mk (Kd.R_lower ho8 (below_size bB)); have n2_ := Aside0.mk (below_step bB hb); clear HO_3; clear HB; have HO_3 := n0_; have HO113 := n1_; have HB := n2_; clear n0_ n1_ n2_; clear hb ho8) | ((with_reducible refine gate_builtin (b := .append) (xs := #[.tmp 13, .tmp 14]) rfl ?_); at_builtin; refine Kd.R_append_rows (Kd.int .u8) (w0 := w) w.heap.size rfl (.tmp 13) (.tmp 14) 27 5 (.int .u8 0) 1 rfl Tryd.underlying27 info5 rfl (by decide) (by omega) v112 y111 (rd_L1 l0 x8_1) _ _ _ (fun _ => True) (fun _ => False) rfl rfl ?aO ?aR (fun _ _ h => h) (fun _ h => h.elim) ?aF ?aB ?aS ?aL ?_; (case aR => repeat (first | exact (Kd.C_below HR110_0.out HB.out) | (with_reducible refine Kd.C_alloc ?_ _) | (with_reducible refine Kd.C_drewN ?_ _) | (with_reducible refine Kd.C_drew ?_))); (case aB => exact bB); (case aF => exact (fun _ _ => trivial)); (case aO => exact (kR HO113.out)); (case aS => exact (below_size bB)); (case aL => have := LMc5.out; omega); intro v115 w9 ho hb hg hat; rw [← Ny114.out] at ho; have n0_ := Aside0.mk (Kd.S_after (ok := (fun _ => True)) (by (with_reducible repeat (first | apply Kd.S_alloc | apply Kd.S_drewN | apply Kd.S_drew)); exact HO_3.out) hg hat); have n1_ := Aside0.mk (hb); have n2_ := Aside0.mk (ho); clear HO_3; clear HB; clear HO113; have HO_3 := n0_; have HB := n1_; have HO116 := n2_; clear n0_ n1_ n2_; clear ho hb hg hat; obtain ⟨Ao11, co11, eo11⟩ := Kd.R_slice HO116.out; subst eo11) | ((with_reducible refine gate_builtin (b := .append) (xs := #[.tmp 12, .tmp 16]) rfl ?_); at_builtin; refine Kd.S_append (Kd.slice 5 (Kd.int .u8)) (w0 := w) w.heap.size rfl (.tmp 12) (.tmp 16) 25 27 (.slice none 0 0) 24 rfl Tryd.underlying25 info27 rfl (by decide) (by omega) u3 x3_1 y114 [.slice Ao11 y114.length co11] (fun _ => True) (fun k_ => some k_ = (.slice Ao11 y114.length co11 : Value).ownBlock) rfl rfl ?aP (fun k_ hk_ => ((Kd.R_mono (ok' := fun k_ => ((fun _ => True)) k_ ∧ some k_ ≠ (u3 : Value).ownBlock) (Kd.R_apart' (HO116.out) (Kd.S_typed HO_3.out) (by decide)) (fun k_ hk => ⟨trivial, hk.2⟩))).1 k_ hk_.symm) ?aF ?aO ?aB ?aS ?aL ?_; (case aP => exact Kd.M_row (Kd.R_mono (Kd.R_tight rfl (Kd.R_mono (ok' := fun k_ => ((fun _ => True)) k_ ∧ some k_ ≠ (u3 : Value).ownBlock) (Kd.R_apart' (HO116.out) (Kd.S_typed HO_3.out) (by decide)) (fun k_ hk => ⟨trivial, hk.2⟩))) (fun _ h_ => h_))); (case aB => exact bB); (case aF => exact (fun _ _ => trivial)); (case aO => exact (by (with_reducible repeat (first | apply Kd.S_alloc | apply Kd.S_drewN | apply Kd.S_drew)); exact Kd.S_mono HO_3.out (fun k_ hk => ⟨trivial, fun e_ => hk.2 e_⟩))); (case aS => exact (below_size bB)); (case aL => have := LMc6.out; omega); intro v118 w10 ho hb hg hat; rw [← Ny117.out] at ho; have n0_ := Aside0.mk (hb); have n1_ := Aside0.mk (ho); clear HB; clear HO_3; clear HO116; have HB := n0_; have HO119 := n1_; clear n0_ n1_; clear ho hb hg hat))
        go_roundg k1
        case measure => have := HK1.out; omega
        case rel => exact ⟨(y117), (wrap64 (x8_1 + 1)), (by first | rfl | (simp; done) | (simp [*]; done)), H', ⟨by have := HK1.out; omega⟩, ⟨by (with_reducible repeat (first | apply Kd.S_alloc | apply Kd.S_drewN | apply Kd.S_drew)); exact HO119.out⟩, ⟨bB⟩⟩
       ·rw [if_neg c6] at H
        exact absurd H (by simp)
      ·rw [if_neg c5] at H
       exact absurd H (by simp)
     ·rw [if_neg c4] at H
      exact absurd H (by simp)
    ·rw [if_neg c3] at H
     exact absurd H (by simp)
   ·rw [if_neg c2] at H
    have c2b0 : decide (x8_1 < (l0.length : Int)) = false := decide_eq_false c2
    clear c2
    obtain rfl := Option.some.inj H
    go_wp2
    go_ret
    exact ⟨_, by first | rfl | (simp [errW_none, errW_some] <;> rfl) | (simp [*, errW_none, errW_some] <;> rfl), by (with_reducible repeat (first | apply Kd.S_alloc | apply Kd.S_drewN | apply Kd.S_drew)); exact HO_3.out, bB⟩


/-! ### compact_RangeSize: function 91 -/
def compact_RangeSize.f (a0 : Int) (a1 : Int) : Option (Int) := (compact_Decompose.f a0 a1).bind fun bt121 => ((bits_OnesCount64.f bt121.1).bind fun t123 => ((bits_OnesCount64.f bt121.2).bind fun t124 => (some (wrap64 (t123 + t124)))))
set_option maxHeartbeats 8000000 in
set_option maxRecDepth 100000 in
theorem compact_RangeSize.calls (a0 : Int) (a1 : Int) (r : Int) (w : World) (h : compact_RangeSize.f a0 a1 = some r) :
  Calls Tryd.prog 91 #[.int .u64 a0, .int .u64 a1] w fun e w' => e = .returned (.int .i64 r) ∧ Drawn0 w w' := by
 have H : ((compact_Decompose.f a0 a1).bind fun bt121 => ((bits_OnesCount64.f bt121.1).bind fun t123 => ((bits_OnesCount64.f bt121.2).bind fun t124 => (some (wrap64 (t123 + t124)))))) = some r := h
 clear h
 replace H := Option.bind_eq_some_iff.mp H
 obtain ⟨⟨t121, t122⟩, A30, H⟩ := H
 replace H : ((bits_OnesCount64.f t121).bind fun t123 => ((bits_OnesCount64.f t122).bind fun t124 => (some (wrap64 (t123 + t124))))) = some r := H
 have A3 := Aside0.mk A30
 clear A30
 replace H := Option.bind_eq_some_iff.mp H
 obtain ⟨t123, A40, H⟩ := H
 replace H : ((bits_OnesCount64.f t122).bind fun t124 => (some (wrap64 (t123 + t124)))) = some r := H
 have A4 := Aside0.mk A40
 clear A40
 replace H := Option.bind_eq_some_iff.mp H
 obtain ⟨t124, A50, H⟩ := H
 replace H : (some (wrap64 (t123 + t124))) = some r := H
 have A5 := Aside0.mk A50
 clear A50
 obtain rfl := Option.some.inj H
 go_enter Tryd.func91, Tryd.ntmps91
 go_wp2_with (first | ((with_reducible refine gate_callee (f := 108) rfl ?_); refine goesL_ (some 10) rfl rfl Tryd.func108 (by kernel_rfl) rfl #[.int .u64 a0, .int .u64 a1] rfl aV ?_; (with_reducible refine (compact_Decompose.calls a0 a1 t121 t122 _ A3.out).mono ?_); rintro e w' ⟨rfl, ⟨nd, rfl⟩⟩; refine ⟨_, rfl, ?_⟩) | ((with_reducible refine gate_callee (f := 112) rfl ?_); refine goesL_ (some 14) rfl rfl Tryd.func112 (by kernel_rfl) rfl #[.int .u64 t121] rfl aV ?_; (with_reducible refine (bits_OnesCount64.calls t121 t123 _ A4.out).mono ?_); rintro e w' ⟨rfl, ⟨nd, rfl⟩⟩; refine ⟨_, rfl, ?_⟩) | ((with_reducible refine gate_callee (f := 112) rfl ?_); refine goesL_ (some 16) rfl rfl Tryd.func112 (by kernel_rfl) rfl #[.int .u64 t122] rfl aV ?_; (with_reducible refine (bits_OnesCount64.calls t122 t124 _ A5.out).mono ?_); rintro e w' ⟨rfl, ⟨nd, rfl⟩⟩; refine ⟨_, rfl, ?_⟩))
 go_ret
 exact ⟨by first | rfl | (simp; done) | (simp [*]; done), by repeat (first | exact Drawn0.refl _ | apply Drawn0.step)⟩


/-! ### compact_RangeFactory_NewRange: function 53 -/
/-- A range in memory. -/
def RgB (g : Nat) (fv : Value) (b e : Int) (A : Option Addr) (n c : Nat) (w : World) : Prop := w.heap[g]? = some (.cells #[fv, .int .u64 b, .int .u64 e, .slice A n c] 157 (0, 0))
set_option maxHeartbeats 8000000 in
set_option maxRecDepth 100000 in
theorem compact_NewRange.good (fp : Addr) (b e : Int) (A : Option Addr) (n c : Nat) (w : World) (hbe : b ≤ e) (hs : compact_RangeSize.f b e = some (n : Int)) :
  Calls Tryd.prog 53 #[.pointer (some fp), .int .u64 b, .int .u64 e, .slice A n c] w fun ev w' => ∃ g, ev = .returned (.tuple #[.pointer (some ⟨g, 0, none⟩), .nilIface]) ∧ w.heap.size ≤ g ∧ RgB g (.pointer (some fp)) b e A n c w' ∧ Below w.heap.size w w' := by
 have HS := Aside0.mk hs
 clear hs
 have h1 : ¬ e < b := by omega
 have hne : ((n : Int) != (n : Int)) = false := by simp
 go_enter Tryd.func53, Tryd.ntmps53
 go_wp2_with (go_at_call 91; (with_reducible refine (compact_RangeSize.calls b e (n : Int) _ HS.out).mono ?_); rintro e' w' ⟨rfl, ⟨nq, rfl⟩⟩)
 go_ret2
 exact ⟨_, rfl, Nat.le_refl _, blk_new _ _, below_alloc (pw_below_drewN (Below.refl _ _) nq) _⟩
theorem RgB.lt {g : Nat} {fv : Value} {b e : Int} {A : Option Addr} {n c : Nat} {w : World} (h : RgB g fv b e A n c w) : g < w.heap.size := blk_lt h
theorem RgB.below {g : Nat} {fv : Value} {b e : Int} {A : Option Addr} {n c : Nat} {w w' : World} (h : RgB g fv b e A n c w) (hb : Below w.heap.size w w') : RgB g fv b e A n c w' := blk_below h hb


/-! ### impl_fromRange: function 57 -/
theorem compact_Range_Begin.calls (g : Nat) (b : Int) (w : World) (h : w.cell? ⟨g, 1, none⟩ = some (.int .u64 b)) : Calls Tryd.prog 94 #[.pointer (some ⟨g, 0, none⟩)] w fun e w' => e = .returned (.int .u64 b) ∧ w' = w := by
 go_enter Tryd.func94, Tryd.ntmps94
 go_wp2
 go_ret
 exact ⟨rfl, rfl⟩
theorem compact_Range_End.calls (g : Nat) (b : Int) (w : World) (h : w.cell? ⟨g, 2, none⟩ = some (.int .u64 b)) : Calls Tryd.prog 95 #[.pointer (some ⟨g, 0, none⟩)] w fun e w' => e = .returned (.int .u64 b) ∧ w' = w := by
 go_enter Tryd.func95, Tryd.ntmps95
 go_wp2
 go_ret
 exact ⟨rfl, rfl⟩
theorem compact_Range_Hashes.calls (g : Nat) (A : Option Addr) (n c : Nat) (w : World) (h : w.cell? ⟨g, 3, none⟩ = some (.slice A n c)) : Calls Tryd.prog 96 #[.pointer (some ⟨g, 0, none⟩)] w fun e w' => e = .returned (.slice A n c) ∧ w' = w := by
 go_enter Tryd.func96, Tryd.ntmps96
 go_wp2
 go_ret
 exact ⟨rfl, rfl⟩
set_option maxHeartbeats 16000000 in
set_option maxRecDepth 100000 in
theorem impl_fromRange.calls (k g : Nat) (pf : Value) (b e : Int) (A : Option Addr) (c : Nat) (hs x : List (List Int)) (w : World)
  (hG : w.heap[g]? = some (.cells #[pf, .int .u64 b, .int .u64 e, .slice A hs.length c] 157 (0, 0))) (hC : Kd.C (Kd.slice 5 (Kd.int .u8)) w A hs.length hs) (hc : hs.length ≤ c) (h : impl_texts.f k hs = some x) :
  Calls Tryd.prog 57 #[.pointer (some ⟨g, 0, none⟩)] w fun e' w' => ∃ v0, e' = .returned (.agg #[.int .u64 b, .int .u64 e, v0]) ∧ Kd.S (Kd.slice 5 (Kd.int .u8)) 27 w' w.heap.size (fun _ => True) v0 x ∧ Below w.heap.size w w' := by
 have hu39 := Tryd.underlying39
 have HG := Aside0.mk hG
 have HC := Aside0.mk hC
 have HCC := Aside0.mk hc
 have HX := Aside0.mk h
 clear hG hC hc h
 go_enter Tryd.func57, Tryd.ntmps57
 go_wp2_with (first
  | ((with_reducible refine gate_dst (N := 2) rfl ?_); refine box_event ?hg (N := 2) ?hd (cs := #[.int .u64 0, .int .u64 0, .slice none 0 0]) (t := 39) ?hr ?_; (case hd => rfl); (case hg => rfl); (case hr => first | (go_simp; done) | (go_simp; rfl)); intro gr hgr w2 hbox hb; have HB2 := Aside0.mk hb; have BK2 := Aside0.mk hbox; have GE2 := Aside0.mk (Nat.le_of_eq hgr.symm); have hk2 := blk_below HG.out hb; have q1 : w2.cell? ⟨g, 1, none⟩ = some (.int .u64 b) := (blk_cell hk2 1).trans rfl; have q2 : w2.cell? ⟨g, 2, none⟩ = some (.int .u64 e) := (blk_cell hk2 2).trans rfl; have q3 : w2.cell? ⟨g, 3, none⟩ = some (.slice A hs.length c) := (blk_cell hk2 3).trans rfl; clear hb hbox hk2 hgr)
  | (go_at_call 94; (with_reducible refine (compact_Range_Begin.calls g b _ q1).mono ?_); rintro e' w' ⟨rfl, rfl⟩)
  | (go_at_call 95; (with_reducible refine (compact_Range_End.calls g e _ q2).mono ?_); rintro e' w' ⟨rfl, rfl⟩)
  | (go_at_call 96; (with_reducible refine (compact_Range_Hashes.calls g A hs.length c _ q3).mono ?_); rintro e' w' ⟨rfl, rfl⟩)
  | (go_at_call 46; (with_reducible refine (impl_texts.calls k A c hs x _ ?side1 HCC.out HX.out).mono ?_); (case side1 => exact Kd.C_below HC.out HB2.out); rintro e' w3 ⟨v3, rfl, hS3, hB3⟩; obtain ⟨A3, c3, rfl⟩ := Kd.S_slice hS3; have HS3 := Aside0.mk hS3; have HB3 := Aside0.mk hB3; have BK3 := Aside0.mk (blk_below BK2.out hB3); have hbk3 := BK3.out; have fz0 := blk_frozen hbk3 0; have fz1 := blk_frozen hbk3 1; have fz2 := blk_frozen hbk3 2; have cl0 := (blk_cell hbk3 0).trans rfl; have cl1 := (blk_cell hbk3 1).trans rfl; have cl2 := (blk_cell hbk3 2).trans rfl; clear hS3 hB3 hbk3))
 have k3 := blk_put (blk_put (blk_put BK3.out 0 (.int .u64 b) rfl) 1 (.int .u64 e) rfl) 2 (.slice A3 x.length c3) rfl
 refine bodyPost_ret (results_cell_row rfl _ _ gr 39 #[.int .u64 b, .int .u64 e, .slice A3 x.length c3] (0, 0) _ rfl k3 Tryd.underlying39 rfl (by kernel_rfl)) rfl ?_
 refine ⟨_, rfl, ?_, ?_⟩
 ·have s1 := Kd.S_set HS3.out BK3.out (by decide) 0 (.int .u64 b)
  have s2 := Kd.S_set s1 (blk_put BK3.out 0 (.int .u64 b) rfl) (by decide) 1 (.int .u64 e)
  have s3 := Kd.S_set s2 (blk_put (blk_put BK3.out 0 (.int .u64 b) rfl) 1 (.int .u64 e) rfl) (by decide) 2 (.slice A3 x.length c3)
  exact Kd.S_lower s3 HB2.out.size
 ·exact (((HB2.out.trans (HB3.out.mono HB2.out.size)).setCell GE2.out _).setCell GE2.out _).setCell GE2.out _


/-! ### compact_NewNodeID: function 92 -/
def compact_NewNodeID.f (a0 : Int) (a1 : Int) : Option (Int × Int) := some (a0, a1)
set_option maxHeartbeats 8000000 in
set_option maxRecDepth 100000 in
theorem compact_NewNodeID.calls (a0 : Int) (a1 : Int) (r1 : Int) (r2 : Int) (w : World) (h : compact_NewNodeID.f a0 a1 = some (r1, r2)) :
  Calls Tryd.prog 92 #[.int .u64 a0, .int .u64 a1] w fun e w' => e = .returned (.agg #[.int .u64 r1, .int .u64 r2]) ∧ Below w.heap.size w w' := by
 have hu106 := Tryd.underlying106
 have HB := Aside0.mk (Below.refl w.heap.size w)
 have H : (some (a0, a1)) = some (r1, r2) := h
 clear h
 simp only [Option.some.injEq, Prod.mk.injEq] at H
 obtain ⟨rfl, rfl⟩ := H
 go_enter Tryd.func92, Tryd.ntmps92
 go_wp2_with (first | ((with_reducible refine gate_dst (N := 4) rfl ?_); refine box_event ?hg (N := 4) ?hd (cs := #[.int .u64 0, .int .u64 0]) (t := 106) ?hr ?_; (case hd => rfl); (case hg => rfl); (case hr => first | (go_simp; done) | (go_simp; rfl)); intro gb125 hg w3 hbox hb; have n0_ := Aside0.mk (below_step bB hb); have n1_ := Aside0.mk (hbox); have n2_ := Aside0.mk ((by rw [hg]; exact (below_size bB) : w.heap.size ≤ gb125)); have n3_ := Aside0.mk ((by rw [hg]; exact (below_size bB) : w.heap.size ≤ gb125)); clear HB; have HB := n0_; have BK125 := n1_; have GW125 := n2_; have GE125 := n3_; clear n0_ n1_ n2_ n3_; clear hb hbox hg; have hcz4_0 : w3.cell? ⟨gb125, 0, none⟩ = some (.int .u64 0) := (blk_cell BK125.out 0).trans rfl; have hcz4_1 : w3.cell? ⟨gb125, 1, none⟩ = some (.int .u64 0) := (blk_cell BK125.out 1).trans rfl; have hfz4_0 := blk_frozen BK125.out 0; have hfz4_1 := blk_frozen BK125.out 1))
 refine bodyPost_ret (results_cell_row rfl _ _ gb125 106 #[.int .u64 a0, .int .u64 a1] (0, 0) _ rfl (by (with_reducible repeat (first | refine blk_drewN ?_ _ | refine blk_drew ?_ | refine blk_alloc ?_ _)); refine blk_put (cs := #[.int .u64 a0, .int .u64 0]) ?_ 1 _ rfl; (with_reducible repeat (first | refine blk_drewN ?_ _ | refine blk_drew ?_ | refine blk_alloc ?_ _)); refine blk_put (cs := #[.int .u64 0, .int .u64 0]) ?_ 0 _ rfl; (with_reducible repeat (first | refine blk_drewN ?_ _ | refine blk_drew ?_ | refine blk_alloc ?_ _)); exact BK125.out) Tryd.underlying106 rfl (by kernel_rfl)) rfl ?_
 exact ⟨by first | rfl | (simp [errW_none, errW_some] <;> rfl) | (simp [*, errW_none, errW_some] <;> rfl), bB⟩

end Go.Proofs.YtkmdkmlgahfcpaaDoor.M

