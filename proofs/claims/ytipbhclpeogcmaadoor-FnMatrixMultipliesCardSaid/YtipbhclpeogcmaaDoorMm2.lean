-- Written by a program of ours (wip/xp) out of the translation; Lean checks it.
import Derived.Test.YtipbhclpeogcmaaDoorMm1
namespace Go.Proofs.YtipbhclpeogcmaaDoor.M
open Go.RowKit Go.Proofs.YtipbhclpeogcmaaDoorW.PrintWords Go.Proofs.YtipbhclpeogcmaaDoorW.PrintLast Go.Proofs.YtipbhclpeogcmaaDoorW.PrintMore
attribute [local go_sem] max2_int min2_int max_two min_two max_three min_three max_four min_four   -- for this text's walks alone
set_option linter.unusedVariables false
set_option linter.unusedSimpArgs false

/-! ### reedsolomon_matrix_Multiply: function 51 -/
mutual
def reedsolomon_matrix_Multiply.l0 : Nat → List (List Int) → List (List Int) → List (List Int) → Int → Int → Option ((List (List Int)) × Option Int)
  | 0, _, _, _, _, _ => none
  | k + 1, x0, x1, x6, x32, x33 => if x33 < x32 then (if 0 ≤ x33 then (if x33 < (x6.length : Int) then (reedsolomon_matrix_Multiply.l1 k x0 x1 x6 x33 x32 x33 ((rd_L1 x6 x33).length : Int) 0) else (none)) else (none)) else (some (x6, none))
def reedsolomon_matrix_Multiply.l1 : Nat → List (List Int) → List (List Int) → List (List Int) → Int → Int → Int → Int → Int → Option ((List (List Int)) × Option Int)
  | 0, _, _, _, _, _, _, _, _ => none
  | k + 1, x0, x1, x6, x8, x32, x33, x39, x40 => if x40 < x39 then (if 0 < (x0.length : Int) then (reedsolomon_matrix_Multiply.l2 k x0 x1 x6 x8 x40 0 x32 x33 x39 x40 ((rd_L1 x0 0).length : Int) 0) else (none)) else (reedsolomon_matrix_Multiply.l0 k x0 x1 x6 x32 (wrap64 (x33 + 1)))
def reedsolomon_matrix_Multiply.l2 : Nat → List (List Int) → List (List Int) → List (List Int) → Int → Int → Int → Int → Int → Int → Int → Int → Int → Option ((List (List Int)) × Option Int)
  | 0, _, _, _, _, _, _, _, _, _, _, _, _ => none
  | k + 1, x0, x1, x6, x8, x10, x11, x32, x33, x39, x40, x46, x47 => if x47 < x46 then (if 0 ≤ x8 then (if x8 < (x0.length : Int) then (if 0 ≤ x47 then (if x47 < ((rd_L1 x0 x8).length : Int) then (if x47 < (x1.length : Int) then (if 0 ≤ x10 then (if x10 < ((rd_L1 x1 x47).length : Int) then ((reedsolomon_galMultiply.f (rd (rd_L1 x0 x8) x47) (rd (rd_L1 x1 x47) x10)).bind fun t185 => (reedsolomon_matrix_Multiply.l2 k x0 x1 x6 x8 x10 (Go.bits .xor .u8 x11 t185) x32 x33 x39 x40 x46 (wrap64 (x47 + 1)))) else (none)) else (none)) else (none)) else (none)) else (none)) else (none)) else (none)) else (if 0 ≤ x8 then (if x8 < (x6.length : Int) then (if 0 ≤ x10 then (if x10 < ((rd_L1 x6 x8).length : Int) then (reedsolomon_matrix_Multiply.l1 k x0 x1 (x6.set (x8 : Int).toNat ((rd_L1 x6 x8).set (x10 : Int).toNat x11)) x8 x32 x33 x39 (wrap64 (x40 + 1))) else (none)) else (none)) else (none)) else (none))
end
def reedsolomon_matrix_Multiply.f (k : Nat) (l0 : List (List Int)) (l1 : List (List Int)) : Option ((List (List Int)) × Option Int) := if 0 < (l0.length : Int) then (if ((rd_L1 l0 0).length : Int) = (l1.length : Int) then (if 0 < (l1.length : Int) then ((reedsolomon_newMatrix.f k (l0.length : Int) ((rd_L1 l1 0).length : Int)).bind fun bt175 => (reedsolomon_matrix_Multiply.l0 k l0 l1 bt175.1 (bt175.1.length : Int) 0)) else (none)) else ((errors_New.f (⟨#[99, 111, 108, 117, 109, 110, 115, 32, 111, 110, 32, 108, 101, 102, 116, 32, 32, 105, 115, 32, 100, 105, 102, 102, 101, 114, 101, 110, 116, 32, 116, 104, 97, 110, 32, 114, 111, 119, 115, 32, 111, 110, 32, 114, 105, 103, 104, 116, 32]⟩ : ByteArray)).bind fun t173 => (some (([] : List (List Int)), t173)))) else (none)
theorem reedsolomon_matrix_Multiply.mono_l : ∀ k, (∀ y0 y1 y2 y3 y4, LeO (reedsolomon_matrix_Multiply.l0 k y0 y1 y2 y3 y4) (reedsolomon_matrix_Multiply.l0 (k + 1) y0 y1 y2 y3 y4)) ∧ (∀ y0 y1 y2 y3 y4 y5 y6 y7, LeO (reedsolomon_matrix_Multiply.l1 k y0 y1 y2 y3 y4 y5 y6 y7) (reedsolomon_matrix_Multiply.l1 (k + 1) y0 y1 y2 y3 y4 y5 y6 y7)) ∧ (∀ y0 y1 y2 y3 y4 y5 y6 y7 y8 y9 y10 y11, LeO (reedsolomon_matrix_Multiply.l2 k y0 y1 y2 y3 y4 y5 y6 y7 y8 y9 y10 y11) (reedsolomon_matrix_Multiply.l2 (k + 1) y0 y1 y2 y3 y4 y5 y6 y7 y8 y9 y10 y11))
  | 0 => ⟨fun _ _ _ _ _ r h => by simp [reedsolomon_matrix_Multiply.l0] at h, fun _ _ _ _ _ _ _ _ r h => by simp [reedsolomon_matrix_Multiply.l1] at h, fun _ _ _ _ _ _ _ _ _ _ _ _ r h => by simp [reedsolomon_matrix_Multiply.l2] at h⟩
  | k + 1 => by
    obtain ⟨ih0, ih1, ih2⟩ := reedsolomon_matrix_Multiply.mono_l k
    refine ⟨?_, ?_, ?_⟩
    · intro y0 y1 y2 y3 y4
      unfold reedsolomon_matrix_Multiply.l0
      repeat' first
      | (with_reducible exact ih0 _ _ _ _ _)
      | (with_reducible exact ih1 _ _ _ _ _ _ _ _)
      | (with_reducible exact ih2 _ _ _ _ _ _ _ _ _ _ _ _)
      | (with_reducible exact reedsolomon_newMatrix.mono _ _ _)
      | (with_reducible exact LeO.refl _)
      | (with_reducible exact LeO.none _)
      | (with_reducible refine LeO.ite ?_ ?_)
      | (with_reducible refine LeO.bind ?_ (fun _ => ?_))
      | exact ih0 _ _ _ _ _
      | exact ih1 _ _ _ _ _ _ _ _
      | exact ih2 _ _ _ _ _ _ _ _ _ _ _ _
      | exact reedsolomon_newMatrix.mono _ _ _
      | exact LeO.none _
      | refine LeO.ite ?_ ?_
      | refine LeO.bind ?_ (fun _ => ?_)
    · intro y0 y1 y2 y3 y4 y5 y6 y7
      unfold reedsolomon_matrix_Multiply.l1
      repeat' first
      | (with_reducible exact ih0 _ _ _ _ _)
      | (with_reducible exact ih1 _ _ _ _ _ _ _ _)
      | (with_reducible exact ih2 _ _ _ _ _ _ _ _ _ _ _ _)
      | (with_reducible exact reedsolomon_newMatrix.mono _ _ _)
      | (with_reducible exact LeO.refl _)
      | (with_reducible exact LeO.none _)
      | (with_reducible refine LeO.ite ?_ ?_)
      | (with_reducible refine LeO.bind ?_ (fun _ => ?_))
      | exact ih0 _ _ _ _ _
      | exact ih1 _ _ _ _ _ _ _ _
      | exact ih2 _ _ _ _ _ _ _ _ _ _ _ _
      | exact reedsolomon_newMatrix.mono _ _ _
      | exact LeO.none _
      | refine LeO.ite ?_ ?_
      | refine LeO.bind ?_ (fun _ => ?_)
    · intro y0 y1 y2 y3 y4 y5 y6 y7 y8 y9 y10 y11
      unfold reedsolomon_matrix_Multiply.l2
      repeat' first
      | (with_reducible exact ih0 _ _ _ _ _)
      | (with_reducible exact ih1 _ _ _ _ _ _ _ _)
      | (with_reducible exact ih2 _ _ _ _ _ _ _ _ _ _ _ _)
      | (with_reducible exact reedsolomon_newMatrix.mono _ _ _)
      | (with_reducible exact LeO.refl _)
      | (with_reducible exact LeO.none _)
      | (with_reducible refine LeO.ite ?_ ?_)
      | (with_reducible refine LeO.bind ?_ (fun _ => ?_))
      | exact ih0 _ _ _ _ _
      | exact ih1 _ _ _ _ _ _ _ _
      | exact ih2 _ _ _ _ _ _ _ _ _ _ _ _
      | exact reedsolomon_newMatrix.mono _ _ _
      | exact LeO.none _
      | refine LeO.ite ?_ ?_
      | refine LeO.bind ?_ (fun _ => ?_)
theorem reedsolomon_matrix_Multiply.mono : ∀ a0 a1 k, LeO (reedsolomon_matrix_Multiply.f k a0 a1) (reedsolomon_matrix_Multiply.f (k + 1) a0 a1) := by
  intro a0 a1 k
  obtain ⟨ih0, ih1, ih2⟩ := reedsolomon_matrix_Multiply.mono_l k
  unfold reedsolomon_matrix_Multiply.f
  repeat' first
      | (with_reducible exact ih0 _ _ _ _ _)
      | (with_reducible exact ih1 _ _ _ _ _ _ _ _)
      | (with_reducible exact ih2 _ _ _ _ _ _ _ _ _ _ _ _)
      | (with_reducible exact reedsolomon_newMatrix.mono _ _ _)
      | (with_reducible exact LeO.refl _)
      | (with_reducible exact LeO.none _)
      | (with_reducible refine LeO.ite ?_ ?_)
      | (with_reducible refine LeO.bind ?_ (fun _ => ?_))
      | exact ih0 _ _ _ _ _
      | exact ih1 _ _ _ _ _ _ _ _
      | exact ih2 _ _ _ _ _ _ _ _ _ _ _ _
      | exact reedsolomon_newMatrix.mono _ _ _
      | exact LeO.none _
      | refine LeO.ite ?_ ?_
      | refine LeO.bind ?_ (fun _ => ?_)
set_option maxHeartbeats 8000000 in
set_option maxRecDepth 100000 in
theorem reedsolomon_matrix_Multiply.calls (k : Nat) (A0 : Option Addr) (c0 : Nat) (l0 : List (List Int)) (A1 : Option Addr) (c1 : Nat) (l1 : List (List Int)) (r1 : List (List Int)) (r2 : Option Int) (w : World) (hT : TabOK w) (hr0 : Kd.C (Kd.slice 5 (Kd.int .u8)) w A0 l0.length l0) (hc0 : l0.length ≤ c0) (hr1 : Kd.C (Kd.slice 5 (Kd.int .u8)) w A1 l1.length l1) (hc1 : l1.length ≤ c1) (h : reedsolomon_matrix_Multiply.f k l0 l1 = some (r1, r2)) :
    Calls Tryd.prog 51 #[.slice A0 l0.length c0, .slice A1 l1.length c1] w fun e w' => ∃ (T_ : Int → TypeId) (X_ : Int → Value), ∃ v0_ : Value, e = .returned (.tuple #[v0_, errW T_ X_ r2]) ∧ Kd.S (Kd.slice 5 (Kd.int .u8)) 22 w' w.heap.size (fun _ => True) v0_ r1 ∧ Below w.heap.size w w' := by
  have HT := Aside0.mk hT
  clear hT
  have HR0 := Aside0.mk hr0
  have HC0 := Aside0.mk hc0
  clear hr0 hc0
  have HR1 := Aside0.mk hr1
  have HC1 := Aside0.mk hc1
  clear hr1 hc1
  have HB := Aside0.mk (Below.refl w.heap.size w)
  have H : (if 0 < (l0.length : Int) then (if ((rd_L1 l0 0).length : Int) = (l1.length : Int) then (if 0 < (l1.length : Int) then ((reedsolomon_newMatrix.f k (l0.length : Int) ((rd_L1 l1 0).length : Int)).bind fun bt175 => (reedsolomon_matrix_Multiply.l0 k l0 l1 bt175.1 (bt175.1.length : Int) 0)) else (none)) else ((errors_New.f (⟨#[99, 111, 108, 117, 109, 110, 115, 32, 111, 110, 32, 108, 101, 102, 116, 32, 32, 105, 115, 32, 100, 105, 102, 102, 101, 114, 101, 110, 116, 32, 116, 104, 97, 110, 32, 114, 111, 119, 115, 32, 111, 110, 32, 114, 105, 103, 104, 116, 32]⟩ : ByteArray)).bind fun t173 => (some (([] : List (List Int)), t173)))) else (none)) = some (r1, r2) := h
  clear h
  by_cases c3 : 0 < (l0.length : Int)
  · rw [if_pos c3] at H
    have c3b0 : decide (0 < (l0.length : Int)) = true := decide_eq_true c3
    have c3b1 : decide (0 < l0.length) = true := decide_eq_true (by omega)
    clear c3
    by_cases c4 : ((rd_L1 l0 0).length : Int) = (l1.length : Int)
    · rw [if_pos c4] at H
      have c4b0 : (((rd_L1 l0 0).length : Int) == (l1.length : Int)) = true := beq_iff_eq.mpr c4
      have c4b1 : (((rd_L1 l0 0).length : Int) != (l1.length : Int)) = false := bne_eq_false_iff_eq.mpr c4
      have c4b2 : ((rd_L1 l0 0).length == l1.length) = true := by first | simpa using c4 | (simp at c4 ⊢; omega)
      clear c4
      by_cases c5 : 0 < (l1.length : Int)
      · rw [if_pos c5] at H
        have c5b0 : decide (0 < (l1.length : Int)) = true := decide_eq_true c5
        have c5b1 : decide (0 < l1.length) = true := decide_eq_true (by omega)
        clear c5
        replace H := Option.bind_eq_some_iff.mp H
        obtain ⟨⟨t175, t176⟩, A60, H⟩ := H
        replace H : (reedsolomon_matrix_Multiply.l0 k l0 l1 t175 (t175.length : Int) 0) = some (r1, r2) := H
        have A6 := Aside0.mk A60
        clear A60
        have H' := Aside0.mk H
        clear H
        have p172 : 0 ≤ (0 : Int) := (by omega)
        have q172 : 0 < (l0.length : Int) := of_decide_eq_true (by first | (with_reducible assumption) | assumption)
        obtain ⟨ad172, A172_0, c172_0, e172, hx172_0, hl172_0, hi172_0⟩ := at_L1 HR0.out 0 p172 q172
        cases e172
        have qi172 : (0 < l0.length) = True := eq_true (by omega)
        (try rw [show ((0 : Int)).toNat = 0 from rfl] at hx172_0)
        (try rw [Addr.add_zero'] at hx172_0)
        have HR172_0 := Aside0.mk hi172_0
        have HC172_0 := Aside0.mk hl172_0
        clear hi172_0 hl172_0
        replace p172 := eq_true p172
        replace q172 := eq_true q172
        have p174 : 0 ≤ (0 : Int) := (by omega)
        have q174 : 0 < (l1.length : Int) := of_decide_eq_true (by first | (with_reducible assumption) | assumption)
        obtain ⟨ad174, A174_0, c174_0, e174, hx174_0, hl174_0, hi174_0⟩ := at_L1 HR1.out 0 p174 q174
        cases e174
        have qi174 : (0 < l1.length) = True := eq_true (by omega)
        (try rw [show ((0 : Int)).toNat = 0 from rfl] at hx174_0)
        (try rw [Addr.add_zero'] at hx174_0)
        have HR174_0 := Aside0.mk hi174_0
        have HC174_0 := Aside0.mk hl174_0
        clear hi174_0 hl174_0
        replace p174 := eq_true p174
        replace q174 := eq_true q174
        go_enter Tryd.func51, Tryd.ntmps51
        go_wp2_with (first | (go_at_call 57; (with_reducible refine (reedsolomon_newMatrix.calls k (l0.length : Int) ((rd_L1 l1 0).length : Int) t175 t176 _ ?side1 A6.out).mono ?_); (case side1 => exact TabOK.below HT.out (by repeat (first | (with_reducible first | exact HB.out | apply below_alloc | apply pw_below_drewN | apply below_drew1) | exact HB.out))); rintro e w7 ⟨Tt176, Xt176, v177, rfl, ho0, hb⟩; have n0_ := Aside0.mk (Kd.S_lower ho0 (below_size (by repeat (first | (with_reducible first | exact HB.out | apply below_alloc | apply pw_below_drewN | apply below_drew1) | exact HB.out)))); have n1_ := Aside0.mk (below_step (by repeat (first | (with_reducible first | exact HB.out | apply below_alloc | apply pw_below_drewN | apply below_drew1) | exact HB.out)) hb); clear HB; have HO178 := n0_; have HB := n1_; clear n0_ n1_; (try clear hb); (try clear hb2); (try clear hk); (try clear hi); (try clear ho0); (try simp only [errW_none, errW_some]); obtain ⟨Ao8, co8, eo8⟩ := Kd.S_slice HO178.out; subst eo8))
        repeat (go_quiet (first | (go_at_call 57; (with_reducible refine (reedsolomon_newMatrix.calls k (l0.length : Int) ((rd_L1 l1 0).length : Int) t175 t176 _ ?side1 A6.out).mono ?_); (case side1 => exact TabOK.below HT.out (by repeat (first | (with_reducible first | exact HB.out | apply below_alloc | apply pw_below_drewN | apply below_drew1) | exact HB.out))); rintro e w7 ⟨Tt176, Xt176, v177, rfl, ho0, hb⟩; have n0_ := Aside0.mk (Kd.S_lower ho0 (below_size (by repeat (first | (with_reducible first | exact HB.out | apply below_alloc | apply pw_below_drewN | apply below_drew1) | exact HB.out)))); have n1_ := Aside0.mk (below_step (by repeat (first | (with_reducible first | exact HB.out | apply below_alloc | apply pw_below_drewN | apply below_drew1) | exact HB.out)) hb); clear HB; have HO178 := n0_; have HB := n1_; clear n0_ n1_; (try clear hb); (try clear hb2); (try clear hk); (try clear hi); (try clear ho0); (try simp only [errW_none, errW_some]); obtain ⟨Ao8, co8, eo8⟩ := Kd.S_slice HO178.out; subst eo8)); try go_wp2_with (first | (go_at_call 57; (with_reducible refine (reedsolomon_newMatrix.calls k (l0.length : Int) ((rd_L1 l1 0).length : Int) t175 t176 _ ?side1 A6.out).mono ?_); (case side1 => exact TabOK.below HT.out (by repeat (first | (with_reducible first | exact HB.out | apply below_alloc | apply pw_below_drewN | apply below_drew1) | exact HB.out))); rintro e w7 ⟨Tt176, Xt176, v177, rfl, ho0, hb⟩; have n0_ := Aside0.mk (Kd.S_lower ho0 (below_size (by repeat (first | (with_reducible first | exact HB.out | apply below_alloc | apply pw_below_drewN | apply below_drew1) | exact HB.out)))); have n1_ := Aside0.mk (below_step (by repeat (first | (with_reducible first | exact HB.out | apply below_alloc | apply pw_below_drewN | apply below_drew1) | exact HB.out)) hb); clear HB; have HO178 := n0_; have HB := n1_; clear n0_ n1_; (try clear hb); (try clear hb2); (try clear hk); (try clear hi); (try clear ho0); (try simp only [errW_none, errW_some]); obtain ⟨Ao8, co8, eo8⟩ := Kd.S_slice HO178.out; subst eo8)))
        go_loopg [33] k (fun kq v33 w' => ∃ (x6_1 : List (List Int)) (x33_1 : Int), v33 = .int .i64 x33_1 ∧ Aside0 (reedsolomon_matrix_Multiply.l0 kq l0 l1 x6_1 (t175.length : Int) x33_1 = some (r1, r2)) ∧ Aside0 (kq ≤ k) ∧ Aside0 (Kd.S (Kd.slice 5 (Kd.int .u8)) 22 w' w.heap.size (fun _ => True) (.slice Ao8 t175.length co8) x6_1) ∧ Aside0 (Below w.heap.size w w'))
        case atStart => exact ⟨(t175), (0), (by first | rfl | (simp; done) | (simp [*]; done)), H', ⟨Nat.le_refl _⟩, ⟨by (with_reducible repeat (first | apply Kd.S_alloc | apply Kd.S_drewN | apply Kd.S_drew)); exact HO178.out⟩, ⟨by repeat (first | (with_reducible first | exact HB.out | apply below_alloc | apply pw_below_drewN | apply below_drew1) | exact HB.out)⟩⟩
        case round =>
          clear H'
          try clear c1
          try clear p1
          try clear q1
          try clear hx1
          try clear qi1
          try clear p2
          try clear c3
          try clear c3b0
          try clear c3b1
          try clear c4
          try clear c4b0
          try clear c4b1
          try clear c4b2
          try clear c5
          try clear c5b0
          try clear c5b1
          try clear hx172_0
          try clear hx174_0
          try clear p172
          try clear p174
          try clear q172
          try clear q174
          obtain ⟨x6_1, x33_1, rfl, HA, HK1, HO_6, HB⟩ := hrel
          have hl6_1 := (Kd.S_reads' HO_6.out).1
          rw [hl6_1] at HO_6
          (try simp only [hl6_1])
          cases gk with
          | zero => exact absurd HA.out (by simp [reedsolomon_matrix_Multiply.l0])
          | succ k1 =>
            have H := HA.out
            clear HA
            simp only [reedsolomon_matrix_Multiply.l0] at H
            by_cases c9 : x33_1 < (t175.length : Int)
            · rw [if_pos c9] at H
              have c9b0 : decide (x33_1 < (t175.length : Int)) = true := decide_eq_true c9
              (try (have c9b0hl6_1 := c9b0; rw [hl6_1] at c9b0hl6_1))
              clear c9
              by_cases c10 : 0 ≤ x33_1
              · rw [if_pos c10] at H
                have c10b0 : decide (0 ≤ x33_1) = true := decide_eq_true c10
                clear c10
                by_cases c11 : x33_1 < (x6_1.length : Int)
                · rw [if_pos c11] at H
                  have c11b0 : decide (x33_1 < (x6_1.length : Int)) = true := decide_eq_true c11
                  (try (have c11b0hl6_1 := c11b0; rw [hl6_1] at c11b0hl6_1))
                  clear c11
                  have H' := Aside0.mk H
                  clear H
                  have p179 : 0 ≤ (x33_1 : Int) := of_decide_eq_true (by first | (with_reducible assumption) | assumption)
                  have q179 : x33_1 < (x6_1.length : Int) := of_decide_eq_true (by first | (with_reducible assumption) | assumption)
                  obtain ⟨ad179, A179_0, c179_0, e179, hx179_0, hl179_0, hi179_0⟩ := at_L1 (Kd.S_reads' HO_6.out).2.2 x33_1 p179 q179
                  cases e179
                  obtain ⟨ce179, hce179, hMe179, hcc179⟩ := Kd.S_get HO_6.out [] x33_1 p179 (by first | exact q179 | exact of_decide_eq_true (by first | (with_reducible assumption) | assumption) | (have e_ := (Kd.S_reads' HO_6.out).1; omega))
                  obtain ⟨ve179_0, rfl, ge179_0⟩ := hMe179
                  have hv179_0 := hcc179 0 _ rfl
                  rw [Nat.add_zero, show ((Kd.slice 5 (Kd.int .u8))).sz = 1 from rfl, Nat.mul_one] at hv179_0
                  replace hv179_0 := Option.some.inj (hv179_0.symm.trans hx179_0)
                  rw [hv179_0] at ge179_0
                  have HL179_0 := Aside0.mk (show Kd.R (Kd.int .u8) 5 _ _ _ _ (rd_L1 x6_1 x33_1) from ge179_0)
                  clear hv179_0 ge179_0
                  have HX179_0 := Aside0.mk hx179_0
                  clear hcc179 hce179
                  have HR179_0 := Aside0.mk hi179_0
                  have HC179_0 := Aside0.mk hl179_0
                  clear hi179_0 hl179_0
                  replace p179 := eq_true p179
                  replace q179 := eq_true q179
                  go_wp2
                  repeat (go_quiet (fail); try go_wp2)
                  go_loopg [40] k1 (fun kq v40 w' => ∃ (x6_2 : List (List Int)) (x40_2 : Int), v40 = .int .i64 x40_2 ∧ Aside0 (reedsolomon_matrix_Multiply.l1 kq l0 l1 x6_2 x33_1 (t175.length : Int) x33_1 ((rd_L1 x6_1 x33_1).length : Int) x40_2 = some (r1, r2)) ∧ Aside0 (kq ≤ k1) ∧ Aside0 (Kd.S (Kd.slice 5 (Kd.int .u8)) 22 w' w.heap.size (fun _ => True) (.slice (some ad179) x6_1.length co8) x6_2) ∧ Aside0 (Below w.heap.size w w'))
                  case atStart => exact ⟨(x6_1), (0), (by first | rfl | (simp; done) | (simp [*]; done)), H', ⟨Nat.le_refl _⟩, ⟨by (try simp only [hl6_1]); (with_reducible repeat (first | apply Kd.S_alloc | apply Kd.S_drewN | apply Kd.S_drew)); exact HO_6.out⟩, ⟨by repeat (first | (with_reducible first | exact HB.out | apply below_alloc | apply pw_below_drewN | apply below_drew1) | exact HB.out)⟩⟩
                  case round =>
                    clear H'
                    try clear c1
                    try clear p1
                    try clear q1
                    try clear hx1
                    try clear qi1
                    try clear p2
                    try clear c3
                    try clear c3b0
                    try clear c3b1
                    try clear c4
                    try clear c4b0
                    try clear c4b1
                    try clear c4b2
                    try clear c5
                    try clear c5b0
                    try clear c5b1
                    try clear c9
                    try clear c9b0
                    try clear c10
                    try clear c10b0
                    try clear c11
                    try clear c11b0
                    try clear hx172_0
                    try clear hx174_0
                    try clear hx179_0
                    try clear p1
                    try clear p172
                    try clear p174
                    try clear p179
                    try clear p2
                    try clear q1
                    try clear q172
                    try clear q174
                    try clear q179
                    obtain ⟨x6_2, x40_2, rfl, HA, HK2, HO_6, HB⟩ := hrel
                    have hl6_2 := (Kd.S_reads' HO_6.out).1
                    rw [hl6_2] at HO_6
                    (try simp only [hl6_2])
                    cases gk with
                    | zero => exact absurd HA.out (by simp [reedsolomon_matrix_Multiply.l1])
                    | succ k2 =>
                      have H := HA.out
                      clear HA
                      simp only [reedsolomon_matrix_Multiply.l1] at H
                      by_cases c12 : x40_2 < ((rd_L1 x6_1 x33_1).length : Int)
                      · rw [if_pos c12] at H
                        have c12b0 : decide (x40_2 < ((rd_L1 x6_1 x33_1).length : Int)) = true := decide_eq_true c12
                        (try (have c12b0hl6_1 := c12b0; rw [hl6_1] at c12b0hl6_1))
                        (try (have c12b0hl6_2 := c12b0; rw [hl6_2] at c12b0hl6_2))
                        clear c12
                        by_cases c13 : 0 < (l0.length : Int)
                        · rw [if_pos c13] at H
                          have c13b0 : decide (0 < (l0.length : Int)) = true := decide_eq_true c13
                          have c13b1 : decide (0 < l0.length) = true := decide_eq_true (by omega)
                          (try (have c13b0hl6_1 := c13b0; rw [hl6_1] at c13b0hl6_1))
                          (try (have c13b0hl6_2 := c13b0; rw [hl6_2] at c13b0hl6_2))
                          clear c13
                          have H' := Aside0.mk H
                          clear H
                          have p180 : 0 ≤ (0 : Int) := (by omega)
                          have q180 : 0 < (l0.length : Int) := of_decide_eq_true (by first | (with_reducible assumption) | assumption)
                          obtain ⟨ad180, A180_0, c180_0, e180, hx180_0, hl180_0, hi180_0⟩ := at_L1 HR0.out 0 p180 q180
                          obtain rfl : ad172 = ad180 := (by injection e180)
                          have qi180 : (0 < l0.length) = True := eq_true (by omega)
                          (try rw [show ((0 : Int)).toNat = 0 from rfl] at hx180_0)
                          (try rw [Addr.add_zero'] at hx180_0)
                          replace hx180_0 := (HB.out.cell (World.block_lt_of_cell? w _ hx180_0)).trans hx180_0
                          have HR180_0 := Aside0.mk hi180_0
                          have HC180_0 := Aside0.mk hl180_0
                          clear hi180_0 hl180_0
                          replace p180 := eq_true p180
                          replace q180 := eq_true q180
                          go_wp2
                          repeat (go_quiet (fail); try go_wp2)
                          go_loopg [11, 47] k2 (fun kq v11 v47 w' => ∃ (x11_3 : Int) (x47_3 : Int), v11 = .int .u8 x11_3 ∧ v47 = .int .i64 x47_3 ∧ Aside0 (reedsolomon_matrix_Multiply.l2 kq l0 l1 x6_2 x33_1 x40_2 x11_3 (t175.length : Int) x33_1 ((rd_L1 x6_1 x33_1).length : Int) x40_2 ((rd_L1 l0 0).length : Int) x47_3 = some (r1, r2)) ∧ Aside0 (kq ≤ k2) ∧ Aside0 (Kd.S (Kd.slice 5 (Kd.int .u8)) 22 w' w.heap.size (fun _ => True) (.slice (some ad179) x6_2.length co8) x6_2) ∧ Aside0 (Below w.heap.size w w'))
                          case atStart => exact ⟨(0), (0), (by first | rfl | (simp; done) | (simp [*]; done)), (by first | rfl | (simp; done) | (simp [*]; done)), H', ⟨Nat.le_refl _⟩, ⟨by (try simp only [hl6_1]); (try simp only [hl6_2]); (with_reducible repeat (first | apply Kd.S_alloc | apply Kd.S_drewN | apply Kd.S_drew)); exact HO_6.out⟩, ⟨by repeat (first | (with_reducible first | exact HB.out | apply below_alloc | apply pw_below_drewN | apply below_drew1) | exact HB.out)⟩⟩
                          case round =>
                            clear H'
                            try clear c1
                            try clear p1
                            try clear q1
                            try clear hx1
                            try clear qi1
                            try clear p2
                            try clear c3
                            try clear c3b0
                            try clear c3b1
                            try clear c4
                            try clear c4b0
                            try clear c4b1
                            try clear c4b2
                            try clear c5
                            try clear c5b0
                            try clear c5b1
                            try clear c9
                            try clear c9b0
                            try clear c10
                            try clear c10b0
                            try clear c11
                            try clear c11b0
                            try clear c12
                            try clear c12b0
                            try clear c13
                            try clear c13b0
                            try clear c13b1
                            try clear hx172_0
                            try clear hx174_0
                            try clear hx179_0
                            try clear hx180_0
                            try clear p1
                            try clear p172
                            try clear p174
                            try clear p179
                            try clear p180
                            try clear p2
                            try clear q1
                            try clear q172
                            try clear q174
                            try clear q179
                            try clear q180
                            obtain ⟨x11_3, x47_3, rfl, rfl, HA, HK3, HO_6, HB⟩ := hrel
                            cases gk with
                            | zero => exact absurd HA.out (by simp [reedsolomon_matrix_Multiply.l2])
                            | succ k3 =>
                              have H := HA.out
                              clear HA
                              simp only [reedsolomon_matrix_Multiply.l2] at H
                              by_cases c14 : x47_3 < ((rd_L1 l0 0).length : Int)
                              · rw [if_pos c14] at H
                                have c14b0 : decide (x47_3 < ((rd_L1 l0 0).length : Int)) = true := decide_eq_true c14
                                (try (have c14b0hl6_1 := c14b0; rw [hl6_1] at c14b0hl6_1))
                                (try (have c14b0hl6_2 := c14b0; rw [hl6_2] at c14b0hl6_2))
                                clear c14
                                by_cases c15 : 0 ≤ x33_1
                                · rw [if_pos c15] at H
                                  have c15b0 : decide (0 ≤ x33_1) = true := decide_eq_true c15
                                  clear c15
                                  by_cases c16 : x33_1 < (l0.length : Int)
                                  · rw [if_pos c16] at H
                                    have c16b0 : decide (x33_1 < (l0.length : Int)) = true := decide_eq_true c16
                                    (try (have c16b0hl6_1 := c16b0; rw [hl6_1] at c16b0hl6_1))
                                    (try (have c16b0hl6_2 := c16b0; rw [hl6_2] at c16b0hl6_2))
                                    clear c16
                                    by_cases c17 : 0 ≤ x47_3
                                    · rw [if_pos c17] at H
                                      have c17b0 : decide (0 ≤ x47_3) = true := decide_eq_true c17
                                      clear c17
                                      by_cases c18 : x47_3 < ((rd_L1 l0 x33_1).length : Int)
                                      · rw [if_pos c18] at H
                                        have c18b0 : decide (x47_3 < ((rd_L1 l0 x33_1).length : Int)) = true := decide_eq_true c18
                                        (try (have c18b0hl6_1 := c18b0; rw [hl6_1] at c18b0hl6_1))
                                        (try (have c18b0hl6_2 := c18b0; rw [hl6_2] at c18b0hl6_2))
                                        clear c18
                                        by_cases c19 : x47_3 < (l1.length : Int)
                                        · rw [if_pos c19] at H
                                          have c19b0 : decide (x47_3 < (l1.length : Int)) = true := decide_eq_true c19
                                          (try (have c19b0hl6_1 := c19b0; rw [hl6_1] at c19b0hl6_1))
                                          (try (have c19b0hl6_2 := c19b0; rw [hl6_2] at c19b0hl6_2))
                                          clear c19
                                          by_cases c20 : 0 ≤ x40_2
                                          · rw [if_pos c20] at H
                                            have c20b0 : decide (0 ≤ x40_2) = true := decide_eq_true c20
                                            clear c20
                                            by_cases c21 : x40_2 < ((rd_L1 l1 x47_3).length : Int)
                                            · rw [if_pos c21] at H
                                              have c21b0 : decide (x40_2 < ((rd_L1 l1 x47_3).length : Int)) = true := decide_eq_true c21
                                              (try (have c21b0hl6_1 := c21b0; rw [hl6_1] at c21b0hl6_1))
                                              (try (have c21b0hl6_2 := c21b0; rw [hl6_2] at c21b0hl6_2))
                                              clear c21
                                              replace H := Option.bind_eq_some_iff.mp H
                                              obtain ⟨t185, A220, H⟩ := H
                                              replace H : (reedsolomon_matrix_Multiply.l2 k3 l0 l1 x6_2 x33_1 x40_2 (Go.bits .xor .u8 x11_3 t185) (t175.length : Int) x33_1 ((rd_L1 x6_1 x33_1).length : Int) x40_2 ((rd_L1 l0 0).length : Int) (wrap64 (x47_3 + 1))) = some (r1, r2) := H
                                              have A22 := Aside0.mk A220
                                              clear A220
                                              have H' := Aside0.mk H
                                              clear H
                                              have p181 : 0 ≤ (x33_1 : Int) := of_decide_eq_true (by first | (with_reducible assumption) | assumption)
                                              have q181 : x33_1 < (l0.length : Int) := of_decide_eq_true (by first | (with_reducible assumption) | assumption)
                                              obtain ⟨ad181, A181_0, c181_0, e181, hx181_0, hl181_0, hi181_0⟩ := at_L1 HR0.out x33_1 p181 q181
                                              obtain rfl : ad172 = ad181 := (by injection e181)
                                              replace hx181_0 := (HB.out.cell (World.block_lt_of_cell? w _ hx181_0)).trans hx181_0
                                              have HR181_0 := Aside0.mk hi181_0
                                              have HC181_0 := Aside0.mk hl181_0
                                              clear hi181_0 hl181_0
                                              replace p181 := eq_true p181
                                              replace q181 := eq_true q181
                                              have p182 : 0 ≤ (x47_3 : Int) := of_decide_eq_true (by first | (with_reducible assumption) | assumption)
                                              have q182 : x47_3 < ((rd_L1 l0 x33_1).length : Int) := of_decide_eq_true (by first | (with_reducible assumption) | assumption)
                                              obtain ⟨ad182, e182, hx182_0⟩ := Kd.at_int HR181_0.out x47_3 p182 q182
                                              cases e182
                                              replace hx182_0 := (HB.out.cell (World.block_lt_of_cell? w _ hx182_0)).trans hx182_0
                                              replace p182 := eq_true p182
                                              replace q182 := eq_true q182
                                              have p183 : 0 ≤ (x47_3 : Int) := of_decide_eq_true (by first | (with_reducible assumption) | assumption)
                                              have q183 : x47_3 < (l1.length : Int) := of_decide_eq_true (by first | (with_reducible assumption) | assumption)
                                              obtain ⟨ad183, A183_0, c183_0, e183, hx183_0, hl183_0, hi183_0⟩ := at_L1 HR1.out x47_3 p183 q183
                                              obtain rfl : ad174 = ad183 := (by injection e183)
                                              replace hx183_0 := (HB.out.cell (World.block_lt_of_cell? w _ hx183_0)).trans hx183_0
                                              have HR183_0 := Aside0.mk hi183_0
                                              have HC183_0 := Aside0.mk hl183_0
                                              clear hi183_0 hl183_0
                                              replace p183 := eq_true p183
                                              replace q183 := eq_true q183
                                              have p184 : 0 ≤ (x40_2 : Int) := of_decide_eq_true (by first | (with_reducible assumption) | assumption)
                                              have q184 : x40_2 < ((rd_L1 l1 x47_3).length : Int) := of_decide_eq_true (by first | (with_reducible assumption) | assumption)
                                              obtain ⟨ad184, e184, hx184_0⟩ := Kd.at_int HR183_0.out x40_2 p184 q184
                                              cases e184
                                              replace hx184_0 := (HB.out.cell (World.block_lt_of_cell? w _ hx184_0)).trans hx184_0
                                              replace p184 := eq_true p184
                                              replace q184 := eq_true q184
                                              go_wp2_with (first | (go_at_call 47; (with_reducible refine (reedsolomon_galMultiply.calls (rd (rd_L1 l0 x33_1) x47_3) (rd (rd_L1 l1 x47_3) x40_2) t185 _ ?side1 A22.out).mono ?_); (case side1 => exact TabOK.below HT.out (by repeat (first | (with_reducible first | exact HB.out | apply below_alloc | apply pw_below_drewN | apply below_drew1) | exact HB.out))); rintro e w' ⟨rfl, ⟨nd, rfl⟩⟩; (try first | exact ⟨rfl, _, World.drewN_drewN _ _ _⟩ | exact ⟨rfl, _, Eq.trans (World.drewN_drewN _ _ _) (congrArg (World.drewN _) (Nat.add_assoc _ _ _))⟩)))
                                              repeat (go_quiet (first | (go_at_call 47; (with_reducible refine (reedsolomon_galMultiply.calls (rd (rd_L1 l0 x33_1) x47_3) (rd (rd_L1 l1 x47_3) x40_2) t185 _ ?side1 A22.out).mono ?_); (case side1 => exact TabOK.below HT.out (by repeat (first | (with_reducible first | exact HB.out | apply below_alloc | apply pw_below_drewN | apply below_drew1) | exact HB.out))); rintro e w' ⟨rfl, ⟨nd, rfl⟩⟩; (try first | exact ⟨rfl, _, World.drewN_drewN _ _ _⟩ | exact ⟨rfl, _, Eq.trans (World.drewN_drewN _ _ _) (congrArg (World.drewN _) (Nat.add_assoc _ _ _))⟩))); try go_wp2_with (first | (go_at_call 47; (with_reducible refine (reedsolomon_galMultiply.calls (rd (rd_L1 l0 x33_1) x47_3) (rd (rd_L1 l1 x47_3) x40_2) t185 _ ?side1 A22.out).mono ?_); (case side1 => exact TabOK.below HT.out (by repeat (first | (with_reducible first | exact HB.out | apply below_alloc | apply pw_below_drewN | apply below_drew1) | exact HB.out))); rintro e w' ⟨rfl, ⟨nd, rfl⟩⟩; (try first | exact ⟨rfl, _, World.drewN_drewN _ _ _⟩ | exact ⟨rfl, _, Eq.trans (World.drewN_drewN _ _ _) (congrArg (World.drewN _) (Nat.add_assoc _ _ _))⟩))))
                                              go_roundg k3
                                              case measure => have := HK1.out; have := HK2.out; have := HK3.out; omega
                                              case rel => exact ⟨(Go.bits .xor .u8 x11_3 t185), (wrap64 (x47_3 + 1)), (by first | rfl | (simp; done) | (simp [*]; done)), (by first | rfl | (simp; done) | (simp [*]; done)), H', ⟨by have := HK1.out; have := HK2.out; have := HK3.out; omega⟩, ⟨by (try simp only [hl6_1]); (try simp only [hl6_2]); (with_reducible repeat (first | apply Kd.S_alloc | apply Kd.S_drewN | apply Kd.S_drew)); exact HO_6.out⟩, ⟨by repeat (first | (with_reducible first | exact HB.out | apply below_alloc | apply pw_below_drewN | apply below_drew1) | exact HB.out)⟩⟩
                                            · rw [if_neg c21] at H
                                              exact absurd H (by simp)
                                          · rw [if_neg c20] at H
                                            exact absurd H (by simp)
                                        · rw [if_neg c19] at H
                                          exact absurd H (by simp)
                                      · rw [if_neg c18] at H
                                        exact absurd H (by simp)
                                    · rw [if_neg c17] at H
                                      exact absurd H (by simp)
                                  · rw [if_neg c16] at H
                                    exact absurd H (by simp)
                                · rw [if_neg c15] at H
                                  exact absurd H (by simp)
                              · rw [if_neg c14] at H
                                have c14b0 : decide (x47_3 < ((rd_L1 l0 0).length : Int)) = false := decide_eq_false c14
                                (try (have c14b0hl6_1 := c14b0; rw [hl6_1] at c14b0hl6_1))
                                (try (have c14b0hl6_2 := c14b0; rw [hl6_2] at c14b0hl6_2))
                                clear c14
                                by_cases c23 : 0 ≤ x33_1
                                · rw [if_pos c23] at H
                                  have c23b0 : decide (0 ≤ x33_1) = true := decide_eq_true c23
                                  clear c23
                                  by_cases c24 : x33_1 < (x6_2.length : Int)
                                  · rw [if_pos c24] at H
                                    have c24b0 : decide (x33_1 < (x6_2.length : Int)) = true := decide_eq_true c24
                                    (try (have c24b0hl6_1 := c24b0; rw [hl6_1] at c24b0hl6_1))
                                    (try (have c24b0hl6_2 := c24b0; rw [hl6_2] at c24b0hl6_2))
                                    clear c24
                                    by_cases c25 : 0 ≤ x40_2
                                    · rw [if_pos c25] at H
                                      have c25b0 : decide (0 ≤ x40_2) = true := decide_eq_true c25
                                      clear c25
                                      by_cases c26 : x40_2 < ((rd_L1 x6_2 x33_1).length : Int)
                                      · rw [if_pos c26] at H
                                        have c26b0 : decide (x40_2 < ((rd_L1 x6_2 x33_1).length : Int)) = true := decide_eq_true c26
                                        (try (have c26b0hl6_1 := c26b0; rw [hl6_1] at c26b0hl6_1))
                                        (try (have c26b0hl6_2 := c26b0; rw [hl6_2] at c26b0hl6_2))
                                        clear c26
                                        obtain ⟨y187, hy187⟩ : ∃ y_ : List Int, y_ = ((rd_L1 x6_2 x33_1).set (x40_2 : Int).toNat x11_3) := ⟨_, rfl⟩
                                        replace H : (reedsolomon_matrix_Multiply.l1 k3 l0 l1 (x6_2.set (x33_1 : Int).toNat y187) x33_1 (t175.length : Int) x33_1 ((rd_L1 x6_1 x33_1).length : Int) (wrap64 (x40_2 + 1))) = some (r1, r2) := by first | (rw [hy187]; with_reducible exact H) | (have H2_ := (Option.bind_some _ _).symm.trans H; rw [hy187]; with_reducible exact H2_) | (have H2_ := (Option.bind_some _ _).symm.trans H; with_reducible exact H2_) | with_reducible exact H | (rw [hy187]; exact H) | exact H
                                        have Ny187 := Aside0.mk hy187
                                        clear hy187
                                        obtain ⟨y189, hy189⟩ : ∃ y_ : List (List Int), y_ = (x6_2.set (x33_1 : Int).toNat y187) := ⟨_, rfl⟩
                                        replace H : (reedsolomon_matrix_Multiply.l1 k3 l0 l1 y189 x33_1 (t175.length : Int) x33_1 ((rd_L1 x6_1 x33_1).length : Int) (wrap64 (x40_2 + 1))) = some (r1, r2) := by first | (rw [hy189]; with_reducible exact H) | (have H2_ := (Option.bind_some _ _).symm.trans H; rw [hy189]; with_reducible exact H2_) | (have H2_ := (Option.bind_some _ _).symm.trans H; with_reducible exact H2_) | with_reducible exact H | (rw [hy189]; exact H) | exact H
                                        have Ny189 := Aside0.mk hy189
                                        clear hy189
                                        have H' := Aside0.mk H
                                        clear H
                                        have p186 : 0 ≤ (x33_1 : Int) := of_decide_eq_true (by first | (with_reducible assumption) | assumption)
                                        have q186 : x33_1 < (x6_2.length : Int) := of_decide_eq_true (by first | (with_reducible assumption) | assumption)
                                        obtain ⟨ad186, A186_0, c186_0, e186, hx186_0, hl186_0, hi186_0⟩ := at_L1 (Kd.S_reads' HO_6.out).2.2 x33_1 p186 q186
                                        obtain rfl : ad179 = ad186 := (by injection e186)
                                        obtain ⟨ce186, hce186, hMe186, hcc186⟩ := Kd.S_get HO_6.out [] x33_1 p186 (by first | exact q186 | exact of_decide_eq_true (by first | (with_reducible assumption) | assumption) | (have e_ := (Kd.S_reads' HO_6.out).1; omega))
                                        obtain ⟨ve186_0, rfl, ge186_0⟩ := hMe186
                                        have hv186_0 := hcc186 0 _ rfl
                                        rw [Nat.add_zero, show ((Kd.slice 5 (Kd.int .u8))).sz = 1 from rfl, Nat.mul_one] at hv186_0
                                        replace hv186_0 := Option.some.inj (hv186_0.symm.trans hx186_0)
                                        rw [hv186_0] at ge186_0
                                        have HL186_0 := Aside0.mk (show Kd.R (Kd.int .u8) 5 _ _ _ _ (rd_L1 x6_2 x33_1) from ge186_0)
                                        clear hv186_0 ge186_0
                                        have HX186_0 := Aside0.mk hx186_0
                                        clear hcc186 hce186
                                        have HR186_0 := Aside0.mk hi186_0
                                        have HC186_0 := Aside0.mk hl186_0
                                        clear hi186_0 hl186_0
                                        replace p186 := eq_true p186
                                        replace q186 := eq_true q186
                                        have p27 : 0 ≤ (x40_2 : Int) := of_decide_eq_true (by first | (with_reducible assumption) | assumption)
                                        have q27 : (x40_2 : Int) < (((rd_L1 x6_2 x33_1).length : Int) : Int) := of_decide_eq_true (by first | (with_reducible assumption) | assumption)
                                        obtain ⟨go27, co27, eo27, gb27, gl27, cl27, HG27⟩ := Kd.R_form HL186_0.out (by omega)
                                        (first | cases eo27 | (injection eo27 with ea_ en_ ec_; (first | subst ea_ | (injection ea_ with ea_; subst ea_)); subst ec_; clear en_))
                                        have GB27 := Aside0.mk gb27
                                        have GG27 := Aside0.mk HG27
                                        clear gb27 gl27 HG27
                                        obtain ⟨hx27_0, hf27_0⟩ := Kd.R_celln 0 HL186_0.out (x40_2 : Int) p27 q27
                                        replace p27 := eq_true p27
                                        replace q27 := eq_true q27
                                        have hq28 : (x33_1 : Int) < (x6_2.length : Int) := (by have h_ : (x33_1 : Int) < ((x6_2.length : Int) : Int) := of_decide_eq_true (by first | (with_reducible assumption) | assumption); first | exact h_ | (have e_ := (Kd.S_reads' HO_6.out).1; omega) | simpa only [List.length_set, List.length_set] using h_)
                                        obtain ⟨oki28, ce28, hcl28, hM28, hcc28, hok28, hbk28⟩ := Kd.S_borrow HO_6.out [] (x33_1 : Int) (of_decide_eq_true (by first | (with_reducible assumption) | assumption)) hq28
                                        obtain ⟨ve28_0, rfl, ge28_0⟩ := hM28
                                        have hv28 := hcc28 0 _ rfl
                                        rw [Nat.add_zero, show ((Kd.slice 5 (Kd.int .u8))).sz = 1 from rfl, Nat.mul_one] at hv28
                                        replace hv28 := Option.some.inj (hv28.symm.trans HX186_0.out)
                                        subst hv28
                                        clear hcc28 hcl28
                                        replace ge28_0 := (show Kd.R (Kd.int .u8) 5 _ _ _ _ (rd_L1 x6_2 x33_1) from ge28_0)
                                        have HP28 := Kd.R_putg ge28_0 (x40_2 : Int) x11_3
                                        go_wp2_with (first | ((with_reducible refine gate_store (t := 5) (p := 74) rfl ?_); (try (rw [drewN_self wr]; generalize hq_ : World.drewN wr _ = wr; have n0_ := Aside0.mk (Kd.S_at hq_ HO_6.out); have n1_ := Aside0.mk (Kd.R_at hq_ HL190.out); have n2_ := Aside0.mk (below_at hq_ HB.out); clear hq_ HO_6 HL190 HB; have HO_6 := n0_; have HL190 := n1_; have HB := n2_; clear n0_ n1_ n2_; (try (have hq28 : (x33_1 : Int) < (x6_2.length : Int) := (by have h_ : (x33_1 : Int) < ((x6_2.length : Int) : Int) := of_decide_eq_true (by first | (with_reducible assumption) | assumption); first | exact h_ | (have e_ := (Kd.S_reads' HO_6.out).1; omega) | simpa only [List.length_set, List.length_set] using h_))); (try (obtain ⟨oki28, ce28, hcl28, hM28, hcc28, hok28, hbk28⟩ := Kd.S_borrow HO_6.out [] (x33_1 : Int) (of_decide_eq_true (by first | (with_reducible assumption) | assumption)) hq28)); (try (obtain ⟨ve28_0, rfl, ge28_0⟩ := hM28)); (try (have hv28 := hcc28 0 _ rfl)); (try (rw [Nat.add_zero, show ((Kd.slice 5 (Kd.int .u8))).sz = 1 from rfl, Nat.mul_one] at hv28)); (try (replace hv28 := Option.some.inj (hv28.symm.trans HX186_0.out))); (try (subst hv28)); (try (clear hcc28 hcl28)); (try (replace ge28_0 := (show Kd.R (Kd.int .u8) 5 _ _ _ _ (rd_L1 x6_2 x33_1) from ge28_0))); (try (have HP28 := Kd.R_putg ge28_0 (x40_2 : Int) x11_3)))); refine store_event (t := 5) (p := 74) (v := ?vo_w29) (w1 := (wr.setCell ⟨go27, (x40_2 : Int).toNat, none⟩ (.int .u8 x11_3))) ?hg ?ho ?hn ?hr ?_; (case ho => rfl); (case hg => rfl); (case hn => rfl); (case hr => first | (go_simp; done) | (go_simp; rfl)); intro w29 hw; have hg : wr.grownBy w29 (some go27) := (by rw [hw]; exact HP28.2); have hz_ : Kd.R (Kd.int .u8) 5 w29 w.heap.size oki28 (.slice (some ⟨go27, 0, none⟩) (rd_L1 x6_2 x33_1).length c186_0) y187 := (by rw [hw, Ny187.out]; exact HP28.1); have hp_ : Kd.S (Kd.slice 5 (Kd.int .u8)) 22 w29 w.heap.size (fun _ => True) (.slice (some ad179) x6_2.length co8) y189 := (by rw [Ny189.out]; exact hbk28 hg (fun k_ e_ => by injection e_ with e_; subst e_; exact ge28_0.1 _ rfl) (Kd.M_row hz_)); have hm_ := Kd.R_mono hz_ hok28; clear HP28 hbk28; have n0_ := Aside0.mk (hp_); have n1_ := Aside0.mk ((by rw [hw]; exact below_set (HB.out) GB27.out : Below w.heap.size w w29)); have n2_ := Aside0.mk (hm_); have n3_ := Aside0.mk ((Kd.R_reads' hm_).2.1); clear HO_6; clear HB; clear HL186_0; have HO_6 := n0_; have HB := n1_; have HL190 := n2_; have HC188 := n3_; clear n0_ n1_ n2_ n3_; clear hg hw hp_ hz_ hm_ hok28))
                                        repeat (go_quiet (first | ((with_reducible refine gate_store (t := 5) (p := 74) rfl ?_); (try (rw [drewN_self wr]; generalize hq_ : World.drewN wr _ = wr; have n0_ := Aside0.mk (Kd.S_at hq_ HO_6.out); have n1_ := Aside0.mk (Kd.R_at hq_ HL190.out); have n2_ := Aside0.mk (below_at hq_ HB.out); clear hq_ HO_6 HL190 HB; have HO_6 := n0_; have HL190 := n1_; have HB := n2_; clear n0_ n1_ n2_; (try (have hq28 : (x33_1 : Int) < (x6_2.length : Int) := (by have h_ : (x33_1 : Int) < ((x6_2.length : Int) : Int) := of_decide_eq_true (by first | (with_reducible assumption) | assumption); first | exact h_ | (have e_ := (Kd.S_reads' HO_6.out).1; omega) | simpa only [List.length_set, List.length_set] using h_))); (try (obtain ⟨oki28, ce28, hcl28, hM28, hcc28, hok28, hbk28⟩ := Kd.S_borrow HO_6.out [] (x33_1 : Int) (of_decide_eq_true (by first | (with_reducible assumption) | assumption)) hq28)); (try (obtain ⟨ve28_0, rfl, ge28_0⟩ := hM28)); (try (have hv28 := hcc28 0 _ rfl)); (try (rw [Nat.add_zero, show ((Kd.slice 5 (Kd.int .u8))).sz = 1 from rfl, Nat.mul_one] at hv28)); (try (replace hv28 := Option.some.inj (hv28.symm.trans HX186_0.out))); (try (subst hv28)); (try (clear hcc28 hcl28)); (try (replace ge28_0 := (show Kd.R (Kd.int .u8) 5 _ _ _ _ (rd_L1 x6_2 x33_1) from ge28_0))); (try (have HP28 := Kd.R_putg ge28_0 (x40_2 : Int) x11_3)))); refine store_event (t := 5) (p := 74) (v := ?vo_w29) (w1 := (wr.setCell ⟨go27, (x40_2 : Int).toNat, none⟩ (.int .u8 x11_3))) ?hg ?ho ?hn ?hr ?_; (case ho => rfl); (case hg => rfl); (case hn => rfl); (case hr => first | (go_simp; done) | (go_simp; rfl)); intro w29 hw; have hg : wr.grownBy w29 (some go27) := (by rw [hw]; exact HP28.2); have hz_ : Kd.R (Kd.int .u8) 5 w29 w.heap.size oki28 (.slice (some ⟨go27, 0, none⟩) (rd_L1 x6_2 x33_1).length c186_0) y187 := (by rw [hw, Ny187.out]; exact HP28.1); have hp_ : Kd.S (Kd.slice 5 (Kd.int .u8)) 22 w29 w.heap.size (fun _ => True) (.slice (some ad179) x6_2.length co8) y189 := (by rw [Ny189.out]; exact hbk28 hg (fun k_ e_ => by injection e_ with e_; subst e_; exact ge28_0.1 _ rfl) (Kd.M_row hz_)); have hm_ := Kd.R_mono hz_ hok28; clear HP28 hbk28; have n0_ := Aside0.mk (hp_); have n1_ := Aside0.mk ((by rw [hw]; exact below_set (HB.out) GB27.out : Below w.heap.size w w29)); have n2_ := Aside0.mk (hm_); have n3_ := Aside0.mk ((Kd.R_reads' hm_).2.1); clear HO_6; clear HB; clear HL186_0; have HO_6 := n0_; have HB := n1_; have HL190 := n2_; have HC188 := n3_; clear n0_ n1_ n2_ n3_; clear hg hw hp_ hz_ hm_ hok28)); try go_wp2_with (first | ((with_reducible refine gate_store (t := 5) (p := 74) rfl ?_); (try (rw [drewN_self wr]; generalize hq_ : World.drewN wr _ = wr; have n0_ := Aside0.mk (Kd.S_at hq_ HO_6.out); have n1_ := Aside0.mk (Kd.R_at hq_ HL190.out); have n2_ := Aside0.mk (below_at hq_ HB.out); clear hq_ HO_6 HL190 HB; have HO_6 := n0_; have HL190 := n1_; have HB := n2_; clear n0_ n1_ n2_; (try (have hq28 : (x33_1 : Int) < (x6_2.length : Int) := (by have h_ : (x33_1 : Int) < ((x6_2.length : Int) : Int) := of_decide_eq_true (by first | (with_reducible assumption) | assumption); first | exact h_ | (have e_ := (Kd.S_reads' HO_6.out).1; omega) | simpa only [List.length_set, List.length_set] using h_))); (try (obtain ⟨oki28, ce28, hcl28, hM28, hcc28, hok28, hbk28⟩ := Kd.S_borrow HO_6.out [] (x33_1 : Int) (of_decide_eq_true (by first | (with_reducible assumption) | assumption)) hq28)); (try (obtain ⟨ve28_0, rfl, ge28_0⟩ := hM28)); (try (have hv28 := hcc28 0 _ rfl)); (try (rw [Nat.add_zero, show ((Kd.slice 5 (Kd.int .u8))).sz = 1 from rfl, Nat.mul_one] at hv28)); (try (replace hv28 := Option.some.inj (hv28.symm.trans HX186_0.out))); (try (subst hv28)); (try (clear hcc28 hcl28)); (try (replace ge28_0 := (show Kd.R (Kd.int .u8) 5 _ _ _ _ (rd_L1 x6_2 x33_1) from ge28_0))); (try (have HP28 := Kd.R_putg ge28_0 (x40_2 : Int) x11_3)))); refine store_event (t := 5) (p := 74) (v := ?vo_w29) (w1 := (wr.setCell ⟨go27, (x40_2 : Int).toNat, none⟩ (.int .u8 x11_3))) ?hg ?ho ?hn ?hr ?_; (case ho => rfl); (case hg => rfl); (case hn => rfl); (case hr => first | (go_simp; done) | (go_simp; rfl)); intro w29 hw; have hg : wr.grownBy w29 (some go27) := (by rw [hw]; exact HP28.2); have hz_ : Kd.R (Kd.int .u8) 5 w29 w.heap.size oki28 (.slice (some ⟨go27, 0, none⟩) (rd_L1 x6_2 x33_1).length c186_0) y187 := (by rw [hw, Ny187.out]; exact HP28.1); have hp_ : Kd.S (Kd.slice 5 (Kd.int .u8)) 22 w29 w.heap.size (fun _ => True) (.slice (some ad179) x6_2.length co8) y189 := (by rw [Ny189.out]; exact hbk28 hg (fun k_ e_ => by injection e_ with e_; subst e_; exact ge28_0.1 _ rfl) (Kd.M_row hz_)); have hm_ := Kd.R_mono hz_ hok28; clear HP28 hbk28; have n0_ := Aside0.mk (hp_); have n1_ := Aside0.mk ((by rw [hw]; exact below_set (HB.out) GB27.out : Below w.heap.size w w29)); have n2_ := Aside0.mk (hm_); have n3_ := Aside0.mk ((Kd.R_reads' hm_).2.1); clear HO_6; clear HB; clear HL186_0; have HO_6 := n0_; have HB := n1_; have HL190 := n2_; have HC188 := n3_; clear n0_ n1_ n2_ n3_; clear hg hw hp_ hz_ hm_ hok28)))
                                        (try simp only [← hl6_2])
                                        go_roundg k3
                                        case measure => have := HK1.out; have := HK2.out; have := HK3.out; omega
                                        case rel => exact ⟨(y189), (wrap64 (x40_2 + 1)), (by first | rfl | (simp; done) | (simp [*]; done)), H', ⟨by have := HK1.out; have := HK2.out; have := HK3.out; omega⟩, ⟨by (try simp only [hl6_1]); (try simp only [hl6_2]); (with_reducible repeat (first | apply Kd.S_alloc | apply Kd.S_drewN | apply Kd.S_drew)); exact HO_6.out⟩, ⟨by repeat (first | (with_reducible first | exact HB.out | apply below_alloc | apply pw_below_drewN | apply below_drew1) | exact HB.out)⟩⟩
                                      · rw [if_neg c26] at H
                                        exact absurd H (by simp)
                                    · rw [if_neg c25] at H
                                      exact absurd H (by simp)
                                  · rw [if_neg c24] at H
                                    exact absurd H (by simp)
                                · rw [if_neg c23] at H
                                  exact absurd H (by simp)
                        · rw [if_neg c13] at H
                          exact absurd H (by simp)
                      · rw [if_neg c12] at H
                        have c12b0 : decide (x40_2 < ((rd_L1 x6_1 x33_1).length : Int)) = false := decide_eq_false c12
                        (try (have c12b0hl6_1 := c12b0; rw [hl6_1] at c12b0hl6_1))
                        (try (have c12b0hl6_2 := c12b0; rw [hl6_2] at c12b0hl6_2))
                        clear c12
                        have H' := Aside0.mk H
                        clear H
                        go_wp2
                        repeat (go_quiet (fail); try go_wp2)
                        (try simp only [← hl6_1, ← hl6_2])
                        go_roundg k2
                        case measure => have := HK1.out; have := HK2.out; omega
                        case rel => exact ⟨(x6_2), (wrap64 (x33_1 + 1)), (by first | rfl | (simp; done) | (simp [*]; done)), H', ⟨by have := HK1.out; have := HK2.out; omega⟩, ⟨by (try simp only [hl6_1]); (try simp only [hl6_2]); (with_reducible repeat (first | apply Kd.S_alloc | apply Kd.S_drewN | apply Kd.S_drew)); exact HO_6.out⟩, ⟨by repeat (first | (with_reducible first | exact HB.out | apply below_alloc | apply pw_below_drewN | apply below_drew1) | exact HB.out)⟩⟩
                · rw [if_neg c11] at H
                  exact absurd H (by simp)
              · rw [if_neg c10] at H
                exact absurd H (by simp)
            · rw [if_neg c9] at H
              have c9b0 : decide (x33_1 < (t175.length : Int)) = false := decide_eq_false c9
              (try (have c9b0hl6_1 := c9b0; rw [hl6_1] at c9b0hl6_1))
              clear c9
              simp only [Option.some.injEq, Prod.mk.injEq] at H
              obtain ⟨rfl, rfl⟩ := H
              go_wp2
              repeat (go_quiet (fail); try go_wp2)
              go_ret2
              exact ⟨(fun _ => 0), (fun _ => .nilIface), _, by first | rfl | (simp [errW_none, errW_some] <;> rfl) | (simp [*, errW_none, errW_some] <;> rfl), by (with_reducible repeat (first | apply Kd.S_alloc | apply Kd.S_drewN | apply Kd.S_drew)); exact HO_6.out, by repeat (first | (with_reducible first | exact HB.out | apply below_alloc | apply pw_below_drewN | apply below_drew1) | exact HB.out)⟩
      · rw [if_neg c5] at H
        exact absurd H (by simp)
    · rw [if_neg c4] at H
      have c4b0 : (((rd_L1 l0 0).length : Int) == (l1.length : Int)) = false := beq_eq_false_iff_ne.mpr c4
      have c4b1 : (((rd_L1 l0 0).length : Int) != (l1.length : Int)) = true := bne_iff_ne.mpr c4
      have c4b2 : ((rd_L1 l0 0).length == l1.length) = false := by first | simpa using c4 | (simp at c4 ⊢; omega)
      replace H := Option.bind_eq_some_iff.mp H
      obtain ⟨t173, A300, H⟩ := H
      replace H : (some (([] : List (List Int)), t173)) = some (r1, r2) := H
      have A30 := Aside0.mk A300
      clear A300
      simp only [Option.some.injEq, Prod.mk.injEq] at H
      obtain ⟨rfl, rfl⟩ := H
      have p172 : 0 ≤ (0 : Int) := (by omega)
      have q172 : 0 < (l0.length : Int) := of_decide_eq_true (by first | (with_reducible assumption) | assumption)
      obtain ⟨ad172, A172_0, c172_0, e172, hx172_0, hl172_0, hi172_0⟩ := at_L1 HR0.out 0 p172 q172
      cases e172
      have qi172 : (0 < l0.length) = True := eq_true (by omega)
      (try rw [show ((0 : Int)).toNat = 0 from rfl] at hx172_0)
      (try rw [Addr.add_zero'] at hx172_0)
      have HR172_0 := Aside0.mk hi172_0
      have HC172_0 := Aside0.mk hl172_0
      clear hi172_0 hl172_0
      replace p172 := eq_true p172
      replace q172 := eq_true q172
      go_enter Tryd.func51, Tryd.ntmps51
      go_wp2_with (first | (go_at_call 59; (with_reducible refine (errors_New.calls (⟨#[99, 111, 108, 117, 109, 110, 115, 32, 111, 110, 32, 108, 101, 102, 116, 32, 32, 105, 115, 32, 100, 105, 102, 102, 101, 114, 101, 110, 116, 32, 116, 104, 97, 110, 32, 114, 111, 119, 115, 32, 111, 110, 32, 114, 105, 103, 104, 116, 32]⟩ : ByteArray) t173 _ A30.out).mono ?_); rintro e w31 ⟨Tt173, Xt173, rfl, hb⟩; have n0_ := Aside0.mk (below_step (by repeat (first | (with_reducible first | exact HB.out | apply below_alloc | apply pw_below_drewN | apply below_drew1) | exact HB.out)) hb); clear HB; have HB := n0_; clear n0_; (try clear hb); (try clear hb2); (try clear hk); (try clear hi); (try simp only [errW_none, errW_some])))
      repeat (go_quiet (first | (go_at_call 59; (with_reducible refine (errors_New.calls (⟨#[99, 111, 108, 117, 109, 110, 115, 32, 111, 110, 32, 108, 101, 102, 116, 32, 32, 105, 115, 32, 100, 105, 102, 102, 101, 114, 101, 110, 116, 32, 116, 104, 97, 110, 32, 114, 111, 119, 115, 32, 111, 110, 32, 114, 105, 103, 104, 116, 32]⟩ : ByteArray) t173 _ A30.out).mono ?_); rintro e w31 ⟨Tt173, Xt173, rfl, hb⟩; have n0_ := Aside0.mk (below_step (by repeat (first | (with_reducible first | exact HB.out | apply below_alloc | apply pw_below_drewN | apply below_drew1) | exact HB.out)) hb); clear HB; have HB := n0_; clear n0_; (try clear hb); (try clear hb2); (try clear hk); (try clear hi); (try simp only [errW_none, errW_some]))); try go_wp2_with (first | (go_at_call 59; (with_reducible refine (errors_New.calls (⟨#[99, 111, 108, 117, 109, 110, 115, 32, 111, 110, 32, 108, 101, 102, 116, 32, 32, 105, 115, 32, 100, 105, 102, 102, 101, 114, 101, 110, 116, 32, 116, 104, 97, 110, 32, 114, 111, 119, 115, 32, 111, 110, 32, 114, 105, 103, 104, 116, 32]⟩ : ByteArray) t173 _ A30.out).mono ?_); rintro e w31 ⟨Tt173, Xt173, rfl, hb⟩; have n0_ := Aside0.mk (below_step (by repeat (first | (with_reducible first | exact HB.out | apply below_alloc | apply pw_below_drewN | apply below_drew1) | exact HB.out)) hb); clear HB; have HB := n0_; clear n0_; (try clear hb); (try clear hb2); (try clear hk); (try clear hi); (try simp only [errW_none, errW_some]))))
      go_ret2
      exact ⟨Tt173, Xt173, _, by first | rfl | (simp [errW_none, errW_some] <;> rfl) | (simp [*, errW_none, errW_some] <;> rfl), by first | exact Kd.S_nil _ _ _ _ _ | exact Kd.N_nil _ _ _ _ _ | exact Kd.V_nil _ _ _ _ _ | exact Kd.Q_nil _ _ _ _ _ | exact Kd.R_nil _ _ _ _ _, by repeat (first | (with_reducible first | exact HB.out | apply below_alloc | apply pw_below_drewN | apply below_drew1) | exact HB.out)⟩
  · rw [if_neg c3] at H
    exact absurd H (by simp)

end Go.Proofs.YtipbhclpeogcmaaDoor.M

namespace Go.Proofs.YtipbhclpeogcmaaDoor.M
open Go.RowKit Go.Proofs.YtipbhclpeogcmaaDoorW.PrintWords Go.Proofs.YtipbhclpeogcmaaDoorW.PrintLast Go.Proofs.YtipbhclpeogcmaaDoorW.PrintMore
attribute [local go_sem] max2_int min2_int max_two min_two max_three min_three max_four min_four   -- for this text's walks alone
set_option linter.unusedVariables false
set_option linter.unusedSimpArgs false

/-! ### reedsolomon_DoorTimes: function 39 -/
def reedsolomon_DoorTimes.f (k : Nat) (l0 : List (List Int)) (l1 : List (List Int)) : Option ((List (List Int)) × Option Int) := (reedsolomon_matrix_Multiply.f k l0 l1).bind fun bt191 => (some (bt191.1, bt191.2))
theorem reedsolomon_DoorTimes.mono : ∀ a0 a1 k, LeO (reedsolomon_DoorTimes.f k a0 a1) (reedsolomon_DoorTimes.f (k + 1) a0 a1) := by
  intro a0 a1 k
  unfold reedsolomon_DoorTimes.f
  repeat' first
      | (with_reducible exact reedsolomon_matrix_Multiply.mono _ _ _)
      | (with_reducible exact LeO.refl _)
      | (with_reducible exact LeO.none _)
      | (with_reducible refine LeO.ite ?_ ?_)
      | (with_reducible refine LeO.bind ?_ (fun _ => ?_))
      | exact reedsolomon_matrix_Multiply.mono _ _ _
      | exact LeO.none _
      | refine LeO.ite ?_ ?_
      | refine LeO.bind ?_ (fun _ => ?_)
set_option maxHeartbeats 8000000 in
set_option maxRecDepth 100000 in
theorem reedsolomon_DoorTimes.calls (k : Nat) (A0 : Option Addr) (c0 : Nat) (l0 : List (List Int)) (A1 : Option Addr) (c1 : Nat) (l1 : List (List Int)) (r1 : List (List Int)) (r2 : Option Int) (w : World) (hT : TabOK w) (hr0 : Kd.C (Kd.slice 5 (Kd.int .u8)) w A0 l0.length l0) (hc0 : l0.length ≤ c0) (hr1 : Kd.C (Kd.slice 5 (Kd.int .u8)) w A1 l1.length l1) (hc1 : l1.length ≤ c1) (h : reedsolomon_DoorTimes.f k l0 l1 = some (r1, r2)) :
    Calls Tryd.prog 39 #[.slice A0 l0.length c0, .slice A1 l1.length c1] w fun e w' => ∃ (T_ : Int → TypeId) (X_ : Int → Value), ∃ v0_ : Value, e = .returned (.tuple #[v0_, errW T_ X_ r2]) ∧ Kd.S (Kd.slice 5 (Kd.int .u8)) 22 w' w.heap.size (fun _ => True) v0_ r1 ∧ Below w.heap.size w w' := by
  have HT := Aside0.mk hT
  clear hT
  have HR0 := Aside0.mk hr0
  have HC0 := Aside0.mk hc0
  clear hr0 hc0
  have HR1 := Aside0.mk hr1
  have HC1 := Aside0.mk hc1
  clear hr1 hc1
  have HB := Aside0.mk (Below.refl w.heap.size w)
  have H : ((reedsolomon_matrix_Multiply.f k l0 l1).bind fun bt191 => (some (bt191.1, bt191.2))) = some (r1, r2) := h
  clear h
  replace H := Option.bind_eq_some_iff.mp H
  obtain ⟨⟨t191, t192⟩, A30, H⟩ := H
  replace H : (some (t191, t192)) = some (r1, r2) := H
  have A3 := Aside0.mk A30
  clear A30
  simp only [Option.some.injEq, Prod.mk.injEq] at H
  obtain ⟨rfl, rfl⟩ := H
  go_enter Tryd.func39, Tryd.ntmps39
  go_wp2_with (first | ((with_reducible refine gate_callee (f := 51) rfl ?_); refine goesL_ (some 8) rfl rfl Tryd.func51 (by kernel_rfl) rfl #[.slice A0 l0.length c0, .slice A1 l1.length c1] rfl (by (try simp only [List.map_toArray, List.map_cons, List.map_nil]); first | done | rfl | (simp only [List.length_drop, List.length_take]; rfl)) ?_; (with_reducible refine (reedsolomon_matrix_Multiply.calls k _ _ l0 _ _ l1 t191 t192 _ ?side1 ?side2 ?side3 ?side4 ?side5 A3.out).mono ?_); (case side1 => exact TabOK.below HT.out (by repeat (first | (with_reducible first | exact HB.out | apply below_alloc | apply pw_below_drewN | apply below_drew1) | exact HB.out))); (case side2 => repeat (first | exact HR0.out | (with_reducible refine Kd.C_alloc ?_ _) | (with_reducible refine Kd.C_drewN ?_ _) | (with_reducible refine Kd.C_drew ?_))); (case side3 => exact HC0.out); (case side4 => repeat (first | exact HR1.out | (with_reducible refine Kd.C_alloc ?_ _) | (with_reducible refine Kd.C_drewN ?_ _) | (with_reducible refine Kd.C_drew ?_))); (case side5 => exact HC1.out); rintro e w4 ⟨Tt192, Xt192, v193, rfl, ho0, hb⟩; refine ⟨_, rfl, ?_⟩; have n0_ := Aside0.mk (Kd.S_lower ho0 (below_size (by repeat (first | (with_reducible first | exact HB.out | apply below_alloc | apply pw_below_drewN | apply below_drew1) | exact HB.out)))); have n1_ := Aside0.mk (below_step (by repeat (first | (with_reducible first | exact HB.out | apply below_alloc | apply pw_below_drewN | apply below_drew1) | exact HB.out)) hb); clear HB; have HO194 := n0_; have HB := n1_; clear n0_ n1_; (try clear hb); (try clear hb2); (try clear hk); (try clear hi); (try clear ho0); (try simp only [errW_none, errW_some])))
  go_ret2
  exact ⟨Tt192, Xt192, _, by first | rfl | (simp [errW_none, errW_some] <;> rfl) | (simp [*, errW_none, errW_some] <;> rfl), by (with_reducible repeat (first | apply Kd.S_alloc | apply Kd.S_drewN | apply Kd.S_drew)); exact HO194.out, by repeat (first | (with_reducible first | exact HB.out | apply below_alloc | apply pw_below_drewN | apply below_drew1) | exact HB.out)⟩

end Go.Proofs.YtipbhclpeogcmaaDoor.M

namespace Go.Proofs.YtipbhclpeogcmaaDoor.M
open Go.RowKit Go.Proofs.YtipbhclpeogcmaaDoorW.PrintWords Go.Proofs.YtipbhclpeogcmaaDoorW.PrintLast Go.Proofs.YtipbhclpeogcmaaDoorW.PrintMore
attribute [local go_sem] max2_int min2_int max_two min_two max_three min_three max_four min_four   -- for this text's walks alone
set_option linter.unusedVariables false
set_option linter.unusedSimpArgs false

/-! ### impl_Multiply: function 21 -/
def impl_Multiply.j0 : Nat → List (List Int) → List (List Int) → Bool → Option ((List (List Int)) × Bool)
  | 0, _, _, _ => none
  | k + 1, x0, x1, x15 => if x15 = true then (some (([] : List (List Int)), false)) else ((impl_rows.f k x0).bind fun t197 => ((impl_rows.f k x1).bind fun t200 => ((reedsolomon_DoorTimes.f k t197 t200).bind fun bt203 => ((impl_rows.f k bt203.1).bind fun t207 => (if bt203.2.isNone = true then (some (t207, true)) else (some (t207, false)))))))
def impl_Multiply.f (k : Nat) (l0 : List (List Int)) (l1 : List (List Int)) : Option ((List (List Int)) × Bool) := (impl_isMatrix.f k l0).bind fun t195 => (if t195 = true then ((impl_isMatrix.f k l1).bind fun t196 => (impl_Multiply.j0 k l0 l1 (!t196))) else (impl_Multiply.j0 k l0 l1 true))
theorem impl_Multiply.mono_l : ∀ k, (∀ y0 y1 y2, LeO (impl_Multiply.j0 k y0 y1 y2) (impl_Multiply.j0 (k + 1) y0 y1 y2))
  | 0 => fun _ _ _ r h => by simp [impl_Multiply.j0] at h
  | k + 1 => by
    have ih0 := impl_Multiply.mono_l k
    · intro y0 y1 y2
      unfold impl_Multiply.j0
      repeat' first
      | (with_reducible exact ih0 _ _ _)
      | (with_reducible exact impl_isMatrix.mono _ _)
      | (with_reducible exact impl_rows.mono _ _)
      | (with_reducible exact reedsolomon_DoorTimes.mono _ _ _)
      | (with_reducible exact LeO.refl _)
      | (with_reducible exact LeO.none _)
      | (with_reducible refine LeO.ite ?_ ?_)
      | (with_reducible refine LeO.bind ?_ (fun _ => ?_))
      | exact ih0 _ _ _
      | exact impl_isMatrix.mono _ _
      | exact impl_rows.mono _ _
      | exact reedsolomon_DoorTimes.mono _ _ _
      | exact LeO.none _
      | refine LeO.ite ?_ ?_
      | refine LeO.bind ?_ (fun _ => ?_)
theorem impl_Multiply.mono : ∀ a0 a1 k, LeO (impl_Multiply.f k a0 a1) (impl_Multiply.f (k + 1) a0 a1) := by
  intro a0 a1 k
  have ih0 := impl_Multiply.mono_l k
  unfold impl_Multiply.f
  repeat' first
      | (with_reducible exact ih0 _ _ _)
      | (with_reducible exact impl_isMatrix.mono _ _)
      | (with_reducible exact impl_rows.mono _ _)
      | (with_reducible exact reedsolomon_DoorTimes.mono _ _ _)
      | (with_reducible exact LeO.refl _)
      | (with_reducible exact LeO.none _)
      | (with_reducible refine LeO.ite ?_ ?_)
      | (with_reducible refine LeO.bind ?_ (fun _ => ?_))
      | exact ih0 _ _ _
      | exact impl_isMatrix.mono _ _
      | exact impl_rows.mono _ _
      | exact reedsolomon_DoorTimes.mono _ _ _
      | exact LeO.none _
      | refine LeO.ite ?_ ?_
      | refine LeO.bind ?_ (fun _ => ?_)
set_option maxHeartbeats 8000000 in
set_option maxRecDepth 100000 in
theorem impl_Multiply.calls (k : Nat) (A0 : Option Addr) (c0 : Nat) (l0 : List (List Int)) (A1 : Option Addr) (c1 : Nat) (l1 : List (List Int)) (r1 : List (List Int)) (r2 : Bool) (w : World) (hT : TabOK w) (hr0 : Kd.C (Kd.slice 5 (Kd.int .u8)) w A0 l0.length l0) (hc0 : l0.length ≤ c0) (hr1 : Kd.C (Kd.slice 5 (Kd.int .u8)) w A1 l1.length l1) (hc1 : l1.length ≤ c1) (h : impl_Multiply.f k l0 l1 = some (r1, r2)) :
    Calls Tryd.prog 21 #[.slice A0 l0.length c0, .slice A1 l1.length c1] w fun e w' => ∃ v0_ : Value, e = .returned (.tuple #[v0_, .bool r2]) ∧ Kd.S (Kd.slice 5 (Kd.int .u8)) 22 w' w.heap.size (fun _ => True) v0_ r1 ∧ Below w.heap.size w w' := by
  have hu60 := Tryd.underlying60
  have HT := Aside0.mk hT
  clear hT
  have HR0 := Aside0.mk hr0
  have HC0 := Aside0.mk hc0
  clear hr0 hc0
  have HR1 := Aside0.mk hr1
  have HC1 := Aside0.mk hc1
  clear hr1 hc1
  have HB := Aside0.mk (Below.refl w.heap.size w)
  have H : ((impl_isMatrix.f k l0).bind fun t195 => (if t195 = true then ((impl_isMatrix.f k l1).bind fun t196 => (impl_Multiply.j0 k l0 l1 (!t196))) else (impl_Multiply.j0 k l0 l1 true))) = some (r1, r2) := h
  clear h
  have HC3 := Aside0.mk H
  clear H
  go_enter Tryd.func21, Tryd.ntmps21
  go_upto_region 1 with (fail)
  go_cut [15] (fun v15 wc => ∃ (kq : Nat) (x15_2 : Bool), v15 = .bool x15_2 ∧ Aside0 (impl_Multiply.j0 kq l0 l1 x15_2 = some (r1, r2)) ∧ Aside0 (kq ≤ k) ∧ Aside0 (Below w.heap.size w wc))
  case first =>
    have H := HC3.out
    clear HC3
    replace H := Option.bind_eq_some_iff.mp H
    obtain ⟨t195, A40, H⟩ := H
    replace H : (if t195 = true then ((impl_isMatrix.f k l1).bind fun t196 => (impl_Multiply.j0 k l0 l1 (!t196))) else (impl_Multiply.j0 k l0 l1 true)) = some (r1, r2) := H
    have A4 := Aside0.mk A40
    clear A40
    by_cases c5 : t195 = true
    · subst c5
      have H1 : ((impl_isMatrix.f k l1).bind fun t196 => (impl_Multiply.j0 k l0 l1 (!t196))) = some (r1, r2) := by rw [if_pos rfl] at H; exact H
      clear H
      have H := H1
      clear H1
      replace H := Option.bind_eq_some_iff.mp H
      obtain ⟨t196, A60, H⟩ := H
      replace H : (impl_Multiply.j0 k l0 l1 (!t196)) = some (r1, r2) := H
      have A6 := Aside0.mk A60
      clear A60
      have H' := Aside0.mk H
      clear H
      go_wp2_with (first | ((with_reducible refine gate_callee (f := 38) rfl ?_); refine goesL_ (some 9) rfl rfl Tryd.func38 (by kernel_rfl) rfl #[.slice A0 l0.length c0] rfl (by (try simp only [List.map_toArray, List.map_cons, List.map_nil]); first | done | rfl | (simp only [List.length_drop, List.length_take]; rfl)) ?_; (with_reducible refine (impl_isMatrix.calls k _ _ l0 true _ ?side1 ?side2 ?side3 A4.out).mono ?_); (case side1 => exact TabOK.below HT.out (by repeat (first | (with_reducible first | exact HB.out | apply below_alloc | apply pw_below_drewN | apply below_drew1) | exact HB.out))); (case side2 => repeat (first | exact (Kd.C_below HR0.out HB.out) | (with_reducible refine Kd.C_alloc ?_ _) | (with_reducible refine Kd.C_drewN ?_ _) | (with_reducible refine Kd.C_drew ?_))); (case side3 => exact HC0.out); rintro e w' ⟨rfl, ⟨nd, rfl⟩⟩; refine ⟨_, rfl, ?_⟩) | (go_at_call 38; (with_reducible refine (impl_isMatrix.calls k _ _ l1 t196 _ ?side1 ?side2 ?side3 A6.out).mono ?_); (case side1 => exact TabOK.below HT.out (by repeat (first | (with_reducible first | exact HB.out | apply below_alloc | apply pw_below_drewN | apply below_drew1) | exact HB.out))); (case side2 => repeat (first | exact (Kd.C_below HR1.out (by repeat (first | (with_reducible first | exact HB.out | apply below_alloc | apply pw_below_drewN | apply below_drew1) | exact HB.out))) | (with_reducible refine Kd.C_alloc ?_ _) | (with_reducible refine Kd.C_drewN ?_ _) | (with_reducible refine Kd.C_drew ?_))); (case side3 => exact HC1.out); rintro e w' ⟨rfl, ⟨nd, rfl⟩⟩))
      go_meet
      case rel => exact ⟨_, (!t196), (by first | rfl | (simp; done) | (simp [*]; done)), H', ⟨by first | omega | exact Nat.le_refl _⟩, ⟨by repeat (first | (with_reducible first | exact HB.out | apply below_alloc | apply pw_below_drewN | apply below_drew1) | exact HB.out)⟩⟩
    · replace c5 := Bool.eq_false_iff.mpr c5
      subst c5
      have H1 : (impl_Multiply.j0 k l0 l1 true) = some (r1, r2) := by rw [if_neg (show ¬ (false = true) by decide)] at H; exact H
      clear H
      have H := H1
      clear H1
      have H' := Aside0.mk H
      clear H
      go_wp2_with (first | ((with_reducible refine gate_callee (f := 38) rfl ?_); refine goesL_ (some 9) rfl rfl Tryd.func38 (by kernel_rfl) rfl #[.slice A0 l0.length c0] rfl (by (try simp only [List.map_toArray, List.map_cons, List.map_nil]); first | done | rfl | (simp only [List.length_drop, List.length_take]; rfl)) ?_; (with_reducible refine (impl_isMatrix.calls k _ _ l0 false _ ?side1 ?side2 ?side3 A4.out).mono ?_); (case side1 => exact TabOK.below HT.out (by repeat (first | (with_reducible first | exact HB.out | apply below_alloc | apply pw_below_drewN | apply below_drew1) | exact HB.out))); (case side2 => repeat (first | exact (Kd.C_below HR0.out HB.out) | (with_reducible refine Kd.C_alloc ?_ _) | (with_reducible refine Kd.C_drewN ?_ _) | (with_reducible refine Kd.C_drew ?_))); (case side3 => exact HC0.out); rintro e w' ⟨rfl, ⟨nd, rfl⟩⟩; refine ⟨_, rfl, ?_⟩))
      go_meet
      case rel => exact ⟨_, (true), (by first | rfl | (simp; done) | (simp [*]; done)), H', ⟨by first | omega | exact Nat.le_refl _⟩, ⟨by repeat (first | (with_reducible first | exact HB.out | apply below_alloc | apply pw_below_drewN | apply below_drew1) | exact HB.out)⟩⟩
  case rest =>
    clear HC3
    try clear c1
    try clear c2
    try clear p2
    try clear c3
    try clear c5
    obtain ⟨kq, x15_2, rfl, HA, HJ2, HB⟩ := hcut
    cases kq with
    | zero => exact absurd HA.out (by simp [impl_Multiply.j0])
    | succ kj2 =>
      have H := HA.out
      clear HA
      simp only [impl_Multiply.j0] at H
      by_cases c7 : x15_2 = true
      · subst c7
        have H1 : (some (([] : List (List Int)), false)) = some (r1, r2) := by rw [if_pos rfl] at H; exact H
        clear H
        have H := H1
        clear H1
        simp only [Option.some.injEq, Prod.mk.injEq] at H
        obtain ⟨rfl, rfl⟩ := H
        go_wp2
        go_ret2
        exact ⟨_, by first | rfl | (simp [errW_none, errW_some] <;> rfl) | (simp [*, errW_none, errW_some] <;> rfl), by first | exact Kd.S_nil _ _ _ _ _ | exact Kd.N_nil _ _ _ _ _ | exact Kd.V_nil _ _ _ _ _ | exact Kd.Q_nil _ _ _ _ _ | exact Kd.R_nil _ _ _ _ _, by repeat (first | (with_reducible first | exact HB.out | apply below_alloc | apply pw_below_drewN | apply below_drew1) | exact HB.out)⟩
      · replace c7 := Bool.eq_false_iff.mpr c7
        subst c7
        have H1 : ((impl_rows.f kj2 l0).bind fun t197 => ((impl_rows.f kj2 l1).bind fun t200 => ((reedsolomon_DoorTimes.f kj2 t197 t200).bind fun bt203 => ((impl_rows.f kj2 bt203.1).bind fun t207 => (if bt203.2.isNone = true then (some (t207, true)) else (some (t207, false))))))) = some (r1, r2) := by rw [if_neg (show ¬ (false = true) by decide)] at H; exact H
        clear H
        have H := H1
        clear H1
        replace H := Option.bind_eq_some_iff.mp H
        obtain ⟨t197, A80, H⟩ := H
        replace H : ((impl_rows.f kj2 l1).bind fun t200 => ((reedsolomon_DoorTimes.f kj2 t197 t200).bind fun bt203 => ((impl_rows.f kj2 bt203.1).bind fun t207 => (if bt203.2.isNone = true then (some (t207, true)) else (some (t207, false)))))) = some (r1, r2) := H
        have A8 := Aside0.mk A80
        clear A80
        replace H := Option.bind_eq_some_iff.mp H
        obtain ⟨t200, A90, H⟩ := H
        replace H : ((reedsolomon_DoorTimes.f kj2 t197 t200).bind fun bt203 => ((impl_rows.f kj2 bt203.1).bind fun t207 => (if bt203.2.isNone = true then (some (t207, true)) else (some (t207, false))))) = some (r1, r2) := H
        have A9 := Aside0.mk A90
        clear A90
        replace H := Option.bind_eq_some_iff.mp H
        obtain ⟨⟨t203, t204⟩, A100, H⟩ := H
        replace H : ((impl_rows.f kj2 t203).bind fun t207 => (if t204.isNone = true then (some (t207, true)) else (some (t207, false)))) = some (r1, r2) := H
        have A10 := Aside0.mk A100
        clear A100
        replace H := Option.bind_eq_some_iff.mp H
        obtain ⟨t207, A110, H⟩ := H
        replace H : (if t204.isNone = true then (some (t207, true)) else (some (t207, false))) = some (r1, r2) := H
        have A11 := Aside0.mk A110
        clear A110
        rcases t204 with _ | q210
        · have H1 : (some (t207, true)) = some (r1, r2) := by rw [if_pos (show (none : Option Int).isNone = true by rfl)] at H; exact H
          clear H
          have H := H1
          clear H1
          try simp only [errW_none, errW_some]
          simp only [Option.some.injEq, Prod.mk.injEq] at H
          obtain ⟨rfl, rfl⟩ := H
          try go_wp2_with (first | ((with_reducible refine gate_callee (f := 36) rfl ?_); refine goesL_ (some 18) rfl rfl Tryd.func36 (by kernel_rfl) rfl #[.slice A0 l0.length c0] rfl (by (try simp only [List.map_toArray, List.map_cons, List.map_nil]); first | done | rfl | (simp only [List.length_drop, List.length_take]; rfl)) ?_; (with_reducible refine (impl_rows.calls kj2 _ _ l0 t197 _ ?side1 ?side2 A8.out).mono ?_); (case side1 => repeat (first | exact (Kd.C_below HR0.out HB.out) | (with_reducible refine Kd.C_alloc ?_ _) | (with_reducible refine Kd.C_drewN ?_ _) | (with_reducible refine Kd.C_drew ?_))); (case side2 => exact HC0.out); rintro e w12 ⟨v198, rfl, ho0, hb⟩; refine ⟨_, rfl, ?_⟩; have n0_ := Aside0.mk (Kd.S_lower ho0 (below_size (by repeat (first | (with_reducible first | exact HB.out | apply below_alloc | apply pw_below_drewN | apply below_drew1) | exact HB.out)))); have n1_ := Aside0.mk (below_step (by repeat (first | (with_reducible first | exact HB.out | apply below_alloc | apply pw_below_drewN | apply below_drew1) | exact HB.out)) hb); clear HB; have HO199 := n0_; have HB := n1_; clear n0_ n1_; (try clear hb); (try clear hb2); (try clear hk); (try clear hi); (try clear ho0)) | ((with_reducible refine gate_callee (f := 36) rfl ?_); refine goesL_ (some 20) rfl rfl Tryd.func36 (by kernel_rfl) rfl #[.slice A1 l1.length c1] rfl (by (try simp only [List.map_toArray, List.map_cons, List.map_nil]); first | done | rfl | (simp only [List.length_drop, List.length_take]; rfl)) ?_; (with_reducible refine (impl_rows.calls kj2 _ _ l1 t200 _ ?side1 ?side2 A9.out).mono ?_); (case side1 => repeat (first | exact (Kd.C_below HR1.out HB.out) | (with_reducible refine Kd.C_alloc ?_ _) | (with_reducible refine Kd.C_drewN ?_ _) | (with_reducible refine Kd.C_drew ?_))); (case side2 => exact HC1.out); rintro e w13 ⟨v201, rfl, ho0, hb⟩; refine ⟨_, rfl, ?_⟩; have n0_ := Aside0.mk (Kd.S_elder' (by (with_reducible repeat (first | apply Kd.S_alloc | apply Kd.S_drewN | apply Kd.S_drew)); exact HO199.out) (Kd.S_base ho0) hb); have n1_ := Aside0.mk (Kd.S_lower (Kd.S_new' ho0 (Kd.S_lt (by (with_reducible repeat (first | apply Kd.S_alloc | apply Kd.S_drewN | apply Kd.S_drew)); exact HO199.out))) (below_size (by repeat (first | (with_reducible first | exact HB.out | apply below_alloc | apply pw_below_drewN | apply below_drew1) | exact HB.out)))); have n2_ := Aside0.mk (below_step (by repeat (first | (with_reducible first | exact HB.out | apply below_alloc | apply pw_below_drewN | apply below_drew1) | exact HB.out)) hb); clear HO199; clear HB; have HO199 := n0_; have HO202 := n1_; have HB := n2_; clear n0_ n1_ n2_; (try clear hb); (try clear hb2); (try clear hk); (try clear hi); (try clear ho0); obtain ⟨Ao14, co14, eo14⟩ := Kd.S_slice HO199.out; subst eo14; obtain ⟨Ao15, co15, eo15⟩ := Kd.S_slice HO202.out; subst eo15) | ((with_reducible refine gate_callee (f := 39) rfl ?_); refine goesL_ (some 21) rfl rfl Tryd.func39 (by kernel_rfl) rfl #[.slice Ao14 t197.length co14, .slice Ao15 t200.length co15] rfl (by (try simp only [List.map_toArray, List.map_cons, List.map_nil]); first | done | rfl | (simp only [List.length_drop, List.length_take]; rfl)) ?_; (with_reducible refine (reedsolomon_DoorTimes.calls kj2 _ _ t197 _ _ t200 t203 none _ ?side1 ?side2 ?side3 ?side4 ?side5 A10.out).mono ?_); (case side1 => exact TabOK.below HT.out (by repeat (first | (with_reducible first | exact HB.out | apply below_alloc | apply pw_below_drewN | apply below_drew1) | exact HB.out))); (case side2 => repeat (first | exact (Kd.S_reads' HO199.out).2.2 | (with_reducible refine Kd.C_alloc ?_ _) | (with_reducible refine Kd.C_drewN ?_ _) | (with_reducible refine Kd.C_drew ?_))); (case side3 => exact (Kd.S_reads' HO199.out).2.1); (case side4 => repeat (first | exact (Kd.S_reads' HO202.out).2.2 | (with_reducible refine Kd.C_alloc ?_ _) | (with_reducible refine Kd.C_drewN ?_ _) | (with_reducible refine Kd.C_drew ?_))); (case side5 => exact (Kd.S_reads' HO202.out).2.1); rintro e w16 ⟨Tt204, Xt204, v205, rfl, ho0, hb⟩; refine ⟨_, rfl, ?_⟩; have n0_ := Aside0.mk (Kd.S_elder' (by (with_reducible repeat (first | apply Kd.S_alloc | apply Kd.S_drewN | apply Kd.S_drew)); exact HO199.out) (Kd.S_base ho0) hb); have n1_ := Aside0.mk (Kd.S_elder' (by (with_reducible repeat (first | apply Kd.S_alloc | apply Kd.S_drewN | apply Kd.S_drew)); exact HO202.out) (Kd.S_base ho0) hb); have n2_ := Aside0.mk (Kd.S_lower (Kd.S_new' (Kd.S_new' ho0 (Kd.S_lt (by (with_reducible repeat (first | apply Kd.S_alloc | apply Kd.S_drewN | apply Kd.S_drew)); exact HO199.out))) (Kd.S_lt (by (with_reducible repeat (first | apply Kd.S_alloc | apply Kd.S_drewN | apply Kd.S_drew)); exact HO202.out))) (below_size (by repeat (first | (with_reducible first | exact HB.out | apply below_alloc | apply pw_below_drewN | apply below_drew1) | exact HB.out)))); have n3_ := Aside0.mk (below_step (by repeat (first | (with_reducible first | exact HB.out | apply below_alloc | apply pw_below_drewN | apply below_drew1) | exact HB.out)) hb); clear HO199; clear HO202; clear HB; have HO199 := n0_; have HO202 := n1_; have HO206 := n2_; have HB := n3_; clear n0_ n1_ n2_ n3_; (try clear hb); (try clear hb2); (try clear hk); (try clear hi); (try clear ho0); (try simp only [errW_none, errW_some])))
          have n0_ := Aside0.mk (Kd.S_drew HO199.out)
          have n1_ := Aside0.mk (Kd.S_drew HO202.out)
          have n2_ := Aside0.mk (Kd.S_drew HO206.out)
          have n3_ := Aside0.mk (below_drew1 HB.out)
          clear HO199
          clear HO202
          clear HO206
          clear HB
          have HO199 := n0_
          have HO202 := n1_
          have HO206 := n2_
          have HB := n3_
          clear n0_ n1_ n2_ n3_
          obtain ⟨Ao18, co18, eo18⟩ := Kd.S_slice HO206.out
          (first | subst eo18 | (injection eo18 with f1_ f2_ f3_; have f4_ := f1_.symm; have f5_ := f3_.symm; clear f1_ f2_ f3_; subst f4_; subst f5_))
          refine start_ (n := 6) (S := fun w' => True) (ds := []) #[false, false, false, false, false, false] (by kernel_rfl) rfl rfl trivial (fun hHeld => ?_)
          generalize w16.drew = w17 at HO199 HO202 HO206 HB hHeld ⊢
          refine pure_ (i := 0) (N := some 24) (v := ?_) (a' := ?_) #[true, false, false, false, false, false] rfl rfl (by kernel_rfl) (fun _ _ _ h => h) (Or.inl ⟨by rfl, ?_⟩) ?_ ?_
          rotate_left
          · intro w'
            go_simp
            with_reducible rfl
          rotate_left
          · simp only [Act.put, List.setIfInBounds_toArray, List.set_cons_zero, List.set_cons_succ, i64_w, i32_w]
            rfl
          refine pure_ (i := 2) (N := some 26) (v := ?_) (a' := ?_) #[true, false, true, false, false, false] rfl rfl (by kernel_rfl) (fun _ _ _ h => h) (Or.inl ⟨by rfl, ?_⟩) ?_ ?_
          rotate_left
          · intro w'
            go_simp
            with_reducible rfl
          rotate_left
          · simp only [Act.put, List.setIfInBounds_toArray, List.set_cons_zero, List.set_cons_succ, i64_w, i32_w]
            rfl
          refine pure_ (i := 3) (N := some 27) (v := ?_) (a' := ?_) #[true, false, true, true, false, false] rfl rfl (by kernel_rfl) (fun _ _ _ h => h) (Or.inl ⟨by rfl, ?_⟩) ?_ ?_
          rotate_left
          · intro w'
            go_simp
            with_reducible rfl
          rotate_left
          · simp only [Act.put, List.setIfInBounds_toArray, List.set_cons_zero, List.set_cons_succ, i64_w, i32_w]
            rfl
          refine one_ (i := 1) (N := some 25) #[true, true, true, true, false, false] rfl rfl (by kernel_rfl) (by decide) (fun K hK => ?_)
          refine goes_ Tryd.func36 (by kernel_rfl) rfl #[.slice Ao18 t203.length co18] (by rfl) rfl rfl (by (try simp only [List.map_toArray, List.map_cons, List.map_nil]); first | done | rfl | (simp only [List.length_drop, List.length_take]; rfl)) ?_
          with_reducible refine (impl_rows.calls kj2 _ _ t203 t207 _ ?side1 ?side2 A11.out).mono ?_
          (case side1 => repeat (first | exact (Kd.S_reads' HO206.out).2.2 | (with_reducible refine Kd.C_alloc ?_ _) | (with_reducible refine Kd.C_drewN ?_ _) | (with_reducible refine Kd.C_drew ?_)))
          (case side2 => exact (Kd.S_reads' HO206.out).2.1)
          rintro e w19 ⟨v208, rfl, ho0, hb⟩
          refine ⟨_, rfl, ?_⟩
          have n0_ := Aside0.mk (Kd.S_elder' (by (with_reducible repeat (first | apply Kd.S_alloc | apply Kd.S_drewN | apply Kd.S_drew)); exact HO199.out) (Kd.S_base ho0) hb)
          have n1_ := Aside0.mk (Kd.S_elder' (by (with_reducible repeat (first | apply Kd.S_alloc | apply Kd.S_drewN | apply Kd.S_drew)); exact HO202.out) (Kd.S_base ho0) hb)
          have n2_ := Aside0.mk (Kd.S_elder' (by (with_reducible repeat (first | apply Kd.S_alloc | apply Kd.S_drewN | apply Kd.S_drew)); exact HO206.out) (Kd.S_base ho0) hb)
          have n3_ := Aside0.mk (Kd.S_lower (Kd.S_new' (Kd.S_new' (Kd.S_new' ho0 (Kd.S_lt (by (with_reducible repeat (first | apply Kd.S_alloc | apply Kd.S_drewN | apply Kd.S_drew)); exact HO199.out))) (Kd.S_lt (by (with_reducible repeat (first | apply Kd.S_alloc | apply Kd.S_drewN | apply Kd.S_drew)); exact HO202.out))) (Kd.S_lt (by (with_reducible repeat (first | apply Kd.S_alloc | apply Kd.S_drewN | apply Kd.S_drew)); exact HO206.out))) (below_size (by repeat (first | (with_reducible first | exact HB.out | apply below_alloc | apply pw_below_drewN | apply below_drew1) | exact HB.out))))
          have n4_ := Aside0.mk (below_step (by repeat (first | (with_reducible first | exact HB.out | apply below_alloc | apply pw_below_drewN | apply below_drew1) | exact HB.out)) hb)
          clear HO199
          clear HO202
          clear HO206
          clear HB
          have HO199 := n0_
          have HO202 := n1_
          have HO206 := n2_
          have HO209 := n3_
          have HB := n4_
          clear n0_ n1_ n2_ n3_ n4_
          (try clear hb)
          (try clear hb2)
          (try clear hk)
          (try clear hi)
          (try clear ho0)
          refine hK.out _ _ trivial (fun hHeld => ?_)
          clear hK K
          refine norm_ (a' := ?_) ?_ ?_
          rotate_left
          · show Act.put _ (some 25) _ = _
            simp only [Act.put, List.setIfInBounds_toArray, List.set_cons_zero, List.set_cons_succ, i64_w, i32_w]
            rfl
          refine pure_ (i := 4) (N := some 4) (v := ?_) (a' := ?_) #[true, true, true, true, true, false] rfl rfl (by kernel_rfl) (fun _ _ _ h => h) (Or.inl ⟨by rfl, ?_⟩) ?_ ?_
          rotate_left
          · intro w'
            go_simp
            with_reducible rfl
          rotate_left
          · simp only [Act.put, List.setIfInBounds_toArray, List.set_cons_zero, List.set_cons_succ, i64_w, i32_w]
            rfl
          refine pure_ (i := 5) (N := some 5) (v := ?_) (a' := ?_) #[true, true, true, true, true, true] rfl rfl (by kernel_rfl) (fun _ _ _ h => h) (Or.inl ⟨by rfl, ?_⟩) ?_ ?_
          rotate_left
          · intro w'
            go_simp
            with_reducible rfl
          rotate_left
          · simp only [Act.put, List.setIfInBounds_toArray, List.set_cons_zero, List.set_cons_succ, i64_w, i32_w]
            rfl
          refine done_ (by kernel_rfl) ?_
          try go_wp2
          go_ret2
          exact ⟨_, by first | rfl | (simp [errW_none, errW_some] <;> rfl) | (simp [*, errW_none, errW_some] <;> rfl), by (with_reducible repeat (first | apply Kd.S_alloc | apply Kd.S_drewN | apply Kd.S_drew)); exact Kd.S_mono HO209.out (fun _ hk => trivial), by repeat (first | (with_reducible first | exact HB.out | apply below_alloc | apply pw_below_drewN | apply below_drew1) | exact HB.out)⟩
        · have H1 : (some (t207, false)) = some (r1, r2) := by rw [if_neg (show ¬ (some q210).isNone = true by simp)] at H; exact H
          clear H
          have H := H1
          clear H1
          try simp only [errW_none, errW_some]
          simp only [Option.some.injEq, Prod.mk.injEq] at H
          obtain ⟨rfl, rfl⟩ := H
          try go_wp2_with (first | ((with_reducible refine gate_callee (f := 36) rfl ?_); refine goesL_ (some 18) rfl rfl Tryd.func36 (by kernel_rfl) rfl #[.slice A0 l0.length c0] rfl (by (try simp only [List.map_toArray, List.map_cons, List.map_nil]); first | done | rfl | (simp only [List.length_drop, List.length_take]; rfl)) ?_; (with_reducible refine (impl_rows.calls kj2 _ _ l0 t197 _ ?side1 ?side2 A8.out).mono ?_); (case side1 => repeat (first | exact (Kd.C_below HR0.out HB.out) | (with_reducible refine Kd.C_alloc ?_ _) | (with_reducible refine Kd.C_drewN ?_ _) | (with_reducible refine Kd.C_drew ?_))); (case side2 => exact HC0.out); rintro e w20 ⟨v198, rfl, ho0, hb⟩; refine ⟨_, rfl, ?_⟩; have n0_ := Aside0.mk (Kd.S_lower ho0 (below_size (by repeat (first | (with_reducible first | exact HB.out | apply below_alloc | apply pw_below_drewN | apply below_drew1) | exact HB.out)))); have n1_ := Aside0.mk (below_step (by repeat (first | (with_reducible first | exact HB.out | apply below_alloc | apply pw_below_drewN | apply below_drew1) | exact HB.out)) hb); clear HB; have HO199 := n0_; have HB := n1_; clear n0_ n1_; (try clear hb); (try clear hb2); (try clear hk); (try clear hi); (try clear ho0)) | ((with_reducible refine gate_callee (f := 36) rfl ?_); refine goesL_ (some 20) rfl rfl Tryd.func36 (by kernel_rfl) rfl #[.slice A1 l1.length c1] rfl (by (try simp only [List.map_toArray, List.map_cons, List.map_nil]); first | done | rfl | (simp only [List.length_drop, List.length_take]; rfl)) ?_; (with_reducible refine (impl_rows.calls kj2 _ _ l1 t200 _ ?side1 ?side2 A9.out).mono ?_); (case side1 => repeat (first | exact (Kd.C_below HR1.out HB.out) | (with_reducible refine Kd.C_alloc ?_ _) | (with_reducible refine Kd.C_drewN ?_ _) | (with_reducible refine Kd.C_drew ?_))); (case side2 => exact HC1.out); rintro e w21 ⟨v201, rfl, ho0, hb⟩; refine ⟨_, rfl, ?_⟩; have n0_ := Aside0.mk (Kd.S_elder' (by (with_reducible repeat (first | apply Kd.S_alloc | apply Kd.S_drewN | apply Kd.S_drew)); exact HO199.out) (Kd.S_base ho0) hb); have n1_ := Aside0.mk (Kd.S_lower (Kd.S_new' ho0 (Kd.S_lt (by (with_reducible repeat (first | apply Kd.S_alloc | apply Kd.S_drewN | apply Kd.S_drew)); exact HO199.out))) (below_size (by repeat (first | (with_reducible first | exact HB.out | apply below_alloc | apply pw_below_drewN | apply below_drew1) | exact HB.out)))); have n2_ := Aside0.mk (below_step (by repeat (first | (with_reducible first | exact HB.out | apply below_alloc | apply pw_below_drewN | apply below_drew1) | exact HB.out)) hb); clear HO199; clear HB; have HO199 := n0_; have HO202 := n1_; have HB := n2_; clear n0_ n1_ n2_; (try clear hb); (try clear hb2); (try clear hk); (try clear hi); (try clear ho0); obtain ⟨Ao22, co22, eo22⟩ := Kd.S_slice HO199.out; subst eo22; obtain ⟨Ao23, co23, eo23⟩ := Kd.S_slice HO202.out; subst eo23) | ((with_reducible refine gate_callee (f := 39) rfl ?_); refine goesL_ (some 21) rfl rfl Tryd.func39 (by kernel_rfl) rfl #[.slice Ao22 t197.length co22, .slice Ao23 t200.length co23] rfl (by (try simp only [List.map_toArray, List.map_cons, List.map_nil]); first | done | rfl | (simp only [List.length_drop, List.length_take]; rfl)) ?_; (with_reducible refine (reedsolomon_DoorTimes.calls kj2 _ _ t197 _ _ t200 t203 (some q210) _ ?side1 ?side2 ?side3 ?side4 ?side5 A10.out).mono ?_); (case side1 => exact TabOK.below HT.out (by repeat (first | (with_reducible first | exact HB.out | apply below_alloc | apply pw_below_drewN | apply below_drew1) | exact HB.out))); (case side2 => repeat (first | exact (Kd.S_reads' HO199.out).2.2 | (with_reducible refine Kd.C_alloc ?_ _) | (with_reducible refine Kd.C_drewN ?_ _) | (with_reducible refine Kd.C_drew ?_))); (case side3 => exact (Kd.S_reads' HO199.out).2.1); (case side4 => repeat (first | exact (Kd.S_reads' HO202.out).2.2 | (with_reducible refine Kd.C_alloc ?_ _) | (with_reducible refine Kd.C_drewN ?_ _) | (with_reducible refine Kd.C_drew ?_))); (case side5 => exact (Kd.S_reads' HO202.out).2.1); rintro e w24 ⟨Tt204, Xt204, v205, rfl, ho0, hb⟩; refine ⟨_, rfl, ?_⟩; have n0_ := Aside0.mk (Kd.S_elder' (by (with_reducible repeat (first | apply Kd.S_alloc | apply Kd.S_drewN | apply Kd.S_drew)); exact HO199.out) (Kd.S_base ho0) hb); have n1_ := Aside0.mk (Kd.S_elder' (by (with_reducible repeat (first | apply Kd.S_alloc | apply Kd.S_drewN | apply Kd.S_drew)); exact HO202.out) (Kd.S_base ho0) hb); have n2_ := Aside0.mk (Kd.S_lower (Kd.S_new' (Kd.S_new' ho0 (Kd.S_lt (by (with_reducible repeat (first | apply Kd.S_alloc | apply Kd.S_drewN | apply Kd.S_drew)); exact HO199.out))) (Kd.S_lt (by (with_reducible repeat (first | apply Kd.S_alloc | apply Kd.S_drewN | apply Kd.S_drew)); exact HO202.out))) (below_size (by repeat (first | (with_reducible first | exact HB.out | apply below_alloc | apply pw_below_drewN | apply below_drew1) | exact HB.out)))); have n3_ := Aside0.mk (below_step (by repeat (first | (with_reducible first | exact HB.out | apply below_alloc | apply pw_below_drewN | apply below_drew1) | exact HB.out)) hb); clear HO199; clear HO202; clear HB; have HO199 := n0_; have HO202 := n1_; have HO206 := n2_; have HB := n3_; clear n0_ n1_ n2_ n3_; (try clear hb); (try clear hb2); (try clear hk); (try clear hi); (try clear ho0); (try simp only [errW_none, errW_some])))
          have n0_ := Aside0.mk (Kd.S_drew HO199.out)
          have n1_ := Aside0.mk (Kd.S_drew HO202.out)
          have n2_ := Aside0.mk (Kd.S_drew HO206.out)
          have n3_ := Aside0.mk (below_drew1 HB.out)
          clear HO199
          clear HO202
          clear HO206
          clear HB
          have HO199 := n0_
          have HO202 := n1_
          have HO206 := n2_
          have HB := n3_
          clear n0_ n1_ n2_ n3_
          obtain ⟨Ao26, co26, eo26⟩ := Kd.S_slice HO206.out
          (first | subst eo26 | (injection eo26 with f1_ f2_ f3_; have f4_ := f1_.symm; have f5_ := f3_.symm; clear f1_ f2_ f3_; subst f4_; subst f5_))
          refine start_ (n := 6) (S := fun w' => True) (ds := []) #[false, false, false, false, false, false] (by kernel_rfl) rfl rfl trivial (fun hHeld => ?_)
          generalize w24.drew = w25 at HO199 HO202 HO206 HB hHeld ⊢
          refine pure_ (i := 0) (N := some 24) (v := ?_) (a' := ?_) #[true, false, false, false, false, false] rfl rfl (by kernel_rfl) (fun _ _ _ h => h) (Or.inl ⟨by rfl, ?_⟩) ?_ ?_
          rotate_left
          · intro w'
            go_simp
            with_reducible rfl
          rotate_left
          · simp only [Act.put, List.setIfInBounds_toArray, List.set_cons_zero, List.set_cons_succ, i64_w, i32_w]
            rfl
          refine pure_ (i := 2) (N := some 26) (v := ?_) (a' := ?_) #[true, false, true, false, false, false] rfl rfl (by kernel_rfl) (fun _ _ _ h => h) (Or.inl ⟨by rfl, ?_⟩) ?_ ?_
          rotate_left
          · intro w'
            go_simp
            with_reducible rfl
          rotate_left
          · simp only [Act.put, List.setIfInBounds_toArray, List.set_cons_zero, List.set_cons_succ, i64_w, i32_w]
            rfl
          refine pure_ (i := 3) (N := some 27) (v := ?_) (a' := ?_) #[true, false, true, true, false, false] rfl rfl (by kernel_rfl) (fun _ _ _ h => h) (Or.inl ⟨by rfl, ?_⟩) ?_ ?_
          rotate_left
          · intro w'
            go_simp
            with_reducible rfl
          rotate_left
          · simp only [Act.put, List.setIfInBounds_toArray, List.set_cons_zero, List.set_cons_succ, i64_w, i32_w]
            rfl
          refine one_ (i := 1) (N := some 25) #[true, true, true, true, false, false] rfl rfl (by kernel_rfl) (by decide) (fun K hK => ?_)
          refine goes_ Tryd.func36 (by kernel_rfl) rfl #[.slice Ao26 t203.length co26] (by rfl) rfl rfl (by (try simp only [List.map_toArray, List.map_cons, List.map_nil]); first | done | rfl | (simp only [List.length_drop, List.length_take]; rfl)) ?_
          with_reducible refine (impl_rows.calls kj2 _ _ t203 t207 _ ?side1 ?side2 A11.out).mono ?_
          (case side1 => repeat (first | exact (Kd.S_reads' HO206.out).2.2 | (with_reducible refine Kd.C_alloc ?_ _) | (with_reducible refine Kd.C_drewN ?_ _) | (with_reducible refine Kd.C_drew ?_)))
          (case side2 => exact (Kd.S_reads' HO206.out).2.1)
          rintro e w27 ⟨v208, rfl, ho0, hb⟩
          refine ⟨_, rfl, ?_⟩
          have n0_ := Aside0.mk (Kd.S_elder' (by (with_reducible repeat (first | apply Kd.S_alloc | apply Kd.S_drewN | apply Kd.S_drew)); exact HO199.out) (Kd.S_base ho0) hb)
          have n1_ := Aside0.mk (Kd.S_elder' (by (with_reducible repeat (first | apply Kd.S_alloc | apply Kd.S_drewN | apply Kd.S_drew)); exact HO202.out) (Kd.S_base ho0) hb)
          have n2_ := Aside0.mk (Kd.S_elder' (by (with_reducible repeat (first | apply Kd.S_alloc | apply Kd.S_drewN | apply Kd.S_drew)); exact HO206.out) (Kd.S_base ho0) hb)
          have n3_ := Aside0.mk (Kd.S_lower (Kd.S_new' (Kd.S_new' (Kd.S_new' ho0 (Kd.S_lt (by (with_reducible repeat (first | apply Kd.S_alloc | apply Kd.S_drewN | apply Kd.S_drew)); exact HO199.out))) (Kd.S_lt (by (with_reducible repeat (first | apply Kd.S_alloc | apply Kd.S_drewN | apply Kd.S_drew)); exact HO202.out))) (Kd.S_lt (by (with_reducible repeat (first | apply Kd.S_alloc | apply Kd.S_drewN | apply Kd.S_drew)); exact HO206.out))) (below_size (by repeat (first | (with_reducible first | exact HB.out | apply below_alloc | apply pw_below_drewN | apply below_drew1) | exact HB.out))))
          have n4_ := Aside0.mk (below_step (by repeat (first | (with_reducible first | exact HB.out | apply below_alloc | apply pw_below_drewN | apply below_drew1) | exact HB.out)) hb)
          clear HO199
          clear HO202
          clear HO206
          clear HB
          have HO199 := n0_
          have HO202 := n1_
          have HO206 := n2_
          have HO209 := n3_
          have HB := n4_
          clear n0_ n1_ n2_ n3_ n4_
          (try clear hb)
          (try clear hb2)
          (try clear hk)
          (try clear hi)
          (try clear ho0)
          refine hK.out _ _ trivial (fun hHeld => ?_)
          clear hK K
          refine norm_ (a' := ?_) ?_ ?_
          rotate_left
          · show Act.put _ (some 25) _ = _
            simp only [Act.put, List.setIfInBounds_toArray, List.set_cons_zero, List.set_cons_succ, i64_w, i32_w]
            rfl
          refine pure_ (i := 4) (N := some 4) (v := ?_) (a' := ?_) #[true, true, true, true, true, false] rfl rfl (by kernel_rfl) (fun _ _ _ h => h) (Or.inl ⟨by rfl, ?_⟩) ?_ ?_
          rotate_left
          · intro w'
            go_simp
            with_reducible rfl
          rotate_left
          · simp only [Act.put, List.setIfInBounds_toArray, List.set_cons_zero, List.set_cons_succ, i64_w, i32_w]
            rfl
          refine pure_ (i := 5) (N := some 5) (v := ?_) (a' := ?_) #[true, true, true, true, true, true] rfl rfl (by kernel_rfl) (fun _ _ _ h => h) (Or.inl ⟨by rfl, ?_⟩) ?_ ?_
          rotate_left
          · intro w'
            go_simp
            with_reducible rfl
          rotate_left
          · simp only [Act.put, List.setIfInBounds_toArray, List.set_cons_zero, List.set_cons_succ, i64_w, i32_w]
            rfl
          refine done_ (by kernel_rfl) ?_
          try go_wp2
          go_ret2
          exact ⟨_, by first | rfl | (simp [errW_none, errW_some] <;> rfl) | (simp [*, errW_none, errW_some] <;> rfl), by (with_reducible repeat (first | apply Kd.S_alloc | apply Kd.S_drewN | apply Kd.S_drew)); exact Kd.S_mono HO209.out (fun _ hk => trivial), by repeat (first | (with_reducible first | exact HB.out | apply below_alloc | apply pw_below_drewN | apply below_drew1) | exact HB.out)⟩

end Go.Proofs.YtipbhclpeogcmaaDoor.M

namespace Go.Proofs.YtipbhclpeogcmaaDoor.M
open Go.RowKit Go.Proofs.YtipbhclpeogcmaaDoorW.PrintWords Go.Proofs.YtipbhclpeogcmaaDoorW.PrintLast Go.Proofs.YtipbhclpeogcmaaDoorW.PrintMore
attribute [local go_sem] max2_int min2_int max_two min_two max_three min_three max_four min_four   -- for this text's walks alone
set_option linter.unusedVariables false
set_option linter.unusedSimpArgs false

/-! ### spec_Columns: function 23 -/
def spec_Columns.f (l0 : List (List Int)) : Option (Int) := if (l0.length : Int) = 0 then (some 0) else (if 0 < (l0.length : Int) then (some ((rd_L1 l0 0).length : Int)) else (none))
set_option maxHeartbeats 8000000 in
set_option maxRecDepth 100000 in
theorem spec_Columns.calls (A0 : Option Addr) (c0 : Nat) (l0 : List (List Int)) (r : Int) (w : World) (hr0 : Kd.C (Kd.slice 5 (Kd.int .u8)) w A0 l0.length l0) (hc0 : l0.length ≤ c0) (h : spec_Columns.f l0 = some r) :
    Calls Tryd.prog 23 #[.slice A0 l0.length c0] w fun e w' => e = .returned (.int .i64 r) ∧ Drawn0 w w' := by
  have HR0 := Aside0.mk hr0
  have HC0 := Aside0.mk hc0
  clear hr0 hc0
  have H : (if (l0.length : Int) = 0 then (some 0) else (if 0 < (l0.length : Int) then (some ((rd_L1 l0 0).length : Int)) else (none))) = some r := h
  clear h
  by_cases c2 : (l0.length : Int) = 0
  · rw [if_pos c2] at H
    have c2b0 : ((l0.length : Int) == 0) = true := beq_iff_eq.mpr c2
    have c2b1 : ((l0.length : Int) != 0) = false := bne_eq_false_iff_eq.mpr c2
    clear c2
    obtain rfl := Option.some.inj H
    go_enter Tryd.func23, Tryd.ntmps23
    go_wp2
    go_ret
    exact ⟨by first | rfl | (simp; done) | (simp [*]; done), by repeat (first | exact Drawn0.refl _ | apply Drawn0.step)⟩
  · rw [if_neg c2] at H
    have c2b0 : ((l0.length : Int) == 0) = false := beq_eq_false_iff_ne.mpr c2
    have c2b1 : ((l0.length : Int) != 0) = true := bne_iff_ne.mpr c2
    have c2b2 : ¬ (l0 = []) := fun h_ => c2 (by rw [h_]; rfl)
    by_cases c3 : 0 < (l0.length : Int)
    · rw [if_pos c3] at H
      have c3b0 : decide (0 < (l0.length : Int)) = true := decide_eq_true c3
      have c3b1 : decide (0 < l0.length) = true := decide_eq_true (by omega)
      clear c3
      obtain rfl := Option.some.inj H
      have p213 : 0 ≤ (0 : Int) := (by omega)
      have q213 : 0 < (l0.length : Int) := of_decide_eq_true (by first | (with_reducible assumption) | assumption)
      obtain ⟨ad213, A213_0, c213_0, e213, hx213_0, hl213_0, hi213_0⟩ := at_L1 HR0.out 0 p213 q213
      cases e213
      have qi213 : (0 < l0.length) = True := eq_true (by omega)
      (try rw [show ((0 : Int)).toNat = 0 from rfl] at hx213_0)
      (try rw [Addr.add_zero'] at hx213_0)
      have HR213_0 := Aside0.mk hi213_0
      have HC213_0 := Aside0.mk hl213_0
      clear hi213_0 hl213_0
      replace p213 := eq_true p213
      replace q213 := eq_true q213
      go_enter Tryd.func23, Tryd.ntmps23
      go_wp2
      go_ret
      exact ⟨by first | rfl | (simp; done) | (simp [*]; done), by repeat (first | exact Drawn0.refl _ | apply Drawn0.step)⟩
    · rw [if_neg c3] at H
      exact absurd H (by simp)

end Go.Proofs.YtipbhclpeogcmaaDoor.M

namespace Go.Proofs.YtipbhclpeogcmaaDoor.M
open Go.RowKit Go.Proofs.YtipbhclpeogcmaaDoorW.PrintWords Go.Proofs.YtipbhclpeogcmaaDoorW.PrintLast Go.Proofs.YtipbhclpeogcmaaDoorW.PrintMore
attribute [local go_sem] max2_int min2_int max_two min_two max_three min_three max_four min_four   -- for this text's walks alone
set_option linter.unusedVariables false
set_option linter.unusedSimpArgs false

/-! ### spec_Rectangular: function 22 -/
def spec_Rectangular.l0 : Nat → List (List Int) → List (List Int) → Int → Int → Option (Bool)
  | 0, _, _, _, _ => none
  | k + 1, x0, x5, x6, x7 => if x7 < x6 then (if 0 ≤ x7 then (if x7 < (x5.length : Int) then ((spec_Columns.f x0).bind fun t230 => (if ((rd_L1 x5 x7).length : Int) = t230 then (spec_Rectangular.l0 k x0 x5 x6 (wrap64 (x7 + 1))) else (some false))) else (none)) else (none)) else ((spec_Columns.f x0).bind fun t231 => (some (decide (t231 > 0))))
def spec_Rectangular.f (k : Nat) (l0 : List (List Int)) : Option (Bool) := spec_Rectangular.l0 k l0 l0 (l0.length : Int) 0
theorem spec_Rectangular.mono_l : ∀ k, (∀ y0 y1 y2 y3, LeO (spec_Rectangular.l0 k y0 y1 y2 y3) (spec_Rectangular.l0 (k + 1) y0 y1 y2 y3))
  | 0 => fun _ _ _ _ r h => by simp [spec_Rectangular.l0] at h
  | k + 1 => by
    have ih0 := spec_Rectangular.mono_l k
    · intro y0 y1 y2 y3
      unfold spec_Rectangular.l0
      repeat' first
      | (with_reducible exact ih0 _ _ _ _)
      | (with_reducible exact LeO.refl _)
      | (with_reducible exact LeO.none _)
      | (with_reducible refine LeO.ite ?_ ?_)
      | (with_reducible refine LeO.bind ?_ (fun _ => ?_))
      | exact ih0 _ _ _ _
      | exact LeO.none _
      | refine LeO.ite ?_ ?_
      | refine LeO.bind ?_ (fun _ => ?_)
theorem spec_Rectangular.mono : ∀ a0 k, LeO (spec_Rectangular.f k a0) (spec_Rectangular.f (k + 1) a0) := by
  intro a0 k
  have ih0 := spec_Rectangular.mono_l k
  unfold spec_Rectangular.f
  repeat' first
      | (with_reducible exact ih0 _ _ _ _)
      | (with_reducible exact LeO.refl _)
      | (with_reducible exact LeO.none _)
      | (with_reducible refine LeO.ite ?_ ?_)
      | (with_reducible refine LeO.bind ?_ (fun _ => ?_))
      | exact ih0 _ _ _ _
      | exact LeO.none _
      | refine LeO.ite ?_ ?_
      | refine LeO.bind ?_ (fun _ => ?_)
set_option maxHeartbeats 8000000 in
set_option maxRecDepth 100000 in
theorem spec_Rectangular.calls (k : Nat) (A0 : Option Addr) (c0 : Nat) (l0 : List (List Int)) (r : Bool) (w : World) (hr0 : Kd.C (Kd.slice 5 (Kd.int .u8)) w A0 l0.length l0) (hc0 : l0.length ≤ c0) (h : spec_Rectangular.f k l0 = some r) :
    Calls Tryd.prog 22 #[.slice A0 l0.length c0] w fun e w' => e = .returned (.bool r) ∧ Drawn0 w w' := by
  have HR0 := Aside0.mk hr0
  have HC0 := Aside0.mk hc0
  clear hr0 hc0
  have H : (spec_Rectangular.l0 k l0 l0 (l0.length : Int) 0) = some r := h
  clear h
  have H' := Aside0.mk H
  clear H
  go_enter Tryd.func22, Tryd.ntmps22
  go_wp2
  go_loopg [7] k (fun kq v7 w' => ∃ (x7_1 : Int), v7 = .int .i64 x7_1 ∧ Aside0 (spec_Rectangular.l0 kq l0 l0 (l0.length : Int) x7_1 = some r) ∧ Aside0 (kq ≤ k) ∧ Drawn0 w w')
  case atStart => exact ⟨(0), (by first | rfl | (simp; done) | (simp [*]; done)), H', ⟨Nat.le_refl _⟩, by repeat (first | exact Drawn0.refl _ | apply Drawn0.step)⟩
  case round =>
    clear H'
    obtain ⟨x7_1, rfl, HA, HK1, ⟨m1, rfl⟩⟩ := hrel
    cases gk with
    | zero => exact absurd HA.out (by simp [spec_Rectangular.l0])
    | succ k1 =>
      have H := HA.out
      clear HA
      simp only [spec_Rectangular.l0] at H
      by_cases c2 : x7_1 < (l0.length : Int)
      · rw [if_pos c2] at H
        have c2b0 : decide (x7_1 < (l0.length : Int)) = true := decide_eq_true c2
        clear c2
        by_cases c3 : 0 ≤ x7_1
        · rw [if_pos c3] at H
          have c3b0 : decide (0 ≤ x7_1) = true := decide_eq_true c3
          clear c3
          by_cases c4 : x7_1 < (l0.length : Int)
          · rw [if_pos c4] at H
            have c4b0 : decide (x7_1 < (l0.length : Int)) = true := decide_eq_true c4
            clear c4
            replace H := Option.bind_eq_some_iff.mp H
            obtain ⟨t230, A50, H⟩ := H
            replace H : (if ((rd_L1 l0 x7_1).length : Int) = t230 then (spec_Rectangular.l0 k1 l0 l0 (l0.length : Int) (wrap64 (x7_1 + 1))) else (some false)) = some r := H
            have A5 := Aside0.mk A50
            clear A50
            by_cases c6 : ((rd_L1 l0 x7_1).length : Int) = t230
            · rw [if_pos c6] at H
              have c6b0 : (((rd_L1 l0 x7_1).length : Int) == t230) = true := beq_iff_eq.mpr c6
              have c6b1 : (((rd_L1 l0 x7_1).length : Int) != t230) = false := bne_eq_false_iff_eq.mpr c6
              clear c6
              have H' := Aside0.mk H
              clear H
              have p229 : 0 ≤ (x7_1 : Int) := of_decide_eq_true (by first | (with_reducible assumption) | assumption)
              have q229 : x7_1 < (l0.length : Int) := of_decide_eq_true (by first | (with_reducible assumption) | assumption)
              obtain ⟨ad229, A229_0, c229_0, e229, hx229_0, hl229_0, hi229_0⟩ := at_L1 HR0.out x7_1 p229 q229
              cases e229
              have HR229_0 := Aside0.mk hi229_0
              have HC229_0 := Aside0.mk hl229_0
              clear hi229_0 hl229_0
              replace p229 := eq_true p229
              replace q229 := eq_true q229
              go_wp2_with (first | ((with_reducible refine gate_callee (f := 23) rfl ?_); refine goesL_ (some 14) rfl rfl Tryd.func23 (by kernel_rfl) rfl #[.slice (some ad229) l0.length c0] rfl (by (try simp only [List.map_toArray, List.map_cons, List.map_nil]); first | done | rfl | (simp only [List.length_drop, List.length_take]; rfl)) ?_; (with_reducible refine (spec_Columns.calls _ _ l0 t230 _ ?side1 ?side2 A5.out).mono ?_); (case side1 => repeat (first | exact HR0.out | (with_reducible refine Kd.C_alloc ?_ _) | (with_reducible refine Kd.C_drewN ?_ _) | (with_reducible refine Kd.C_drew ?_))); (case side2 => exact HC0.out); rintro e w' ⟨rfl, ⟨nd, rfl⟩⟩; refine ⟨_, rfl, ?_⟩))
              go_roundg k1
              case measure => have := HK1.out; omega
              case rel => exact ⟨(wrap64 (x7_1 + 1)), (by first | rfl | (simp; done) | (simp [*]; done)), H', ⟨by have := HK1.out; omega⟩, by repeat (first | exact Drawn0.refl _ | apply Drawn0.step)⟩
            · rw [if_neg c6] at H
              have c6b0 : (((rd_L1 l0 x7_1).length : Int) == t230) = false := beq_eq_false_iff_ne.mpr c6
              have c6b1 : (((rd_L1 l0 x7_1).length : Int) != t230) = true := bne_iff_ne.mpr c6
              obtain rfl := Option.some.inj H
              have p229 : 0 ≤ (x7_1 : Int) := of_decide_eq_true (by first | (with_reducible assumption) | assumption)
              have q229 : x7_1 < (l0.length : Int) := of_decide_eq_true (by first | (with_reducible assumption) | assumption)
              obtain ⟨ad229, A229_0, c229_0, e229, hx229_0, hl229_0, hi229_0⟩ := at_L1 HR0.out x7_1 p229 q229
              cases e229
              have HR229_0 := Aside0.mk hi229_0
              have HC229_0 := Aside0.mk hl229_0
              clear hi229_0 hl229_0
              replace p229 := eq_true p229
              replace q229 := eq_true q229
              go_wp2_with (first | ((with_reducible refine gate_callee (f := 23) rfl ?_); refine goesL_ (some 14) rfl rfl Tryd.func23 (by kernel_rfl) rfl #[.slice (some ad229) l0.length c0] rfl (by (try simp only [List.map_toArray, List.map_cons, List.map_nil]); first | done | rfl | (simp only [List.length_drop, List.length_take]; rfl)) ?_; (with_reducible refine (spec_Columns.calls _ _ l0 t230 _ ?side1 ?side2 A5.out).mono ?_); (case side1 => repeat (first | exact HR0.out | (with_reducible refine Kd.C_alloc ?_ _) | (with_reducible refine Kd.C_drewN ?_ _) | (with_reducible refine Kd.C_drew ?_))); (case side2 => exact HC0.out); rintro e w' ⟨rfl, ⟨nd, rfl⟩⟩; refine ⟨_, rfl, ?_⟩))
              go_ret
              exact ⟨by first | rfl | (simp; done) | (simp [*]; done), by repeat (first | exact Drawn0.refl _ | apply Drawn0.step)⟩
          · rw [if_neg c4] at H
            exact absurd H (by simp)
        · rw [if_neg c3] at H
          exact absurd H (by simp)
      · rw [if_neg c2] at H
        have c2b0 : decide (x7_1 < (l0.length : Int)) = false := decide_eq_false c2
        clear c2
        replace H := Option.bind_eq_some_iff.mp H
        obtain ⟨t231, A70, H⟩ := H
        replace H : (some (decide (t231 > 0))) = some r := H
        have A7 := Aside0.mk A70
        clear A70
        obtain rfl := Option.some.inj H
        go_wp2_with (first | ((with_reducible refine gate_callee (f := 23) rfl ?_); refine goesL_ (some 18) rfl rfl Tryd.func23 (by kernel_rfl) rfl #[.slice A0 l0.length c0] rfl (by (try simp only [List.map_toArray, List.map_cons, List.map_nil]); first | done | rfl | (simp only [List.length_drop, List.length_take]; rfl)) ?_; (with_reducible refine (spec_Columns.calls _ _ l0 t231 _ ?side1 ?side2 A7.out).mono ?_); (case side1 => repeat (first | exact HR0.out | (with_reducible refine Kd.C_alloc ?_ _) | (with_reducible refine Kd.C_drewN ?_ _) | (with_reducible refine Kd.C_drew ?_))); (case side2 => exact HC0.out); rintro e w' ⟨rfl, ⟨nd, rfl⟩⟩; refine ⟨_, rfl, ?_⟩))
        go_ret
        exact ⟨by first | rfl | (simp; done) | (simp [*]; done), by repeat (first | exact Drawn0.refl _ | apply Drawn0.step)⟩

end Go.Proofs.YtipbhclpeogcmaaDoor.M

namespace Go.Proofs.YtipbhclpeogcmaaDoor.M
open Go.RowKit Go.Proofs.YtipbhclpeogcmaaDoorW.PrintWords Go.Proofs.YtipbhclpeogcmaaDoorW.PrintLast Go.Proofs.YtipbhclpeogcmaaDoorW.PrintMore
attribute [local go_sem] max2_int min2_int max_two min_two max_three min_three max_four min_four   -- for this text's walks alone
set_option linter.unusedVariables false
set_option linter.unusedSimpArgs false

/-! ### spec_Times: function 24 -/
mutual
def spec_Times.l0 : Nat → List (List Int) → List (List Int) → List (List Int) → Int → Int → Option ((List (List Int)))
  | 0, _, _, _, _, _ => none
  | k + 1, x0, x1, x5, x15, x16 => if x16 < x15 then (if 0 ≤ x16 then (if x16 < (x5.length : Int) then (spec_Times.l1 k x0 x1 x5 x16 x15 x16 ((rd_L1 x5 x16).length : Int) 0) else (none)) else (none)) else (some x5)
def spec_Times.l1 : Nat → List (List Int) → List (List Int) → List (List Int) → Int → Int → Int → Int → Int → Option ((List (List Int)))
  | 0, _, _, _, _, _, _, _, _ => none
  | k + 1, x0, x1, x5, x6, x15, x16, x23, x24 => if x24 < x23 then (spec_Times.l2 k x0 x1 x5 x6 x24 x15 x16 x23 x24 (x1.length : Int) 0) else (spec_Times.l0 k x0 x1 x5 x15 (wrap64 (x16 + 1)))
def spec_Times.l2 : Nat → List (List Int) → List (List Int) → List (List Int) → Int → Int → Int → Int → Int → Int → Int → Int → Option ((List (List Int)))
  | 0, _, _, _, _, _, _, _, _, _, _, _ => none
  | k + 1, x0, x1, x5, x6, x7, x15, x16, x23, x24, x28, x29 => if x29 < x28 then (if 0 ≤ x6 then (if x6 < (x5.length : Int) then (if 0 ≤ x7 then (if x7 < ((rd_L1 x5 x6).length : Int) then (if x6 < (x0.length : Int) then (if 0 ≤ x29 then (if x29 < ((rd_L1 x0 x6).length : Int) then (if x29 < (x1.length : Int) then (if x7 < ((rd_L1 x1 x29).length : Int) then ((spec_Mul.f k (rd (rd_L1 x0 x6) x29) (rd (rd_L1 x1 x29) x7)).bind fun t225 => (spec_Times.l2 k x0 x1 (x5.set (x6 : Int).toNat ((rd_L1 x5 x6).set (x7 : Int).toNat (Go.bits .xor .u8 (rd (rd_L1 x5 x6) x7) t225))) x6 x7 x15 x16 x23 x24 x28 (wrap64 (x29 + 1)))) else (none)) else (none)) else (none)) else (none)) else (none)) else (none)) else (none)) else (none)) else (none)) else (spec_Times.l1 k x0 x1 x5 x6 x15 x16 x23 (wrap64 (x24 + 1)))
end
def spec_Times.f (k : Nat) (l0 : List (List Int)) (l1 : List (List Int)) : Option ((List (List Int))) := (spec_Columns.f l1).bind fun t214 => ((spec_Zeros.f k (l0.length : Int) t214).bind fun t215 => (spec_Times.l0 k l0 l1 t215 (l0.length : Int) 0))
theorem spec_Times.mono_l : ∀ k, (∀ y0 y1 y2 y3 y4, LeO (spec_Times.l0 k y0 y1 y2 y3 y4) (spec_Times.l0 (k + 1) y0 y1 y2 y3 y4)) ∧ (∀ y0 y1 y2 y3 y4 y5 y6 y7, LeO (spec_Times.l1 k y0 y1 y2 y3 y4 y5 y6 y7) (spec_Times.l1 (k + 1) y0 y1 y2 y3 y4 y5 y6 y7)) ∧ (∀ y0 y1 y2 y3 y4 y5 y6 y7 y8 y9 y10, LeO (spec_Times.l2 k y0 y1 y2 y3 y4 y5 y6 y7 y8 y9 y10) (spec_Times.l2 (k + 1) y0 y1 y2 y3 y4 y5 y6 y7 y8 y9 y10))
  | 0 => ⟨fun _ _ _ _ _ r h => by simp [spec_Times.l0] at h, fun _ _ _ _ _ _ _ _ r h => by simp [spec_Times.l1] at h, fun _ _ _ _ _ _ _ _ _ _ _ r h => by simp [spec_Times.l2] at h⟩
  | k + 1 => by
    obtain ⟨ih0, ih1, ih2⟩ := spec_Times.mono_l k
    refine ⟨?_, ?_, ?_⟩
    · intro y0 y1 y2 y3 y4
      unfold spec_Times.l0
      repeat' first
      | (with_reducible exact ih0 _ _ _ _ _)
      | (with_reducible exact ih1 _ _ _ _ _ _ _ _)
      | (with_reducible exact ih2 _ _ _ _ _ _ _ _ _ _ _)
      | (with_reducible exact spec_Mul.mono _ _ _)
      | (with_reducible exact spec_Zeros.mono _ _ _)
      | (with_reducible exact LeO.refl _)
      | (with_reducible exact LeO.none _)
      | (with_reducible refine LeO.ite ?_ ?_)
      | (with_reducible refine LeO.bind ?_ (fun _ => ?_))
      | exact ih0 _ _ _ _ _
      | exact ih1 _ _ _ _ _ _ _ _
      | exact ih2 _ _ _ _ _ _ _ _ _ _ _
      | exact spec_Mul.mono _ _ _
      | exact spec_Zeros.mono _ _ _
      | exact LeO.none _
      | refine LeO.ite ?_ ?_
      | refine LeO.bind ?_ (fun _ => ?_)
    · intro y0 y1 y2 y3 y4 y5 y6 y7
      unfold spec_Times.l1
      repeat' first
      | (with_reducible exact ih0 _ _ _ _ _)
      | (with_reducible exact ih1 _ _ _ _ _ _ _ _)
      | (with_reducible exact ih2 _ _ _ _ _ _ _ _ _ _ _)
      | (with_reducible exact spec_Mul.mono _ _ _)
      | (with_reducible exact spec_Zeros.mono _ _ _)
      | (with_reducible exact LeO.refl _)
      | (with_reducible exact LeO.none _)
      | (with_reducible refine LeO.ite ?_ ?_)
      | (with_reducible refine LeO.bind ?_ (fun _ => ?_))
      | exact ih0 _ _ _ _ _
      | exact ih1 _ _ _ _ _ _ _ _
      | exact ih2 _ _ _ _ _ _ _ _ _ _ _
      | exact spec_Mul.mono _ _ _
      | exact spec_Zeros.mono _ _ _
      | exact LeO.none _
      | refine LeO.ite ?_ ?_
      | refine LeO.bind ?_ (fun _ => ?_)
    · intro y0 y1 y2 y3 y4 y5 y6 y7 y8 y9 y10
      unfold spec_Times.l2
      repeat' first
      | (with_reducible exact ih0 _ _ _ _ _)
      | (with_reducible exact ih1 _ _ _ _ _ _ _ _)
      | (with_reducible exact ih2 _ _ _ _ _ _ _ _ _ _ _)
      | (with_reducible exact spec_Mul.mono _ _ _)
      | (with_reducible exact spec_Zeros.mono _ _ _)
      | (with_reducible exact LeO.refl _)
      | (with_reducible exact LeO.none _)
      | (with_reducible refine LeO.ite ?_ ?_)
      | (with_reducible refine LeO.bind ?_ (fun _ => ?_))
      | exact ih0 _ _ _ _ _
      | exact ih1 _ _ _ _ _ _ _ _
      | exact ih2 _ _ _ _ _ _ _ _ _ _ _
      | exact spec_Mul.mono _ _ _
      | exact spec_Zeros.mono _ _ _
      | exact LeO.none _
      | refine LeO.ite ?_ ?_
      | refine LeO.bind ?_ (fun _ => ?_)
theorem spec_Times.mono : ∀ a0 a1 k, LeO (spec_Times.f k a0 a1) (spec_Times.f (k + 1) a0 a1) := by
  intro a0 a1 k
  obtain ⟨ih0, ih1, ih2⟩ := spec_Times.mono_l k
  unfold spec_Times.f
  repeat' first
      | (with_reducible exact ih0 _ _ _ _ _)
      | (with_reducible exact ih1 _ _ _ _ _ _ _ _)
      | (with_reducible exact ih2 _ _ _ _ _ _ _ _ _ _ _)
      | (with_reducible exact spec_Mul.mono _ _ _)
      | (with_reducible exact spec_Zeros.mono _ _ _)
      | (with_reducible exact LeO.refl _)
      | (with_reducible exact LeO.none _)
      | (with_reducible refine LeO.ite ?_ ?_)
      | (with_reducible refine LeO.bind ?_ (fun _ => ?_))
      | exact ih0 _ _ _ _ _
      | exact ih1 _ _ _ _ _ _ _ _
      | exact ih2 _ _ _ _ _ _ _ _ _ _ _
      | exact spec_Mul.mono _ _ _
      | exact spec_Zeros.mono _ _ _
      | exact LeO.none _
      | refine LeO.ite ?_ ?_
      | refine LeO.bind ?_ (fun _ => ?_)
def spec_Times.T11 : Bool × List (List Nat × List Nat) := (true, [([], []), ([], []), ([0, 1], [0, 1]), ([2], [2]), ([], []), ([3, 4], [3, 4]), ([5], [5]), ([], []), ([], []), ([7, 8], [7, 8]), ([9], [9]), ([], []), ([10, 11], [10, 11]), ([12], [12]), ([], []), ([], []), ([14, 15], [14, 15]), ([16], [16]), ([], []), ([17, 18], [17, 18]), ([19], [19]), ([13, 20], [13, 20]), ([6, 21], [6, 21]), ([3, 4, 0, 1, 2, 3, 4, 5, 6, 7, 8, 9, 10, 11, 12, 13, 14, 15, 16, 17, 18, 19, 20, 21, 22], [3, 4]), ([23, 22, 21, 0, 1, 2, 3, 4, 5, 6, 7, 8, 9, 10, 11, 12, 13, 14, 15, 16, 17, 18, 19, 20, 21, 22], [22, 23])])
def spec_Times.B11 : List Nat := [0, 0, 3, 7, 0, 31, 63, 0, 0, 384, 896, 0, 3968, 8064, 0, 0, 49152, 114688, 0, 507904, 1032192, 2097024, 4194303, 8388607, 16777215]
theorem spec_Times.tab11 : rtab .any (opsOf Tryd.f24 11) = spec_Times.T11 := by kernel_rfl
theorem spec_Times.bits11 : waitsOk spec_Times.T11.2 spec_Times.B11 = true := by kernel_rfl
set_option maxHeartbeats 8000000 in
set_option maxRecDepth 100000 in
theorem spec_Times.calls (k : Nat) (A0 : Option Addr) (c0 : Nat) (l0 : List (List Int)) (A1 : Option Addr) (c1 : Nat) (l1 : List (List Int)) (r : List (List Int)) (w : World) (hr0 : Kd.C (Kd.slice 5 (Kd.int .u8)) w A0 l0.length l0) (hc0 : l0.length ≤ c0) (hr1 : Kd.C (Kd.slice 5 (Kd.int .u8)) w A1 l1.length l1) (hc1 : l1.length ≤ c1) (h : spec_Times.f k l0 l1 = some r) :
    Calls Tryd.prog 24 #[.slice A0 l0.length c0, .slice A1 l1.length c1] w fun e w' => ∃ v0_ : Value, e = .returned (v0_) ∧ Kd.S (Kd.slice 5 (Kd.int .u8)) 22 w' w.heap.size (fun _ => True) v0_ r ∧ Below w.heap.size w w' := by
  have HR0 := Aside0.mk hr0
  have HC0 := Aside0.mk hc0
  clear hr0 hc0
  have HR1 := Aside0.mk hr1
  have HC1 := Aside0.mk hc1
  clear hr1 hc1
  have HB := Aside0.mk (Below.refl w.heap.size w)
  have H : ((spec_Columns.f l1).bind fun t214 => ((spec_Zeros.f k (l0.length : Int) t214).bind fun t215 => (spec_Times.l0 k l0 l1 t215 (l0.length : Int) 0))) = some r := h
  clear h
  replace H := Option.bind_eq_some_iff.mp H
  obtain ⟨t214, A30, H⟩ := H
  replace H : ((spec_Zeros.f k (l0.length : Int) t214).bind fun t215 => (spec_Times.l0 k l0 l1 t215 (l0.length : Int) 0)) = some r := H
  have A3 := Aside0.mk A30
  clear A30
  replace H := Option.bind_eq_some_iff.mp H
  obtain ⟨t215, A40, H⟩ := H
  replace H : (spec_Times.l0 k l0 l1 t215 (l0.length : Int) 0) = some r := H
  have A4 := Aside0.mk A40
  clear A40
  have H' := Aside0.mk H
  clear H
  go_enter Tryd.func24, Tryd.ntmps24
  go_wp2_with (first | ((with_reducible refine gate_callee (f := 23) rfl ?_); refine goesL_ (some 12) rfl rfl Tryd.func23 (by kernel_rfl) rfl #[.slice A1 l1.length c1] rfl (by (try simp only [List.map_toArray, List.map_cons, List.map_nil]); first | done | rfl | (simp only [List.length_drop, List.length_take]; rfl)) ?_; (with_reducible refine (spec_Columns.calls _ _ l1 t214 _ ?side1 ?side2 A3.out).mono ?_); (case side1 => repeat (first | exact HR1.out | (with_reducible refine Kd.C_alloc ?_ _) | (with_reducible refine Kd.C_drewN ?_ _) | (with_reducible refine Kd.C_drew ?_))); (case side2 => exact HC1.out); rintro e w' ⟨rfl, ⟨nd, rfl⟩⟩; refine ⟨_, rfl, ?_⟩) | ((with_reducible refine gate_callee (f := 37) rfl ?_); refine goesL_ (some 13) rfl rfl Tryd.func37 (by kernel_rfl) rfl #[.int .i64 (l0.length : Int), .int .i64 t214] rfl (by (try simp only [List.map_toArray, List.map_cons, List.map_nil]); first | done | rfl | (simp only [List.length_drop, List.length_take]; rfl)) ?_; (with_reducible refine (spec_Zeros.calls k (l0.length : Int) t214 t215 _ A4.out).mono ?_); rintro e w5 ⟨v216, rfl, ho0, hb⟩; refine ⟨_, rfl, ?_⟩; have n0_ := Aside0.mk (Kd.S_lower ho0 (below_size (by repeat (first | (with_reducible first | exact HB.out | apply below_alloc | apply pw_below_drewN | apply below_drew1) | exact HB.out)))); have n1_ := Aside0.mk (below_step (by repeat (first | (with_reducible first | exact HB.out | apply below_alloc | apply pw_below_drewN | apply below_drew1) | exact HB.out)) hb); clear HB; have HO217 := n0_; have HB := n1_; clear n0_ n1_; (try clear hb); (try clear hb2); (try clear hk); (try clear hi); (try clear ho0)))
  go_loopg [16] k (fun kq v16 w' => ∃ (x5_1 : List (List Int)) (x16_1 : Int), v16 = .int .i64 x16_1 ∧ Aside0 (spec_Times.l0 kq l0 l1 x5_1 (l0.length : Int) x16_1 = some r) ∧ Aside0 (kq ≤ k) ∧ Aside0 (Kd.S (Kd.slice 5 (Kd.int .u8)) 22 w' w.heap.size (fun _ => True) v216 x5_1) ∧ Aside0 (Below w.heap.size w w'))
  case atStart => exact ⟨(t215), (0), (by first | rfl | (simp; done) | (simp [*]; done)), H', ⟨Nat.le_refl _⟩, ⟨by (with_reducible repeat (first | apply Kd.S_alloc | apply Kd.S_drewN | apply Kd.S_drew)); exact HO217.out⟩, ⟨by repeat (first | (with_reducible first | exact HB.out | apply below_alloc | apply pw_below_drewN | apply below_drew1) | exact HB.out)⟩⟩
  case round =>
    clear H'
    try clear c1
    try clear c2
    try clear p2
    try clear c3
    obtain ⟨x5_1, x16_1, rfl, HA, HK1, HO_5, HB⟩ := hrel
    cases gk with
    | zero => exact absurd HA.out (by simp [spec_Times.l0])
    | succ k1 =>
      have H := HA.out
      clear HA
      simp only [spec_Times.l0] at H
      by_cases c6 : x16_1 < (l0.length : Int)
      · rw [if_pos c6] at H
        have c6b0 : decide (x16_1 < (l0.length : Int)) = true := decide_eq_true c6
        clear c6
        by_cases c7 : 0 ≤ x16_1
        · rw [if_pos c7] at H
          have c7b0 : decide (0 ≤ x16_1) = true := decide_eq_true c7
          clear c7
          by_cases c8 : x16_1 < (x5_1.length : Int)
          · rw [if_pos c8] at H
            have c8b0 : decide (x16_1 < (x5_1.length : Int)) = true := decide_eq_true c8
            clear c8
            have H' := Aside0.mk H
            clear H
            obtain ⟨Ao9, co9, eo9⟩ := Kd.S_slice HO_5.out
            subst eo9
            have p218 : 0 ≤ (x16_1 : Int) := of_decide_eq_true (by first | (with_reducible assumption) | assumption)
            have q218 : x16_1 < (x5_1.length : Int) := of_decide_eq_true (by first | (with_reducible assumption) | assumption)
            obtain ⟨ad218, A218_0, c218_0, e218, hx218_0, hl218_0, hi218_0⟩ := at_L1 (Kd.S_reads' HO_5.out).2.2 x16_1 p218 q218
            cases e218
            obtain ⟨ce218, hce218, hMe218, hcc218⟩ := Kd.S_get HO_5.out [] x16_1 p218 (by first | exact q218 | exact of_decide_eq_true (by first | (with_reducible assumption) | assumption) | (have e_ := (Kd.S_reads' HO_5.out).1; omega))
            obtain ⟨ve218_0, rfl, ge218_0⟩ := hMe218
            have hv218_0 := hcc218 0 _ rfl
            rw [Nat.add_zero, show ((Kd.slice 5 (Kd.int .u8))).sz = 1 from rfl, Nat.mul_one] at hv218_0
            replace hv218_0 := Option.some.inj (hv218_0.symm.trans hx218_0)
            rw [hv218_0] at ge218_0
            have HL218_0 := Aside0.mk (show Kd.R (Kd.int .u8) 5 _ _ _ _ (rd_L1 x5_1 x16_1) from ge218_0)
            clear hv218_0 ge218_0
            have HX218_0 := Aside0.mk hx218_0
            clear hcc218 hce218
            have HR218_0 := Aside0.mk hi218_0
            have HC218_0 := Aside0.mk hl218_0
            clear hi218_0 hl218_0
            replace p218 := eq_true p218
            replace q218 := eq_true q218
            go_wp2
            go_loopg [24] k1 (fun kq v24 w' => ∃ (x5_2 : List (List Int)) (x24_2 : Int), v24 = .int .i64 x24_2 ∧ Aside0 (spec_Times.l1 kq l0 l1 x5_2 x16_1 (l0.length : Int) x16_1 ((rd_L1 x5_1 x16_1).length : Int) x24_2 = some r) ∧ Aside0 (kq ≤ k1) ∧ Aside0 (Kd.S (Kd.slice 5 (Kd.int .u8)) 22 w' w.heap.size (fun _ => True) (.slice (some ad218) x5_1.length co9) x5_2) ∧ Aside0 (Below w.heap.size w w'))
            case atStart => exact ⟨(x5_1), (0), (by first | rfl | (simp; done) | (simp [*]; done)), H', ⟨Nat.le_refl _⟩, ⟨by (with_reducible repeat (first | apply Kd.S_alloc | apply Kd.S_drewN | apply Kd.S_drew)); exact HO_5.out⟩, ⟨by repeat (first | (with_reducible first | exact HB.out | apply below_alloc | apply pw_below_drewN | apply below_drew1) | exact HB.out)⟩⟩
            case round =>
              clear H'
              try clear c1
              try clear c2
              try clear p2
              try clear q2
              try clear hx2
              try clear c3
              try clear c6
              try clear c6b0
              try clear c7
              try clear c7b0
              try clear c8
              try clear c8b0
              try clear hx218_0
              try clear p2
              try clear p218
              try clear q218
              obtain ⟨x5_2, x24_2, rfl, HA, HK2, HO_5, HB⟩ := hrel
              have hl5_2 := (Kd.S_reads' HO_5.out).1
              rw [hl5_2] at HO_5
              (try simp only [hl5_2])
              cases gk with
              | zero => exact absurd HA.out (by simp [spec_Times.l1])
              | succ k2 =>
                have H := HA.out
                clear HA
                simp only [spec_Times.l1] at H
                by_cases c10 : x24_2 < ((rd_L1 x5_1 x16_1).length : Int)
                · rw [if_pos c10] at H
                  have c10b0 : decide (x24_2 < ((rd_L1 x5_1 x16_1).length : Int)) = true := decide_eq_true c10
                  (try (have c10b0hl5_2 := c10b0; rw [hl5_2] at c10b0hl5_2))
                  clear c10
                  have H' := Aside0.mk H
                  clear H
                  go_wp2
                  go_loopg [29] k2 (fun kq v29 w' => ∃ (x5_3 : List (List Int)) (x29_3 : Int), v29 = .int .i64 x29_3 ∧ Aside0 (spec_Times.l2 kq l0 l1 x5_3 x16_1 x24_2 (l0.length : Int) x16_1 ((rd_L1 x5_1 x16_1).length : Int) x24_2 (l1.length : Int) x29_3 = some r) ∧ Aside0 (kq ≤ k2) ∧ Aside0 (Kd.S (Kd.slice 5 (Kd.int .u8)) 22 w' w.heap.size (fun _ => True) (.slice (some ad218) x5_2.length co9) x5_3) ∧ Aside0 (Below w.heap.size w w'))
                  case atStart => exact ⟨(x5_2), (0), (by first | rfl | (simp; done) | (simp [*]; done)), H', ⟨Nat.le_refl _⟩, ⟨by (try simp only [hl5_2]); (with_reducible repeat (first | apply Kd.S_alloc | apply Kd.S_drewN | apply Kd.S_drew)); exact HO_5.out⟩, ⟨by repeat (first | (with_reducible first | exact HB.out | apply below_alloc | apply pw_below_drewN | apply below_drew1) | exact HB.out)⟩⟩
                  case round =>
                    clear H'
                    try clear c1
                    try clear c2
                    try clear p2
                    try clear q2
                    try clear hx2
                    try clear c3
                    try clear c6
                    try clear c6b0
                    try clear c7
                    try clear c7b0
                    try clear c8
                    try clear c8b0
                    try clear c10
                    try clear c10b0
                    try clear hx218_0
                    try clear p2
                    try clear p218
                    try clear q2
                    try clear q218
                    obtain ⟨x5_3, x29_3, rfl, HA, HK3, HO_5, HB⟩ := hrel
                    have hl5_3 := (Kd.S_reads' HO_5.out).1
                    rw [hl5_3] at HO_5
                    (try simp only [hl5_3])
                    cases gk with
                    | zero => exact absurd HA.out (by simp [spec_Times.l2])
                    | succ k3 =>
                      have H := HA.out
                      clear HA
                      simp only [spec_Times.l2] at H
                      by_cases c11 : x29_3 < (l1.length : Int)
                      · rw [if_pos c11] at H
                        have c11b0 : decide (x29_3 < (l1.length : Int)) = true := decide_eq_true c11
                        (try (have c11b0hl5_2 := c11b0; rw [hl5_2] at c11b0hl5_2))
                        (try (have c11b0hl5_3 := c11b0; rw [hl5_3] at c11b0hl5_3))
                        clear c11
                        by_cases c12 : 0 ≤ x16_1
                        · rw [if_pos c12] at H
                          have c12b0 : decide (0 ≤ x16_1) = true := decide_eq_true c12
                          clear c12
                          by_cases c13 : x16_1 < (x5_3.length : Int)
                          · rw [if_pos c13] at H
                            have c13b0 : decide (x16_1 < (x5_3.length : Int)) = true := decide_eq_true c13
                            (try (have c13b0hl5_2 := c13b0; rw [hl5_2] at c13b0hl5_2))
                            (try (have c13b0hl5_3 := c13b0; rw [hl5_3] at c13b0hl5_3))
                            clear c13
                            by_cases c14 : 0 ≤ x24_2
                            · rw [if_pos c14] at H
                              have c14b0 : decide (0 ≤ x24_2) = true := decide_eq_true c14
                              clear c14
                              by_cases c15 : x24_2 < ((rd_L1 x5_3 x16_1).length : Int)
                              · rw [if_pos c15] at H
                                have c15b0 : decide (x24_2 < ((rd_L1 x5_3 x16_1).length : Int)) = true := decide_eq_true c15
                                (try (have c15b0hl5_2 := c15b0; rw [hl5_2] at c15b0hl5_2))
                                (try (have c15b0hl5_3 := c15b0; rw [hl5_3] at c15b0hl5_3))
                                clear c15
                                by_cases c16 : x16_1 < (l0.length : Int)
                                · rw [if_pos c16] at H
                                  have c16b0 : decide (x16_1 < (l0.length : Int)) = true := decide_eq_true c16
                                  (try (have c16b0hl5_2 := c16b0; rw [hl5_2] at c16b0hl5_2))
                                  (try (have c16b0hl5_3 := c16b0; rw [hl5_3] at c16b0hl5_3))
                                  clear c16
                                  by_cases c17 : 0 ≤ x29_3
                                  · rw [if_pos c17] at H
                                    have c17b0 : decide (0 ≤ x29_3) = true := decide_eq_true c17
                                    clear c17
                                    by_cases c18 : x29_3 < ((rd_L1 l0 x16_1).length : Int)
                                    · rw [if_pos c18] at H
                                      have c18b0 : decide (x29_3 < ((rd_L1 l0 x16_1).length : Int)) = true := decide_eq_true c18
                                      (try (have c18b0hl5_2 := c18b0; rw [hl5_2] at c18b0hl5_2))
                                      (try (have c18b0hl5_3 := c18b0; rw [hl5_3] at c18b0hl5_3))
                                      clear c18
                                      by_cases c19 : x29_3 < (l1.length : Int)
                                      · rw [if_pos c19] at H
                                        have c19b0 : decide (x29_3 < (l1.length : Int)) = true := decide_eq_true c19
                                        (try (have c19b0hl5_2 := c19b0; rw [hl5_2] at c19b0hl5_2))
                                        (try (have c19b0hl5_3 := c19b0; rw [hl5_3] at c19b0hl5_3))
                                        clear c19
                                        by_cases c20 : x24_2 < ((rd_L1 l1 x29_3).length : Int)
                                        · rw [if_pos c20] at H
                                          have c20b0 : decide (x24_2 < ((rd_L1 l1 x29_3).length : Int)) = true := decide_eq_true c20
                                          (try (have c20b0hl5_2 := c20b0; rw [hl5_2] at c20b0hl5_2))
                                          (try (have c20b0hl5_3 := c20b0; rw [hl5_3] at c20b0hl5_3))
                                          clear c20
                                          replace H := Option.bind_eq_some_iff.mp H
                                          obtain ⟨t225, A210, H⟩ := H
                                          replace H : (spec_Times.l2 k3 l0 l1 (x5_3.set (x16_1 : Int).toNat ((rd_L1 x5_3 x16_1).set (x24_2 : Int).toNat (Go.bits .xor .u8 (rd (rd_L1 x5_3 x16_1) x24_2) t225))) x16_1 x24_2 (l0.length : Int) x16_1 ((rd_L1 x5_1 x16_1).length : Int) x24_2 (l1.length : Int) (wrap64 (x29_3 + 1))) = some r := H
                                          have A21 := Aside0.mk A210
                                          clear A210
                                          obtain ⟨y226, hy226⟩ : ∃ y_ : List Int, y_ = ((rd_L1 x5_3 x16_1).set (x24_2 : Int).toNat (Go.bits .xor .u8 (rd (rd_L1 x5_3 x16_1) x24_2) t225)) := ⟨_, rfl⟩
                                          replace H : (spec_Times.l2 k3 l0 l1 (x5_3.set (x16_1 : Int).toNat y226) x16_1 x24_2 (l0.length : Int) x16_1 ((rd_L1 x5_1 x16_1).length : Int) x24_2 (l1.length : Int) (wrap64 (x29_3 + 1))) = some r := by first | (rw [hy226]; with_reducible exact H) | (have H2_ := (Option.bind_some _ _).symm.trans H; rw [hy226]; with_reducible exact H2_) | (have H2_ := (Option.bind_some _ _).symm.trans H; with_reducible exact H2_) | with_reducible exact H | (rw [hy226]; exact H) | exact H
                                          have Ny226 := Aside0.mk hy226
                                          clear hy226
                                          obtain ⟨y228, hy228⟩ : ∃ y_ : List (List Int), y_ = (x5_3.set (x16_1 : Int).toNat y226) := ⟨_, rfl⟩
                                          replace H : (spec_Times.l2 k3 l0 l1 y228 x16_1 x24_2 (l0.length : Int) x16_1 ((rd_L1 x5_1 x16_1).length : Int) x24_2 (l1.length : Int) (wrap64 (x29_3 + 1))) = some r := by first | (rw [hy228]; with_reducible exact H) | (have H2_ := (Option.bind_some _ _).symm.trans H; rw [hy228]; with_reducible exact H2_) | (have H2_ := (Option.bind_some _ _).symm.trans H; with_reducible exact H2_) | with_reducible exact H | (rw [hy228]; exact H) | exact H
                                          have Ny228 := Aside0.mk hy228
                                          clear hy228
                                          have H' := Aside0.mk H
                                          clear H
                                          try go_wp2
                                          have n0_ := Aside0.mk (Kd.S_drew HO_5.out)
                                          have n1_ := Aside0.mk (below_drew1 HB.out)
                                          clear HO_5
                                          clear HB
                                          have HO_5 := n0_
                                          have HB := n1_
                                          clear n0_ n1_
                                          have p219 : 0 ≤ (x16_1 : Int) := of_decide_eq_true (by first | (with_reducible assumption) | assumption)
                                          have q219 : x16_1 < (x5_3.length : Int) := of_decide_eq_true (by first | (with_reducible assumption) | assumption)
                                          obtain ⟨ad219, A219_0, c219_0, e219, hx219_0, hl219_0, hi219_0⟩ := at_L1 (Kd.S_reads' HO_5.out).2.2 x16_1 p219 q219
                                          obtain rfl : ad218 = ad219 := (by injection e219)
                                          obtain ⟨ce219, hce219, hMe219, hcc219⟩ := Kd.S_get HO_5.out [] x16_1 p219 (by first | exact q219 | exact of_decide_eq_true (by first | (with_reducible assumption) | assumption) | (have e_ := (Kd.S_reads' HO_5.out).1; omega))
                                          obtain ⟨ve219_0, rfl, ge219_0⟩ := hMe219
                                          have hv219_0 := hcc219 0 _ rfl
                                          rw [Nat.add_zero, show ((Kd.slice 5 (Kd.int .u8))).sz = 1 from rfl, Nat.mul_one] at hv219_0
                                          replace hv219_0 := Option.some.inj (hv219_0.symm.trans hx219_0)
                                          rw [hv219_0] at ge219_0
                                          have HL219_0 := Aside0.mk (show Kd.R (Kd.int .u8) 5 _ _ _ _ (rd_L1 x5_3 x16_1) from ge219_0)
                                          clear hv219_0 ge219_0
                                          have HX219_0 := Aside0.mk hx219_0
                                          clear hcc219 hce219
                                          have HR219_0 := Aside0.mk hi219_0
                                          have HC219_0 := Aside0.mk hl219_0
                                          clear hi219_0 hl219_0
                                          replace p219 := eq_true p219
                                          replace q219 := eq_true q219
                                          have p220 : 0 ≤ (x24_2 : Int) := of_decide_eq_true (by first | (with_reducible assumption) | assumption)
                                          have q220 : x24_2 < ((rd_L1 x5_3 x16_1).length : Int) := of_decide_eq_true (by first | (with_reducible assumption) | assumption)
                                          obtain ⟨ad220, e220, hx220_0⟩ := Kd.at_int (by repeat (first | (with_reducible exact HR219_0.out) | (with_reducible refine Kd.C_alloc ?_ _) | (with_reducible refine Kd.C_drewN ?_ _) | (with_reducible refine Kd.C_drew ?_) | exact HR219_0.out)) x24_2 p220 q220
                                          cases e220
                                          replace p220 := eq_true p220
                                          replace q220 := eq_true q220
                                          have p221 : 0 ≤ (x16_1 : Int) := of_decide_eq_true (by first | (with_reducible assumption) | assumption)
                                          have q221 : x16_1 < (l0.length : Int) := of_decide_eq_true (by first | (with_reducible assumption) | assumption)
                                          obtain ⟨ad221, A221_0, c221_0, e221, hx221_0, hl221_0, hi221_0⟩ := at_L1 HR0.out x16_1 p221 q221
                                          have hw221_0 := hx221_0
                                          cases e221
                                          replace hx221_0 := (HB.out.cell (World.block_lt_of_cell? w _ hx221_0)).trans hx221_0
                                          have HR221_0 := Aside0.mk hi221_0
                                          have HC221_0 := Aside0.mk hl221_0
                                          clear hi221_0 hl221_0
                                          replace p221 := eq_true p221
                                          replace q221 := eq_true q221
                                          have p222 : 0 ≤ (x29_3 : Int) := of_decide_eq_true (by first | (with_reducible assumption) | assumption)
                                          have q222 : x29_3 < ((rd_L1 l0 x16_1).length : Int) := of_decide_eq_true (by first | (with_reducible assumption) | assumption)
                                          obtain ⟨ad222, e222, hx222_0⟩ := Kd.at_int HR221_0.out x29_3 p222 q222
                                          have hw222_0 := hx222_0
                                          cases e222
                                          replace hx222_0 := (HB.out.cell (World.block_lt_of_cell? w _ hx222_0)).trans hx222_0
                                          replace p222 := eq_true p222
                                          replace q222 := eq_true q222
                                          have p223 : 0 ≤ (x29_3 : Int) := of_decide_eq_true (by first | (with_reducible assumption) | assumption)
                                          have q223 : x29_3 < (l1.length : Int) := of_decide_eq_true (by first | (with_reducible assumption) | assumption)
                                          obtain ⟨ad223, A223_0, c223_0, e223, hx223_0, hl223_0, hi223_0⟩ := at_L1 HR1.out x29_3 p223 q223
                                          have hw223_0 := hx223_0
                                          cases e223
                                          replace hx223_0 := (HB.out.cell (World.block_lt_of_cell? w _ hx223_0)).trans hx223_0
                                          have HR223_0 := Aside0.mk hi223_0
                                          have HC223_0 := Aside0.mk hl223_0
                                          clear hi223_0 hl223_0
                                          replace p223 := eq_true p223
                                          replace q223 := eq_true q223
                                          have p224 : 0 ≤ (x24_2 : Int) := of_decide_eq_true (by first | (with_reducible assumption) | assumption)
                                          have q224 : x24_2 < ((rd_L1 l1 x29_3).length : Int) := of_decide_eq_true (by first | (with_reducible assumption) | assumption)
                                          obtain ⟨ad224, e224, hx224_0⟩ := Kd.at_int HR223_0.out x24_2 p224 q224
                                          have hw224_0 := hx224_0
                                          cases e224
                                          replace hx224_0 := (HB.out.cell (World.block_lt_of_cell? w _ hx224_0)).trans hx224_0
                                          replace p224 := eq_true p224
                                          replace q224 := eq_true q224
                                          refine start_ (n := 25) (S := fun w' => w'.cell? (ad218.add (x16_1).toNat) = some (.slice (some ad220) (rd_L1 x5_3 x16_1).length c219_0) ∧ w'.cell? (ad220.add (x24_2).toNat) = some (.int .u8 (rd (rd_L1 x5_3 x16_1) x24_2)) ∧ w'.cell? (ad221.add (x16_1).toNat) = some (.slice (some ad222) (rd_L1 l0 x16_1).length c221_0) ∧ w'.cell? (ad222.add (x29_3).toNat) = some (.int .u8 (rd (rd_L1 l0 x16_1) x29_3)) ∧ w'.cell? (ad223.add (x29_3).toNat) = some (.slice (some ad224) (rd_L1 l1 x29_3).length c223_0) ∧ w'.cell? (ad224.add (x24_2).toNat) = some (.int .u8 (rd (rd_L1 l1 x29_3) x24_2))) (ds := [24]) #[false, false, false, false, false, false, false, false, false, false, false, false, false, false, false, false, false, false, false, false, false, false, false, false, false] (by kernel_rfl) rfl rfl ⟨hx219_0, hx220_0, ((HB.out.cell (World.block_lt_of_cell? w _ hw221_0)).trans hw221_0), ((HB.out.cell (World.block_lt_of_cell? w _ hw222_0)).trans hw222_0), ((HB.out.cell (World.block_lt_of_cell? w _ hw223_0)).trans hw223_0), ((HB.out.cell (World.block_lt_of_cell? w _ hw224_0)).trans hw224_0)⟩ (fun hHeld => ?_); refine with_tabW spec_Times.tab11 spec_Times.bits11 (fun HT_ HW_ => ?_)
                                          generalize wr.drew = w23 at HO_5 HB HL219_0 HR219_0 HR221_0 HR223_0 HX219_0 hx219_0 hx220_0 hx221_0 hx222_0 hx223_0 hx224_0 hHeld ⊢
                                          refine pure_ (i := 0) (N := some 32) (v := ?_) (a' := ?_) #[true, false, false, false, false, false, false, false, false, false, false, false, false, false, false, false, false, false, false, false, false, false, false, false, false] rfl rfl (any_of HT_.out (by kernel_rfl)) (fun _ _ _ h => h) (Or.inl ⟨by rfl, ?_⟩) ?_ ?_
                                          rotate_left
                                          · intro w'
                                            go_simp
                                            with_reducible rfl
                                          rotate_left
                                          · simp only [Act.put, List.setIfInBounds_toArray, List.set_cons_zero, List.set_cons_succ, i64_w, i32_w]
                                            rfl
                                          refine pure_ (i := 1) (N := some 33) (v := ?_) (a' := ?_) #[true, true, false, false, false, false, false, false, false, false, false, false, false, false, false, false, false, false, false, false, false, false, false, false, false] rfl rfl (any_of HT_.out (by kernel_rfl)) (fun _ _ _ h => h) (Or.inl ⟨by rfl, ?_⟩) ?_ ?_
                                          rotate_left
                                          · intro w'
                                            go_simp
                                            with_reducible rfl
                                          rotate_left
                                          · simp only [Act.put, List.setIfInBounds_toArray, List.set_cons_zero, List.set_cons_succ, i64_w, i32_w]
                                            rfl
                                          refine pure_ (i := 2) (N := some 34) (v := ?_) (a' := ?_) #[true, true, true, false, false, false, false, false, false, false, false, false, false, false, false, false, false, false, false, false, false, false, false, false, false] rfl rfl (any_of HT_.out (by kernel_rfl)) (fun _ _ _ h => h) (Or.inl ⟨by rfl, ?_⟩) ?_ ?_
                                          rotate_left
                                          · intro w'
                                            go_simp
                                            with_reducible rfl
                                          rotate_left
                                          · simp only [Act.put, List.setIfInBounds_toArray, List.set_cons_zero, List.set_cons_succ, i64_w, i32_w]
                                            rfl
                                          refine pure_ (i := 4) (N := some 36) (v := ?_) (a' := ?_) #[true, true, true, false, true, false, false, false, false, false, false, false, false, false, false, false, false, false, false, false, false, false, false, false, false] rfl rfl (any_of HT_.out (by kernel_rfl)) (fun _ _ _ h => h) (Or.inl ⟨by rfl, ?_⟩) ?_ ?_
                                          rotate_left
                                          · intro w'
                                            go_simp
                                            with_reducible rfl
                                          rotate_left
                                          · simp only [Act.put, List.setIfInBounds_toArray, List.set_cons_zero, List.set_cons_succ, i64_w, i32_w]
                                            rfl
                                          refine pure_ (i := 7) (N := some 39) (v := ?_) (a' := ?_) #[true, true, true, false, true, false, false, true, false, false, false, false, false, false, false, false, false, false, false, false, false, false, false, false, false] rfl rfl (any_of HT_.out (by kernel_rfl)) (fun _ _ _ h => h) (Or.inl ⟨by rfl, ?_⟩) ?_ ?_
                                          rotate_left
                                          · intro w'
                                            go_simp
                                            with_reducible rfl
                                          rotate_left
                                          · simp only [Act.put, List.setIfInBounds_toArray, List.set_cons_zero, List.set_cons_succ, i64_w, i32_w]
                                            rfl
                                          refine pure_ (i := 8) (N := some 40) (v := ?_) (a' := ?_) #[true, true, true, false, true, false, false, true, true, false, false, false, false, false, false, false, false, false, false, false, false, false, false, false, false] rfl rfl (any_of HT_.out (by kernel_rfl)) (fun _ _ _ h => h) (Or.inl ⟨by rfl, ?_⟩) ?_ ?_
                                          rotate_left
                                          · intro w'
                                            go_simp
                                            with_reducible rfl
                                          rotate_left
                                          · simp only [Act.put, List.setIfInBounds_toArray, List.set_cons_zero, List.set_cons_succ, i64_w, i32_w]
                                            rfl
                                          refine pure_ (i := 9) (N := some 41) (v := ?_) (a' := ?_) #[true, true, true, false, true, false, false, true, true, true, false, false, false, false, false, false, false, false, false, false, false, false, false, false, false] rfl rfl (any_of HT_.out (by kernel_rfl)) (fun _ _ _ h => h) (Or.inl ⟨by rfl, ?_⟩) ?_ ?_
                                          rotate_left
                                          · intro w'
                                            go_simp
                                            with_reducible rfl
                                          rotate_left
                                          · simp only [Act.put, List.setIfInBounds_toArray, List.set_cons_zero, List.set_cons_succ, i64_w, i32_w]
                                            rfl
                                          refine pure_ (i := 11) (N := some 43) (v := ?_) (a' := ?_) #[true, true, true, false, true, false, false, true, true, true, false, true, false, false, false, false, false, false, false, false, false, false, false, false, false] rfl rfl (any_of HT_.out (by kernel_rfl)) (fun _ _ _ h => h) (Or.inl ⟨by rfl, ?_⟩) ?_ ?_
                                          rotate_left
                                          · intro w'
                                            go_simp
                                            with_reducible rfl
                                          rotate_left
                                          · simp only [Act.put, List.setIfInBounds_toArray, List.set_cons_zero, List.set_cons_succ, i64_w, i32_w]
                                            rfl
                                          refine pure_ (i := 14) (N := some 46) (v := ?_) (a' := ?_) #[true, true, true, false, true, false, false, true, true, true, false, true, false, false, true, false, false, false, false, false, false, false, false, false, false] rfl rfl (any_of HT_.out (by kernel_rfl)) (fun _ _ _ h => h) (Or.inl ⟨by rfl, ?_⟩) ?_ ?_
                                          rotate_left
                                          · intro w'
                                            go_simp
                                            with_reducible rfl
                                          rotate_left
                                          · simp only [Act.put, List.setIfInBounds_toArray, List.set_cons_zero, List.set_cons_succ, i64_w, i32_w]
                                            rfl
                                          refine pure_ (i := 15) (N := some 47) (v := ?_) (a' := ?_) #[true, true, true, false, true, false, false, true, true, true, false, true, false, false, true, true, false, false, false, false, false, false, false, false, false] rfl rfl (any_of HT_.out (by kernel_rfl)) (fun _ _ _ h => h) (Or.inl ⟨by rfl, ?_⟩) ?_ ?_
                                          rotate_left
                                          · intro w'
                                            go_simp
                                            with_reducible rfl
                                          rotate_left
                                          · simp only [Act.put, List.setIfInBounds_toArray, List.set_cons_zero, List.set_cons_succ, i64_w, i32_w]
                                            rfl
                                          refine pure_ (i := 16) (N := some 48) (v := ?_) (a' := ?_) #[true, true, true, false, true, false, false, true, true, true, false, true, false, false, true, true, true, false, false, false, false, false, false, false, false] rfl rfl (any_of HT_.out (by kernel_rfl)) (fun _ _ _ h => h) (Or.inl ⟨by rfl, ?_⟩) ?_ ?_
                                          rotate_left
                                          · intro w'
                                            go_simp
                                            with_reducible rfl
                                          rotate_left
                                          · simp only [Act.put, List.setIfInBounds_toArray, List.set_cons_zero, List.set_cons_succ, i64_w, i32_w]
                                            rfl
                                          refine pure_ (i := 18) (N := some 50) (v := ?_) (a' := ?_) #[true, true, true, false, true, false, false, true, true, true, false, true, false, false, true, true, true, false, true, false, false, false, false, false, false] rfl rfl (any_of HT_.out (by kernel_rfl)) (fun _ _ _ h => h) (Or.inl ⟨by rfl, ?_⟩) ?_ ?_
                                          rotate_left
                                          · intro w'
                                            go_simp
                                            with_reducible rfl
                                          rotate_left
                                          · simp only [Act.put, List.setIfInBounds_toArray, List.set_cons_zero, List.set_cons_succ, i64_w, i32_w]
                                            rfl
                                          refine take_ (i := 3) (N := some 35) (v := ?_) (a' := ?_) #[true, true, true, true, true, false, false, true, true, true, false, true, false, false, true, true, true, false, true, false, false, false, false, false, false] rfl rfl (take_ofW HT_.out HW_.out (by kernel_rfl)) (fun _ _ _ h => h) (Or.inl ⟨by rfl, ?_⟩) hHeld ?_ ?_
                                          rotate_left
                                          · rintro w' ⟨s0, s1, s2, s3, s4, s5⟩
                                            go_simp
                                            with_reducible rfl
                                          rotate_left
                                          · simp only [Act.put, List.setIfInBounds_toArray, List.set_cons_zero, List.set_cons_succ, i64_w, i32_w]
                                            rfl
                                          refine pure_ (i := 5) (N := some 37) (v := ?_) (a' := ?_) #[true, true, true, true, true, true, false, true, true, true, false, true, false, false, true, true, true, false, true, false, false, false, false, false, false] rfl rfl (any_of HT_.out (by kernel_rfl)) (fun _ _ _ h => h) (Or.inl ⟨by rfl, ?_⟩) ?_ ?_
                                          rotate_left
                                          · intro w'
                                            go_simp
                                            with_reducible rfl
                                          rotate_left
                                          · simp only [Act.put, List.setIfInBounds_toArray, List.set_cons_zero, List.set_cons_succ, i64_w, i32_w]
                                            rfl
                                          refine take_ (i := 6) (N := some 38) (v := ?_) (a' := ?_) #[true, true, true, true, true, true, true, true, true, true, false, true, false, false, true, true, true, false, true, false, false, false, false, false, false] rfl rfl (take_ofW HT_.out HW_.out (by kernel_rfl)) (fun _ _ _ h => h) (Or.inl ⟨by rfl, ?_⟩) hHeld ?_ ?_
                                          rotate_left
                                          · rintro w' ⟨s0, s1, s2, s3, s4, s5⟩
                                            go_simp
                                            with_reducible rfl
                                          rotate_left
                                          · simp only [Act.put, List.setIfInBounds_toArray, List.set_cons_zero, List.set_cons_succ, i64_w, i32_w]
                                            rfl
                                          refine take_ (i := 10) (N := some 42) (v := ?_) (a' := ?_) #[true, true, true, true, true, true, true, true, true, true, true, true, false, false, true, true, true, false, true, false, false, false, false, false, false] rfl rfl (take_ofW HT_.out HW_.out (by kernel_rfl)) (fun _ _ _ h => h) (Or.inl ⟨by rfl, ?_⟩) hHeld ?_ ?_
                                          rotate_left
                                          · rintro w' ⟨s0, s1, s2, s3, s4, s5⟩
                                            go_simp
                                            with_reducible rfl
                                          rotate_left
                                          · simp only [Act.put, List.setIfInBounds_toArray, List.set_cons_zero, List.set_cons_succ, i64_w, i32_w]
                                            rfl
                                          refine pure_ (i := 12) (N := some 44) (v := ?_) (a' := ?_) #[true, true, true, true, true, true, true, true, true, true, true, true, true, false, true, true, true, false, true, false, false, false, false, false, false] rfl rfl (any_of HT_.out (by kernel_rfl)) (fun _ _ _ h => h) (Or.inl ⟨by rfl, ?_⟩) ?_ ?_
                                          rotate_left
                                          · intro w'
                                            go_simp
                                            with_reducible rfl
                                          rotate_left
                                          · simp only [Act.put, List.setIfInBounds_toArray, List.set_cons_zero, List.set_cons_succ, i64_w, i32_w]
                                            rfl
                                          refine take_ (i := 13) (N := some 45) (v := ?_) (a' := ?_) #[true, true, true, true, true, true, true, true, true, true, true, true, true, true, true, true, true, false, true, false, false, false, false, false, false] rfl rfl (take_ofW HT_.out HW_.out (by kernel_rfl)) (fun _ _ _ h => h) (Or.inl ⟨by rfl, ?_⟩) hHeld ?_ ?_
                                          rotate_left
                                          · rintro w' ⟨s0, s1, s2, s3, s4, s5⟩
                                            go_simp
                                            with_reducible rfl
                                          rotate_left
                                          · simp only [Act.put, List.setIfInBounds_toArray, List.set_cons_zero, List.set_cons_succ, i64_w, i32_w]
                                            rfl
                                          refine take_ (i := 17) (N := some 49) (v := ?_) (a' := ?_) #[true, true, true, true, true, true, true, true, true, true, true, true, true, true, true, true, true, true, true, false, false, false, false, false, false] rfl rfl (take_ofW HT_.out HW_.out (by kernel_rfl)) (fun _ _ _ h => h) (Or.inl ⟨by rfl, ?_⟩) hHeld ?_ ?_
                                          rotate_left
                                          · rintro w' ⟨s0, s1, s2, s3, s4, s5⟩
                                            go_simp
                                            with_reducible rfl
                                          rotate_left
                                          · simp only [Act.put, List.setIfInBounds_toArray, List.set_cons_zero, List.set_cons_succ, i64_w, i32_w]
                                            rfl
                                          refine pure_ (i := 19) (N := some 51) (v := ?_) (a' := ?_) #[true, true, true, true, true, true, true, true, true, true, true, true, true, true, true, true, true, true, true, true, false, false, false, false, false] rfl rfl (any_of HT_.out (by kernel_rfl)) (fun _ _ _ h => h) (Or.inl ⟨by rfl, ?_⟩) ?_ ?_
                                          rotate_left
                                          · intro w'
                                            go_simp
                                            with_reducible rfl
                                          rotate_left
                                          · simp only [Act.put, List.setIfInBounds_toArray, List.set_cons_zero, List.set_cons_succ, i64_w, i32_w]
                                            rfl
                                          refine take_ (i := 20) (N := some 52) (v := ?_) (a' := ?_) #[true, true, true, true, true, true, true, true, true, true, true, true, true, true, true, true, true, true, true, true, true, false, false, false, false] rfl rfl (take_ofW HT_.out HW_.out (by kernel_rfl)) (fun _ _ _ h => h) (Or.inl ⟨by rfl, ?_⟩) hHeld ?_ ?_
                                          rotate_left
                                          · rintro w' ⟨s0, s1, s2, s3, s4, s5⟩
                                            go_simp
                                            with_reducible rfl
                                          rotate_left
                                          · simp only [Act.put, List.setIfInBounds_toArray, List.set_cons_zero, List.set_cons_succ, i64_w, i32_w]
                                            rfl
                                          refine one_ (i := 21) (N := some 53) #[true, true, true, true, true, true, true, true, true, true, true, true, true, true, true, true, true, true, true, true, true, true, false, false, false] rfl rfl (one_of HT_.out (by kernel_rfl)) (by decide) (fun K hK => ?_)
                                          refine goes_ Tryd.func13 (by kernel_rfl) rfl #[.int .u8 (rd (rd_L1 l0 x16_1) x29_3), .int .u8 (rd (rd_L1 l1 x29_3) x24_2)] (by rfl) rfl rfl (by (try simp only [List.map_toArray, List.map_cons, List.map_nil]); first | done | rfl | (simp only [List.length_drop, List.length_take]; rfl)) ?_
                                          with_reducible refine (spec_Mul.calls k3 (rd (rd_L1 l0 x16_1) x29_3) (rd (rd_L1 l1 x29_3) x24_2) t225 _ A21.out).mono ?_
                                          rintro e w' ⟨rfl, ⟨nd, rfl⟩⟩
                                          refine ⟨_, rfl, ?_⟩
                                          have p22 : 0 ≤ (x24_2 : Int) := of_decide_eq_true (by first | (with_reducible assumption) | assumption)
                                          have q22 : (x24_2 : Int) < (((rd_L1 x5_3 x16_1).length : Int) : Int) := of_decide_eq_true (by first | (with_reducible assumption) | assumption)
                                          obtain ⟨go22, co22, eo22, gb22, gl22, cl22, HG22⟩ := Kd.R_form HL219_0.out (by omega)
                                          (first | cases eo22 | (injection eo22 with ea_ en_ ec_; (first | subst ea_ | (injection ea_ with ea_; subst ea_)); subst ec_; clear en_))
                                          have GB22 := Aside0.mk gb22
                                          have GG22 := Aside0.mk HG22
                                          clear gb22 gl22 HG22
                                          (first | simp only [add_plain] at hx220_0 | skip)
                                          obtain ⟨hx22_0, hf22_0⟩ := Kd.R_celln 0 HL219_0.out (x24_2 : Int) p22 q22
                                          replace p22 := eq_true p22
                                          replace q22 := eq_true q22
                                          have hq24 : (x16_1 : Int) < (x5_3.length : Int) := (by have h_ : (x16_1 : Int) < ((x5_3.length : Int) : Int) := of_decide_eq_true (by first | (with_reducible assumption) | assumption); first | exact h_ | (have e_ := (Kd.S_reads' HO_5.out).1; omega) | simpa only [List.length_set, List.length_set] using h_)
                                          obtain ⟨oki24, ce24, hcl24, hM24, hcc24, hok24, hbk24⟩ := Kd.S_borrow HO_5.out [] (x16_1 : Int) (of_decide_eq_true (by first | (with_reducible assumption) | assumption)) hq24
                                          obtain ⟨ve24_0, rfl, ge24_0⟩ := hM24
                                          have hv24 := hcc24 0 _ rfl
                                          rw [Nat.add_zero, show ((Kd.slice 5 (Kd.int .u8))).sz = 1 from rfl, Nat.mul_one] at hv24
                                          replace hv24 := Option.some.inj (hv24.symm.trans HX219_0.out)
                                          subst hv24
                                          clear hcc24 hcl24
                                          replace ge24_0 := (show Kd.R (Kd.int .u8) 5 _ _ _ _ (rd_L1 x5_3 x16_1) from ge24_0)
                                          have HP24 := Kd.R_putg ge24_0 (x24_2 : Int) (Go.bits .xor .u8 (rd (rd_L1 x5_3 x16_1) x24_2) t225)
                                          rw [← Ny226.out] at HP24
                                          have HS24 := hbk24 HP24.2 (fun k_ e_ => by injection e_ with e_; subst e_; exact ge24_0.1 _ rfl) (x' := y226) (Kd.M_row HP24.1)
                                          rw [← Ny228.out] at HS24
                                          have HQ24 := Aside0.mk HS24
                                          clear HP24 HS24 hbk24 hok24
                                          refine hK.out _ _ ⟨hHeld.1, hHeld.2.1, ((HB.out.cell (World.block_lt_of_cell? w _ hw221_0)).trans hw221_0), ((HB.out.cell (World.block_lt_of_cell? w _ hw222_0)).trans hw222_0), ((HB.out.cell (World.block_lt_of_cell? w _ hw223_0)).trans hw223_0), ((HB.out.cell (World.block_lt_of_cell? w _ hw224_0)).trans hw224_0)⟩ (fun hHeld => ?_)
                                          clear hK K
                                          refine norm_ (a' := ?_) ?_ ?_
                                          rotate_left
                                          · show Act.put _ (some 53) _ = _
                                            simp only [Act.put, List.setIfInBounds_toArray, List.set_cons_zero, List.set_cons_succ, i64_w, i32_w]
                                            rfl
                                          refine pure_ (i := 22) (N := some 54) (v := ?_) (a' := ?_) #[true, true, true, true, true, true, true, true, true, true, true, true, true, true, true, true, true, true, true, true, true, true, true, false, false] rfl rfl (any_of HT_.out (by kernel_rfl)) (fun _ _ _ h => h) (Or.inl ⟨by rfl, ?_⟩) ?_ ?_
                                          rotate_left
                                          · intro w'
                                            go_simp
                                            with_reducible rfl
                                          rotate_left
                                          · simp only [Act.put, List.setIfInBounds_toArray, List.set_cons_zero, List.set_cons_succ, i64_w, i32_w]
                                            rfl
                                          refine pure_ (i := 23) (N := some 55) (v := ?_) (a' := ?_) #[true, true, true, true, true, true, true, true, true, true, true, true, true, true, true, true, true, true, true, true, true, true, true, true, false] rfl rfl (any_of HT_.out (by kernel_rfl)) (fun _ _ _ h => h) (Or.inl ⟨by rfl, ?_⟩) ?_ ?_
                                          rotate_left
                                          · intro w'
                                            go_simp
                                            with_reducible rfl
                                          rotate_left
                                          · simp only [Act.put, List.setIfInBounds_toArray, List.set_cons_zero, List.set_cons_succ, i64_w, i32_w]
                                            rfl
                                          refine last_ (i := 24) (N := none) #[true, true, true, true, true, true, true, true, true, true, true, true, true, true, true, true, true, true, true, true, true, true, true, true, true] rfl rfl (one_of HT_.out (by kernel_rfl)) (by decide) (fun K hK => ?_)
                                          refine skip_ (w1 := ?_) (by rfl) rfl ?_ ?_
                                          rotate_left
                                          · go_simp
                                            rfl
                                          refine hK.out _ _ ?_
                                          clear hK K
                                          refine done_ (done_of HT_.out (by kernel_rfl)) ?_
                                          try go_wp2
                                          (try simp only [← hl5_3])
                                          go_roundg k3
                                          case measure => have := HK1.out; have := HK2.out; have := HK3.out; omega
                                          case rel => exact ⟨(y228), (wrap64 (x29_3 + 1)), (by first | rfl | (simp; done) | (simp [*]; done)), H', ⟨by have := HK1.out; have := HK2.out; have := HK3.out; omega⟩, ⟨by (try simp only [hl5_2]); (try simp only [hl5_3]); (with_reducible repeat (first | apply Kd.S_alloc | apply Kd.S_drewN | apply Kd.S_drew)); exact HQ24.out⟩, ⟨by repeat (first | (with_reducible first | exact HB.out | apply below_alloc | apply pw_below_drewN | apply below_drew1 | refine below_set ?_ GB22.out) | exact HB.out)⟩⟩
                                        · rw [if_neg c20] at H
                                          exact absurd H (by simp)
                                      · rw [if_neg c19] at H
                                        exact absurd H (by simp)
                                    · rw [if_neg c18] at H
                                      exact absurd H (by simp)
                                  · rw [if_neg c17] at H
                                    exact absurd H (by simp)
                                · rw [if_neg c16] at H
                                  exact absurd H (by simp)
                              · rw [if_neg c15] at H
                                exact absurd H (by simp)
                            · rw [if_neg c14] at H
                              exact absurd H (by simp)
                          · rw [if_neg c13] at H
                            exact absurd H (by simp)
                        · rw [if_neg c12] at H
                          exact absurd H (by simp)
                      · rw [if_neg c11] at H
                        have c11b0 : decide (x29_3 < (l1.length : Int)) = false := decide_eq_false c11
                        (try (have c11b0hl5_2 := c11b0; rw [hl5_2] at c11b0hl5_2))
                        (try (have c11b0hl5_3 := c11b0; rw [hl5_3] at c11b0hl5_3))
                        clear c11
                        have H' := Aside0.mk H
                        clear H
                        go_wp2
                        (try simp only [← hl5_2, ← hl5_3])
                        go_roundg k3
                        case measure => have := HK1.out; have := HK2.out; have := HK3.out; omega
                        case rel => exact ⟨(x5_3), (wrap64 (x24_2 + 1)), (by first | rfl | (simp; done) | (simp [*]; done)), H', ⟨by have := HK1.out; have := HK2.out; have := HK3.out; omega⟩, ⟨by (try simp only [hl5_2]); (try simp only [hl5_3]); (with_reducible repeat (first | apply Kd.S_alloc | apply Kd.S_drewN | apply Kd.S_drew)); exact HO_5.out⟩, ⟨by repeat (first | (with_reducible first | exact HB.out | apply below_alloc | apply pw_below_drewN | apply below_drew1) | exact HB.out)⟩⟩
                · rw [if_neg c10] at H
                  have c10b0 : decide (x24_2 < ((rd_L1 x5_1 x16_1).length : Int)) = false := decide_eq_false c10
                  (try (have c10b0hl5_2 := c10b0; rw [hl5_2] at c10b0hl5_2))
                  clear c10
                  have H' := Aside0.mk H
                  clear H
                  go_wp2
                  (try simp only [← hl5_2])
                  go_roundg k2
                  case measure => have := HK1.out; have := HK2.out; omega
                  case rel => exact ⟨(x5_2), (wrap64 (x16_1 + 1)), (by first | rfl | (simp; done) | (simp [*]; done)), H', ⟨by have := HK1.out; have := HK2.out; omega⟩, ⟨by (try simp only [hl5_2]); (with_reducible repeat (first | apply Kd.S_alloc | apply Kd.S_drewN | apply Kd.S_drew)); exact HO_5.out⟩, ⟨by repeat (first | (with_reducible first | exact HB.out | apply below_alloc | apply pw_below_drewN | apply below_drew1) | exact HB.out)⟩⟩
          · rw [if_neg c8] at H
            exact absurd H (by simp)
        · rw [if_neg c7] at H
          exact absurd H (by simp)
      · rw [if_neg c6] at H
        have c6b0 : decide (x16_1 < (l0.length : Int)) = false := decide_eq_false c6
        clear c6
        obtain rfl := Option.some.inj H
        go_wp2
        go_ret
        exact ⟨_, by first | rfl | (simp [errW_none, errW_some] <;> rfl) | (simp [*, errW_none, errW_some] <;> rfl), by (with_reducible repeat (first | apply Kd.S_alloc | apply Kd.S_drewN | apply Kd.S_drew)); exact HO_5.out, by repeat (first | (with_reducible first | exact HB.out | apply below_alloc | apply pw_below_drewN | apply below_drew1) | exact HB.out)⟩

end Go.Proofs.YtipbhclpeogcmaaDoor.M

namespace Go.Proofs.YtipbhclpeogcmaaDoor.M
open Go.RowKit Go.Proofs.YtipbhclpeogcmaaDoorW.PrintWords Go.Proofs.YtipbhclpeogcmaaDoorW.PrintLast Go.Proofs.YtipbhclpeogcmaaDoorW.PrintMore
attribute [local go_sem] max2_int min2_int max_two min_two max_three min_three max_four min_four   -- for this text's walks alone
set_option linter.unusedVariables false
set_option linter.unusedSimpArgs false

/-! ### laws_FnMatrixIdentity: function 6 -/
def laws_FnMatrixIdentity.j0 : Nat → Int → List (List Int) → Bool → Bool → Option (Bool)
  | 0, _, _, _, _ => none
  | k + 1, x0, x3, x4, x15 => if x15 = true then (some (!x4)) else (if x4 = true then ((spec_Unit.f k x0).bind fun t163 => ((spec_EqualMatrices.f k x3 t163).bind fun t166 => (some t166))) else (some false))
def laws_FnMatrixIdentity.f (k : Nat) (a0 : Int) : Option (Bool) := (impl_Identity.f k a0).bind fun bt159 => (if a0 < 1 then (laws_FnMatrixIdentity.j0 k a0 bt159.1 bt159.2 true) else (laws_FnMatrixIdentity.j0 k a0 bt159.1 bt159.2 (decide (a0 > 256))))
theorem laws_FnMatrixIdentity.mono_l : ∀ k, (∀ y0 y1 y2 y3, LeO (laws_FnMatrixIdentity.j0 k y0 y1 y2 y3) (laws_FnMatrixIdentity.j0 (k + 1) y0 y1 y2 y3))
  | 0 => fun _ _ _ _ r h => by simp [laws_FnMatrixIdentity.j0] at h
  | k + 1 => by
    have ih0 := laws_FnMatrixIdentity.mono_l k
    · intro y0 y1 y2 y3
      unfold laws_FnMatrixIdentity.j0
      repeat' first
      | (with_reducible exact ih0 _ _ _ _)
      | (with_reducible exact impl_Identity.mono _ _)
      | (with_reducible exact spec_EqualMatrices.mono _ _ _)
      | (with_reducible exact spec_Unit.mono _ _)
      | (with_reducible exact LeO.refl _)
      | (with_reducible exact LeO.none _)
      | (with_reducible refine LeO.ite ?_ ?_)
      | (with_reducible refine LeO.bind ?_ (fun _ => ?_))
      | exact ih0 _ _ _ _
      | exact impl_Identity.mono _ _
      | exact spec_EqualMatrices.mono _ _ _
      | exact spec_Unit.mono _ _
      | exact LeO.none _
      | refine LeO.ite ?_ ?_
      | refine LeO.bind ?_ (fun _ => ?_)
theorem laws_FnMatrixIdentity.mono : ∀ a0 k, LeO (laws_FnMatrixIdentity.f k a0) (laws_FnMatrixIdentity.f (k + 1) a0) := by
  intro a0 k
  have ih0 := laws_FnMatrixIdentity.mono_l k
  unfold laws_FnMatrixIdentity.f
  repeat' first
      | (with_reducible exact ih0 _ _ _ _)
      | (with_reducible exact impl_Identity.mono _ _)
      | (with_reducible exact spec_EqualMatrices.mono _ _ _)
      | (with_reducible exact spec_Unit.mono _ _)
      | (with_reducible exact LeO.refl _)
      | (with_reducible exact LeO.none _)
      | (with_reducible refine LeO.ite ?_ ?_)
      | (with_reducible refine LeO.bind ?_ (fun _ => ?_))
      | exact ih0 _ _ _ _
      | exact impl_Identity.mono _ _
      | exact spec_EqualMatrices.mono _ _ _
      | exact spec_Unit.mono _ _
      | exact LeO.none _
      | refine LeO.ite ?_ ?_
      | refine LeO.bind ?_ (fun _ => ?_)
set_option maxHeartbeats 8000000 in
set_option maxRecDepth 100000 in
theorem laws_FnMatrixIdentity.calls (k : Nat) (a0 : Int) (r : Bool) (w : World) (hT : TabOK w) (h : laws_FnMatrixIdentity.f k a0 = some r) :
    Calls Tryd.prog 6 #[.int .i64 a0] w fun e w' => e = .returned (.bool r) ∧ Below w.heap.size w w' := by
  have HT := Aside0.mk hT
  clear hT
  have HB := Aside0.mk (Below.refl w.heap.size w)
  have H : ((impl_Identity.f k a0).bind fun bt159 => (if a0 < 1 then (laws_FnMatrixIdentity.j0 k a0 bt159.1 bt159.2 true) else (laws_FnMatrixIdentity.j0 k a0 bt159.1 bt159.2 (decide (a0 > 256))))) = some r := h
  clear h
  replace H := Option.bind_eq_some_iff.mp H
  obtain ⟨⟨t159, t160⟩, A20, H⟩ := H
  replace H : (if a0 < 1 then (laws_FnMatrixIdentity.j0 k a0 t159 t160 true) else (laws_FnMatrixIdentity.j0 k a0 t159 t160 (decide (a0 > 256)))) = some r := H
  have A2 := Aside0.mk A20
  clear A20
  have HC3 := Aside0.mk H
  clear H
  go_enter Tryd.func6, Tryd.ntmps6
  go_upto_region 2 with (first | ((with_reducible refine gate_callee (f := 16) rfl ?_); refine goesL_ (some 7) rfl rfl Tryd.func16 (by kernel_rfl) rfl #[.int .i64 a0] rfl (by (try simp only [List.map_toArray, List.map_cons, List.map_nil]); first | done | rfl | (simp only [List.length_drop, List.length_take]; rfl)) ?_; (with_reducible refine (impl_Identity.calls k a0 t159 t160 _ ?side1 A2.out).mono ?_); (case side1 => exact TabOK.below HT.out (by repeat (first | (with_reducible first | exact HB.out | apply below_alloc | apply pw_below_drewN | apply below_drew1) | exact HB.out))); rintro e w4 ⟨v161, rfl, ho0, hb⟩; refine ⟨_, rfl, ?_⟩; have n0_ := Aside0.mk (Kd.S_lower ho0 (below_size (by repeat (first | (with_reducible first | exact HB.out | apply below_alloc | apply pw_below_drewN | apply below_drew1) | exact HB.out)))); have n1_ := Aside0.mk (below_step (by repeat (first | (with_reducible first | exact HB.out | apply below_alloc | apply pw_below_drewN | apply below_drew1) | exact HB.out)) hb); clear HB; have HO162 := n0_; have HB := n1_; clear n0_ n1_; (try clear hb); (try clear hb2); (try clear hk); (try clear hi); (try clear ho0)))
  (try simp only [Act.put, List.setIfInBounds_toArray, List.set_cons_zero, List.set_cons_succ])
  go_cut [15] (fun v15 wc => ∃ (kq : Nat) (x15_2 : Bool), v15 = .bool x15_2 ∧ Aside0 (laws_FnMatrixIdentity.j0 kq a0 t159 t160 x15_2 = some r) ∧ Aside0 (kq ≤ k) ∧ Aside0 (Kd.S (Kd.slice 5 (Kd.int .u8)) 22 wc w.heap.size (fun _ => True) v161 t159) ∧ Aside0 (Below w.heap.size w wc))
  case first =>
    have H := HC3.out
    clear HC3
    by_cases c5 : a0 < 1
    · rw [if_pos c5] at H
      have c5b0 : decide (a0 < 1) = true := decide_eq_true c5
      clear c5
      (first | rw [c5b0] | (simp only [i64_w, i32_w]; rw [c5b0]) | skip)
      have H' := Aside0.mk H
      clear H
      go_wp2
      go_meet
      case rel => exact ⟨_, (true), (by first | rfl | (simp; done) | (simp [*]; done)), H', ⟨by first | omega | exact Nat.le_refl _⟩, ⟨by (with_reducible repeat (first | apply Kd.S_alloc | apply Kd.S_drewN | apply Kd.S_drew)); exact HO162.out⟩, ⟨by repeat (first | (with_reducible first | exact HB.out | apply below_alloc | apply pw_below_drewN | apply below_drew1) | exact HB.out)⟩⟩
    · rw [if_neg c5] at H
      have c5b0 : decide (a0 < 1) = false := decide_eq_false c5
      clear c5
      (first | rw [c5b0] | (simp only [i64_w, i32_w]; rw [c5b0]) | skip)
      have H' := Aside0.mk H
      clear H
      go_wp2
      go_meet
      case rel => exact ⟨_, (decide (a0 > 256)), (by first | rfl | (simp; done) | (simp [*]; done)), H', ⟨by first | omega | exact Nat.le_refl _⟩, ⟨by (with_reducible repeat (first | apply Kd.S_alloc | apply Kd.S_drewN | apply Kd.S_drew)); exact HO162.out⟩, ⟨by repeat (first | (with_reducible first | exact HB.out | apply below_alloc | apply pw_below_drewN | apply below_drew1) | exact HB.out)⟩⟩
  case rest =>
    clear HC3
    try clear c1
    try clear p2
    try clear c5
    try clear c5b0
    obtain ⟨kq, x15_2, rfl, HA, HJ2, HO_3, HB⟩ := hcut
    cases kq with
    | zero => exact absurd HA.out (by simp [laws_FnMatrixIdentity.j0])
    | succ kj2 =>
      have H := HA.out
      clear HA
      simp only [laws_FnMatrixIdentity.j0] at H
      by_cases c6 : x15_2 = true
      · subst c6
        have H1 : (some (!t160)) = some r := by rw [if_pos rfl] at H; exact H
        clear H
        have H := H1
        clear H1
        obtain rfl := Option.some.inj H
        go_wp2
        go_ret
        exact ⟨by first | rfl | (simp [errW_none, errW_some] <;> rfl) | (simp [*, errW_none, errW_some] <;> rfl), by repeat (first | (with_reducible first | exact HB.out | apply below_alloc | apply pw_below_drewN | apply below_drew1) | exact HB.out)⟩
      · replace c6 := Bool.eq_false_iff.mpr c6
        subst c6
        have H1 : (if t160 = true then ((spec_Unit.f kj2 a0).bind fun t163 => ((spec_EqualMatrices.f kj2 t159 t163).bind fun t166 => (some t166))) else (some false)) = some r := by rw [if_neg (show ¬ (false = true) by decide)] at H; exact H
        clear H
        have H := H1
        clear H1
        by_cases c7 : t160 = true
        · subst c7
          have H1 : ((spec_Unit.f kj2 a0).bind fun t163 => ((spec_EqualMatrices.f kj2 t159 t163).bind fun t166 => (some t166))) = some r := by rw [if_pos rfl] at H; exact H
          clear H
          have H := H1
          clear H1
          replace H := Option.bind_eq_some_iff.mp H
          obtain ⟨t163, A80, H⟩ := H
          replace H : ((spec_EqualMatrices.f kj2 t159 t163).bind fun t166 => (some t166)) = some r := H
          have A8 := Aside0.mk A80
          clear A80
          replace H := Option.bind_eq_some_iff.mp H
          obtain ⟨t166, A90, H⟩ := H
          replace H : (some t166) = some r := H
          have A9 := Aside0.mk A90
          clear A90
          obtain rfl := Option.some.inj H
          go_wp2_with (first | (go_at_call 18; (with_reducible refine (spec_Unit.calls kj2 a0 t163 _ A8.out).mono ?_); rintro e w10 ⟨v164, rfl, ho0, hb⟩; have n0_ := Aside0.mk (Kd.S_elder' (by (with_reducible repeat (first | apply Kd.S_alloc | apply Kd.S_drewN | apply Kd.S_drew)); exact HO_3.out) (Kd.S_base ho0) hb); have n1_ := Aside0.mk (Kd.S_lower (Kd.S_new' ho0 (Kd.S_lt (by (with_reducible repeat (first | apply Kd.S_alloc | apply Kd.S_drewN | apply Kd.S_drew)); exact HO_3.out))) (below_size (by repeat (first | (with_reducible first | exact HB.out | apply below_alloc | apply pw_below_drewN | apply below_drew1) | exact HB.out)))); have n2_ := Aside0.mk (below_step (by repeat (first | (with_reducible first | exact HB.out | apply below_alloc | apply pw_below_drewN | apply below_drew1) | exact HB.out)) hb); clear HO_3; clear HB; have HO_3 := n0_; have HO165 := n1_; have HB := n2_; clear n0_ n1_ n2_; (try clear hb); (try clear hb2); (try clear hk); (try clear hi); (try clear ho0); obtain ⟨Ao11, co11, eo11⟩ := Kd.S_slice HO_3.out; subst eo11; obtain ⟨Ao12, co12, eo12⟩ := Kd.S_slice HO165.out; subst eo12) | (go_at_call 17; (with_reducible refine (spec_EqualMatrices.calls kj2 _ _ t159 _ _ t163 t166 _ ?side1 ?side2 ?side3 ?side4 A9.out).mono ?_); (case side1 => repeat (first | exact (Kd.S_reads' HO_3.out).2.2 | (with_reducible refine Kd.C_alloc ?_ _) | (with_reducible refine Kd.C_drewN ?_ _) | (with_reducible refine Kd.C_drew ?_))); (case side2 => exact (Kd.S_reads' HO_3.out).2.1); (case side3 => repeat (first | exact (Kd.S_reads' HO165.out).2.2 | (with_reducible refine Kd.C_alloc ?_ _) | (with_reducible refine Kd.C_drewN ?_ _) | (with_reducible refine Kd.C_drew ?_))); (case side4 => exact (Kd.S_reads' HO165.out).2.1); rintro e w' ⟨rfl, ⟨nd, rfl⟩⟩))
          go_ret
          exact ⟨by first | rfl | (simp [errW_none, errW_some] <;> rfl) | (simp [*, errW_none, errW_some] <;> rfl), by repeat (first | (with_reducible first | exact HB.out | apply below_alloc | apply pw_below_drewN | apply below_drew1) | exact HB.out)⟩
        · replace c7 := Bool.eq_false_iff.mpr c7
          subst c7
          have H1 : (some false) = some r := by rw [if_neg (show ¬ (false = true) by decide)] at H; exact H
          clear H
          have H := H1
          clear H1
          obtain rfl := Option.some.inj H
          go_wp2
          go_ret
          exact ⟨by first | rfl | (simp [errW_none, errW_some] <;> rfl) | (simp [*, errW_none, errW_some] <;> rfl), by repeat (first | (with_reducible first | exact HB.out | apply below_alloc | apply pw_below_drewN | apply below_drew1) | exact HB.out)⟩

end Go.Proofs.YtipbhclpeogcmaaDoor.M

