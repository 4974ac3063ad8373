-- Written by a program of ours (wip/xp) out of the translation; Lean checks it.
import Derived.Test.YtkmdkmlgahfcpaaDoorSq
import Derived.Test.YtkmdkmlgahfcpaaDoorMm1
import Derived.Test.YtkmdkmlgahfcpaaDoorMm2
namespace Go.Proofs.YtkmdkmlgahfcpaaDoor.M
open Go.RowKit Go.Proofs.YtkmdkmlgahfcpaaDoorW.PrintWords Go.Proofs.YtkmdkmlgahfcpaaDoorW.PrintLast Go.Proofs.YtkmdkmlgahfcpaaDoorW.PrintMore
attribute [local go_sem] max2_int min2_int max_two min_two max_three min_three max_four min_four   -- for this text's walks alone
set_option linter.unusedVariables false
set_option linter.unusedSimpArgs false

/-! ### proof_chainInnerRight: function 84 -/
def proof_chainInnerRight.l0 : Nat → List Int → Int → List (List Int) → Int → Int → Int → Int → Int → Int → Int → Int → Option (List Int)
 | 0, _, _, _, _, _, _, _, _, _, _, _ => none
 | k + 1, x1, x3, x11, x12, x13, x9001000, x9001001, x9001002, x9001003, x9001004, x9001005 => if x13 < x12 then (if 0 ≤ x13 then (if x13 < (x11.length : Int) then (if 0 ≤ (IntKind.u64.wrap (x13)) then (if (Go.bits .and .u64 (shr .u64 x3 (IntKind.u64.wrap (x13))) 1) = 1 then ((impl_toy_HashChildren.f k x9001000 x9001001 x9001002 x9001003 x9001004 x9001005 (rd_L1 x11 x13) x1).bind fun t150 => (proof_chainInnerRight.l0 k t150 x3 x11 x12 (wrap64 (x13 + 1)) x9001000 x9001001 x9001002 x9001003 x9001004 x9001005)) else (proof_chainInnerRight.l0 k x1 x3 x11 x12 (wrap64 (x13 + 1)) x9001000 x9001001 x9001002 x9001003 x9001004 x9001005)) else (none)) else (none)) else (none)) else (some x1)
def proof_chainInnerRight.f (k : Nat) (a0_0 : Int) (a0_1 : Int) (a0_2 : Int) (a0_3 : Int) (a0_4 : Int) (a0_5 : Int) (l1 : List Int) (l2 : List (List Int)) (a3 : Int) : Option (List Int) := proof_chainInnerRight.l0 k l1 a3 l2 (l2.length : Int) 0 a0_0 a0_1 a0_2 a0_3 a0_4 a0_5
theorem proof_chainInnerRight.mono_l : ∀ k, (∀ y0 y1 y2 y3 y4 y5 y6 y7 y8 y9 y10, LeO (proof_chainInnerRight.l0 k y0 y1 y2 y3 y4 y5 y6 y7 y8 y9 y10) (proof_chainInnerRight.l0 (k + 1) y0 y1 y2 y3 y4 y5 y6 y7 y8 y9 y10))
 | 0 => fun _ _ _ _ _ _ _ _ _ _ _ r h => by simp [proof_chainInnerRight.l0] at h
 | k + 1 => by
  have ih0 := proof_chainInnerRight.mono_l k
  ·intro y0 y1 y2 y3 y4 y5 y6 y7 y8 y9 y10
   unfold proof_chainInnerRight.l0
   repeat' first
   | (with_reducible exact ih0 _ _ _ _ _ _ _ _ _ _ _)
   | (with_reducible exact impl_toy_HashChildren.mono _ _ _ _ _ _ _ _ _)
   | (with_reducible exact LeO.refl _)
   | (with_reducible exact LeO.none _)
   | (with_reducible refine LeO.ite ?_ ?_)
   | (with_reducible refine LeO.bind ?_ (fun _ => ?_))
   | exact ih0 _ _ _ _ _ _ _ _ _ _ _
   | exact impl_toy_HashChildren.mono _ _ _ _ _ _ _ _ _
   | exact LeO.none _
   | refine LeO.ite ?_ ?_
   | refine LeO.bind ?_ (fun _ => ?_)
theorem proof_chainInnerRight.mono : ∀ a0 a1 a2 a3 a4 a5 a6 a7 a8 k, LeO (proof_chainInnerRight.f k a0 a1 a2 a3 a4 a5 a6 a7 a8) (proof_chainInnerRight.f (k + 1) a0 a1 a2 a3 a4 a5 a6 a7 a8) := by
 intro a0 a1 a2 a3 a4 a5 a6 a7 a8 k
 have ih0 := proof_chainInnerRight.mono_l k
 unfold proof_chainInnerRight.f
 repeat' first
   | (with_reducible exact ih0 _ _ _ _ _ _ _ _ _ _ _)
   | (with_reducible exact impl_toy_HashChildren.mono _ _ _ _ _ _ _ _ _)
   | (with_reducible exact LeO.refl _)
   | (with_reducible exact LeO.none _)
   | (with_reducible refine LeO.ite ?_ ?_)
   | (with_reducible refine LeO.bind ?_ (fun _ => ?_))
   | exact ih0 _ _ _ _ _ _ _ _ _ _ _
   | exact impl_toy_HashChildren.mono _ _ _ _ _ _ _ _ _
   | exact LeO.none _
   | refine LeO.ite ?_ ?_
   | refine LeO.bind ?_ (fun _ => ?_)
set_option maxHeartbeats 8000000 in
set_option maxRecDepth 100000 in
theorem proof_chainInnerRight.calls (k : Nat) (a0_0 : Int) (a0_1 : Int) (a0_2 : Int) (a0_3 : Int) (a0_4 : Int) (a0_5 : Int) (P1_ : Nat → Prop) (A1 : Option Addr) (c1 : Nat) (l1 : List Int) (A2 : Option Addr) (c2 : Nat) (l2 : List (List Int)) (a3 : Int) (r : List Int) (w : World) (hs1 : Kd.V (Kd.int .u8) 5 w w.heap.size (fun k_ => P1_ k_) (.slice A1 l1.length c1) l1) (hr2 : Kd.C (Kd.slice 5 (Kd.int .u8)) w A2 l2.length l2) (hc2 : l2.length ≤ c2) (h : proof_chainInnerRight.f k a0_0 a0_1 a0_2 a0_3 a0_4 a0_5 l1 l2 a3 = some r) :
  Calls Tryd.prog 84 #[.iface 85 (.agg #[.int .i64 a0_0, .int .i64 a0_1, .int .i64 a0_2, .int .u64 a0_3, .int .u64 a0_4, .int .u64 a0_5]), .slice A1 l1.length c1, .slice A2 l2.length c2, .int .u64 a3] w fun e w' => ∃ v0_ : Value, e = .returned (v0_) ∧ Kd.V (Kd.int .u8) 5 w' w.heap.size (fun k_ => (P1_ k_ ∨ w.heap.size ≤ k_)) v0_ r ∧ Below w.heap.size w w' := by
 have HO1 := Aside0.mk (show Kd.V (Kd.int .u8) 5 w w.heap.size (fun k_ => (P1_ k_ ∨ w.heap.size ≤ k_)) (.slice A1 l1.length c1) l1 from Kd.V_mono hs1 (fun k_ hk => .inl hk))
 have HR2 := Aside0.mk hr2
 have HC2 := Aside0.mk hc2
 clear hr2 hc2
 have HB := Aside0.mk (Below.refl w.heap.size w)
 have H : (proof_chainInnerRight.l0 k l1 a3 l2 (l2.length : Int) 0 a0_0 a0_1 a0_2 a0_3 a0_4 a0_5) = some r := h
 clear h
 have H' := Aside0.mk H
 clear H
 go_enter Tryd.func84, Tryd.ntmps84
 go_wp2
 go_loopg [1, 13] k (fun kq v1 v13 w' => ∃ (x1_1 : List Int) (x13_1 : Int), v13 = .int .i64 x13_1 ∧ Aside0 (proof_chainInnerRight.l0 kq x1_1 a3 l2 (l2.length : Int) x13_1 a0_0 a0_1 a0_2 a0_3 a0_4 a0_5 = some r) ∧ Aside0 (kq ≤ k) ∧ Aside0 (Kd.V (Kd.int .u8) 5 w' w.heap.size (fun k_ => (P1_ k_ ∨ w.heap.size ≤ k_)) v1 x1_1) ∧ Aside0 (Below w.heap.size w w'))
 case atStart => exact ⟨(l1), (0), (by first | rfl | (simp; done) | (simp [*]; done)), H', ⟨Nat.le_refl _⟩, ⟨kV HO1.out⟩, ⟨bB⟩⟩
 case round =>
  clear H'
  try clear c1
  try clear c2
  try clear p2
  obtain ⟨x1_1, x13_1, rfl, HA, HK1, HO_1, HB⟩ := hrel
  cases gk with
  | zero => exact absurd HA.out (by simp [proof_chainInnerRight.l0])
  | succ k1 =>
   have H := HA.out
   clear HA
   simp only [proof_chainInnerRight.l0] at H
   by_cases c5 : x13_1 < (l2.length : Int)
   ·rw [if_pos c5] at H
    have c5b0 : decide (x13_1 < (l2.length : Int)) = true := decide_eq_true c5
    clear c5
    by_cases c6 : 0 ≤ x13_1
    ·rw [if_pos c6] at H
     have c6b0 : decide (0 ≤ x13_1) = true := decide_eq_true c6
     clear c6
     by_cases c7 : x13_1 < (l2.length : Int)
     ·rw [if_pos c7] at H
      have c7b0 : decide (x13_1 < (l2.length : Int)) = true := decide_eq_true c7
      clear c7
      obtain ⟨ji8, hji8⟩ : ∃ j_ : Int, (IntKind.u64.wrap (x13_1)) = j_ := ⟨_, rfl⟩
      replace H : (if 0 ≤ (ji8) then (if (Go.bits .and .u64 (shr .u64 a3 (ji8)) 1) = 1 then ((impl_toy_HashChildren.f k1 a0_0 a0_1 a0_2 a0_3 a0_4 a0_5 (rd_L1 l2 x13_1) x1_1).bind fun t150 => (proof_chainInnerRight.l0 k1 t150 a3 l2 (l2.length : Int) (wrap64 (x13_1 + 1)) a0_0 a0_1 a0_2 a0_3 a0_4 a0_5)) else (proof_chainInnerRight.l0 k1 x1_1 a3 l2 (l2.length : Int) (wrap64 (x13_1 + 1)) a0_0 a0_1 a0_2 a0_3 a0_4 a0_5)) else (none)) = some r := by first | (rw [hji8] at H; exact H) | (simp only [hji8] at H ⊢; exact H)
      by_cases c9 : 0 ≤ (ji8)
      ·rw [if_pos c9] at H
       have c9b0 := eq_true c9
       have c9b1 : decide (0 ≤ (ji8)) = true := decide_eq_true c9
       clear c9
       obtain ⟨ji10, hji10⟩ : ∃ j_ : Int, (shr .u64 a3 (ji8)) = j_ := ⟨_, rfl⟩
       replace H : (if (Go.bits .and .u64 (ji10) 1) = 1 then ((impl_toy_HashChildren.f k1 a0_0 a0_1 a0_2 a0_3 a0_4 a0_5 (rd_L1 l2 x13_1) x1_1).bind fun t150 => (proof_chainInnerRight.l0 k1 t150 a3 l2 (l2.length : Int) (wrap64 (x13_1 + 1)) a0_0 a0_1 a0_2 a0_3 a0_4 a0_5)) else (proof_chainInnerRight.l0 k1 x1_1 a3 l2 (l2.length : Int) (wrap64 (x13_1 + 1)) a0_0 a0_1 a0_2 a0_3 a0_4 a0_5)) = some r := by first | (rw [hji10] at H; exact H) | (simp only [hji10] at H ⊢; exact H)
       have hji10_ : (a3 / 2 ^ min (ji8).toNat 64) = ji10 := hji10
       have hji10z : (ji8) ≤ 64 → (a3 / 2 ^ (ji8).toNat) = ji10 := shr_small hji10
       by_cases c11 : (Go.bits .and .u64 (ji10) 1) = 1
       ·rw [if_pos c11] at H
        have c11b0 : ((Go.bits .and .u64 (ji10) 1) == 1) = true := beq_iff_eq.mpr c11
        have c11b1 : ((Go.bits .and .u64 (ji10) 1) != 1) = false := bne_eq_false_iff_eq.mpr c11
        clear c11
        replace H := Option.bind_eq_some_iff.mp H
        obtain ⟨t150, A120, H⟩ := H
        replace H : (proof_chainInnerRight.l0 k1 t150 a3 l2 (l2.length : Int) (wrap64 (x13_1 + 1)) a0_0 a0_1 a0_2 a0_3 a0_4 a0_5) = some r := H
        have A12 := Aside0.mk A120
        clear A120
        have H' := Aside0.mk H
        clear H
        have p149 : 0 ≤ (x13_1 : Int) := dA
        have q149 : x13_1 < (l2.length : Int) := dA
        obtain ⟨ad149, A149_0, c149_0, e149, hx149_0, hl149_0, hi149_0⟩ := at_L1 HR2.out x13_1 p149 q149
        cases e149
        replace hx149_0 := (HB.out.cell (World.block_lt_of_cell? w _ hx149_0)).trans hx149_0
        have HR149_0 := Aside0.mk hi149_0
        have HC149_0 := Aside0.mk hl149_0
        clear hi149_0 hl149_0
        replace p149 := eq_true p149
        replace q149 := eq_true q149
        obtain ⟨Ao13, co13, eo13⟩ := Kd.V_slice HO_1.out
        subst eo13
        go_wp2_with (first | ((with_reducible refine gate_invoke (m := "HashChildren") rfl ?_); refine invokesL_ (some 27) rfl rfl Tryd.func52 (by kernel_rfl) rfl 85 (.agg #[.int .i64 a0_0, .int .i64 a0_1, .int .i64 a0_2, .int .u64 a0_3, .int .u64 a0_4, .int .u64 a0_5]) #[.slice A149_0 (rd_L1 l2 x13_1).length c149_0, .slice Ao13 x1_1.length co13] #[.agg #[.int .i64 a0_0, .int .i64 a0_1, .int .i64 a0_2, .int .u64 a0_3, .int .u64 a0_4, .int .u64 a0_5], .slice A149_0 (rd_L1 l2 x13_1).length c149_0, .slice Ao13 x1_1.length co13] rfl rfl (by first | rfl | (simp only [Act.eval]; rfl)) aV (fun _ => by kernel_rfl) ?_; (with_reducible refine (impl_toy_HashChildren.calls k1 a0_0 a0_1 a0_2 a0_3 a0_4 a0_5 _ _ (rd_L1 l2 x13_1) _ _ x1_1 t150 _ ?side1 ?side2 ?side3 ?side4 A12.out).mono ?_); (case side1 => repeat (first | exact (Kd.C_below HR149_0.out HB.out) | (with_reducible refine Kd.C_alloc ?_ _) | (with_reducible refine Kd.C_drewN ?_ _) | (with_reducible refine Kd.C_drew ?_))); (case side2 => exact HC149_0.out); (case side3 => repeat (first | exact (Kd.V_reads' HO_1.out).2.2 | (with_reducible refine Kd.C_alloc ?_ _) | (with_reducible refine Kd.C_drewN ?_ _) | (with_reducible refine Kd.C_drew ?_))); (case side4 => exact (Kd.V_reads' HO_1.out).2.1); rintro e w14 ⟨v151, rfl, ho0, hb⟩; refine ⟨_, rfl, ?_⟩; have n0_ := Aside0.mk (Kd.V_elder' (kV HO_1.out) (Kd.R_base ho0) hb); have n1_ := Aside0.mk (Kd.R_lower (Kd.R_newM (M := fun k_ => (w.heap.size ≤ k_)) ho0 (below_size bB) (fun k_ h_ => h_)) (below_size bB)); have n2_ := Aside0.mk (below_step bB hb); clear HO_1; clear HB; have HO_1 := n0_; have HO152 := n1_; have HB := n2_; clear n0_ n1_ n2_; (try clear hb); (try clear hb2); (try clear hk); (try clear hi); (try clear ho0)))
        go_roundg k1
        case measure => have := HK1.out; omega
        case rel => exact ⟨(t150), (wrap64 (x13_1 + 1)), (by first | rfl | (simp; done) | (simp [*]; done)), H', ⟨by have := HK1.out; omega⟩, ⟨Kd.V_mono (Kd.R_V (by (with_reducible repeat (first | apply Kd.R_alloc | apply Kd.R_drewN | apply Kd.R_drew)); exact Kd.R_mono HO152.out (fun _ hk => hk.1))) (fun k_ hk => by first | exact ⟨(.inr (hk.1)), hk.2⟩ | exact (.inr (hk)))⟩, ⟨bB⟩⟩
       ·rw [if_neg c11] at H
        have c11b0 : ((Go.bits .and .u64 (ji10) 1) == 1) = false := beq_eq_false_iff_ne.mpr c11
        have c11b1 : ((Go.bits .and .u64 (ji10) 1) != 1) = true := bne_iff_ne.mpr c11
        have H' := Aside0.mk H
        clear H
        have p149 : 0 ≤ (x13_1 : Int) := dA
        have q149 : x13_1 < (l2.length : Int) := dA
        obtain ⟨ad149, A149_0, c149_0, e149, hx149_0, hl149_0, hi149_0⟩ := at_L1 HR2.out x13_1 p149 q149
        cases e149
        replace hx149_0 := (HB.out.cell (World.block_lt_of_cell? w _ hx149_0)).trans hx149_0
        have HR149_0 := Aside0.mk hi149_0
        have HC149_0 := Aside0.mk hl149_0
        clear hi149_0 hl149_0
        replace p149 := eq_true p149
        replace q149 := eq_true q149
        go_wp2
        go_roundg k1
        case measure => have := HK1.out; omega
        case rel => exact ⟨(x1_1), (wrap64 (x13_1 + 1)), (by first | rfl | (simp; done) | (simp [*]; done)), H', ⟨by have := HK1.out; omega⟩, ⟨kV HO_1.out⟩, ⟨bB⟩⟩
      ·rw [if_neg c9] at H
       exact absurd H (by simp)
     ·rw [if_neg c7] at H
      exact absurd H (by simp)
    ·rw [if_neg c6] at H
     exact absurd H (by simp)
   ·rw [if_neg c5] at H
    have c5b0 : decide (x13_1 < (l2.length : Int)) = false := decide_eq_false c5
    clear c5
    obtain rfl := Option.some.inj H
    go_wp2
    go_ret
    exact ⟨_, by first | rfl | (simp [errW_none, errW_some] <;> rfl) | (simp [*, errW_none, errW_some] <;> rfl), by (with_reducible repeat (first | apply Kd.V_alloc | apply Kd.V_drewN | apply Kd.V_drew)); exact HO_1.out, bB⟩


/-! ### proof_chainBorderRight: function 85 -/
def proof_chainBorderRight.l0 : Nat → List Int → List (List Int) → Int → Int → Int → Int → Int → Int → Int → Int → Option (List Int)
 | 0, _, _, _, _, _, _, _, _, _, _ => none
 | k + 1, x1, x9, x10, x11, x9001000, x9001001, x9001002, x9001003, x9001004, x9001005 => if x11 < x10 then (if 0 ≤ x11 then (if x11 < (x9.length : Int) then ((impl_toy_HashChildren.f k x9001000 x9001001 x9001002 x9001003 x9001004 x9001005 (rd_L1 x9 x11) x1).bind fun t154 => (proof_chainBorderRight.l0 k t154 x9 x10 (wrap64 (x11 + 1)) x9001000 x9001001 x9001002 x9001003 x9001004 x9001005)) else (none)) else (none)) else (some x1)
def proof_chainBorderRight.f (k : Nat) (a0_0 : Int) (a0_1 : Int) (a0_2 : Int) (a0_3 : Int) (a0_4 : Int) (a0_5 : Int) (l1 : List Int) (l2 : List (List Int)) : Option (List Int) := proof_chainBorderRight.l0 k l1 l2 (l2.length : Int) 0 a0_0 a0_1 a0_2 a0_3 a0_4 a0_5
theorem proof_chainBorderRight.mono_l : ∀ k, (∀ y0 y1 y2 y3 y4 y5 y6 y7 y8 y9, LeO (proof_chainBorderRight.l0 k y0 y1 y2 y3 y4 y5 y6 y7 y8 y9) (proof_chainBorderRight.l0 (k + 1) y0 y1 y2 y3 y4 y5 y6 y7 y8 y9))
 | 0 => fun _ _ _ _ _ _ _ _ _ _ r h => by simp [proof_chainBorderRight.l0] at h
 | k + 1 => by
  have ih0 := proof_chainBorderRight.mono_l k
  ·intro y0 y1 y2 y3 y4 y5 y6 y7 y8 y9
   unfold proof_chainBorderRight.l0
   repeat' first
   | (with_reducible exact ih0 _ _ _ _ _ _ _ _ _ _)
   | (with_reducible exact impl_toy_HashChildren.mono _ _ _ _ _ _ _ _ _)
   | (with_reducible exact LeO.refl _)
   | (with_reducible exact LeO.none _)
   | (with_reducible refine LeO.ite ?_ ?_)
   | (with_reducible refine LeO.bind ?_ (fun _ => ?_))
   | exact ih0 _ _ _ _ _ _ _ _ _ _
   | exact impl_toy_HashChildren.mono _ _ _ _ _ _ _ _ _
   | exact LeO.none _
   | refine LeO.ite ?_ ?_
   | refine LeO.bind ?_ (fun _ => ?_)
theorem proof_chainBorderRight.mono : ∀ a0 a1 a2 a3 a4 a5 a6 a7 k, LeO (proof_chainBorderRight.f k a0 a1 a2 a3 a4 a5 a6 a7) (proof_chainBorderRight.f (k + 1) a0 a1 a2 a3 a4 a5 a6 a7) := by
 intro a0 a1 a2 a3 a4 a5 a6 a7 k
 have ih0 := proof_chainBorderRight.mono_l k
 unfold proof_chainBorderRight.f
 repeat' first
   | (with_reducible exact ih0 _ _ _ _ _ _ _ _ _ _)
   | (with_reducible exact impl_toy_HashChildren.mono _ _ _ _ _ _ _ _ _)
   | (with_reducible exact LeO.refl _)
   | (with_reducible exact LeO.none _)
   | (with_reducible refine LeO.ite ?_ ?_)
   | (with_reducible refine LeO.bind ?_ (fun _ => ?_))
   | exact ih0 _ _ _ _ _ _ _ _ _ _
   | exact impl_toy_HashChildren.mono _ _ _ _ _ _ _ _ _
   | exact LeO.none _
   | refine LeO.ite ?_ ?_
   | refine LeO.bind ?_ (fun _ => ?_)
set_option maxHeartbeats 8000000 in
set_option maxRecDepth 100000 in
theorem proof_chainBorderRight.calls (k : Nat) (a0_0 : Int) (a0_1 : Int) (a0_2 : Int) (a0_3 : Int) (a0_4 : Int) (a0_5 : Int) (P1_ : Nat → Prop) (A1 : Option Addr) (c1 : Nat) (l1 : List Int) (A2 : Option Addr) (c2 : Nat) (l2 : List (List Int)) (r : List Int) (w : World) (hs1 : Kd.V (Kd.int .u8) 5 w w.heap.size (fun k_ => P1_ k_) (.slice A1 l1.length c1) l1) (hr2 : Kd.C (Kd.slice 5 (Kd.int .u8)) w A2 l2.length l2) (hc2 : l2.length ≤ c2) (h : proof_chainBorderRight.f k a0_0 a0_1 a0_2 a0_3 a0_4 a0_5 l1 l2 = some r) :
  Calls Tryd.prog 85 #[.iface 85 (.agg #[.int .i64 a0_0, .int .i64 a0_1, .int .i64 a0_2, .int .u64 a0_3, .int .u64 a0_4, .int .u64 a0_5]), .slice A1 l1.length c1, .slice A2 l2.length c2] w fun e w' => ∃ v0_ : Value, e = .returned (v0_) ∧ Kd.V (Kd.int .u8) 5 w' w.heap.size (fun k_ => (P1_ k_ ∨ w.heap.size ≤ k_)) v0_ r ∧ Below w.heap.size w w' := by
 have HO1 := Aside0.mk (show Kd.V (Kd.int .u8) 5 w w.heap.size (fun k_ => (P1_ k_ ∨ w.heap.size ≤ k_)) (.slice A1 l1.length c1) l1 from Kd.V_mono hs1 (fun k_ hk => .inl hk))
 have HR2 := Aside0.mk hr2
 have HC2 := Aside0.mk hc2
 clear hr2 hc2
 have HB := Aside0.mk (Below.refl w.heap.size w)
 have H : (proof_chainBorderRight.l0 k l1 l2 (l2.length : Int) 0 a0_0 a0_1 a0_2 a0_3 a0_4 a0_5) = some r := h
 clear h
 have H' := Aside0.mk H
 clear H
 go_enter Tryd.func85, Tryd.ntmps85
 go_wp2
 go_loopg [1, 11] k (fun kq v1 v11 w' => ∃ (x1_1 : List Int) (x11_1 : Int), v11 = .int .i64 x11_1 ∧ Aside0 (proof_chainBorderRight.l0 kq x1_1 l2 (l2.length : Int) x11_1 a0_0 a0_1 a0_2 a0_3 a0_4 a0_5 = some r) ∧ Aside0 (kq ≤ k) ∧ Aside0 (Kd.V (Kd.int .u8) 5 w' w.heap.size (fun k_ => (P1_ k_ ∨ w.heap.size ≤ k_)) v1 x1_1) ∧ Aside0 (Below w.heap.size w w'))
 case atStart => exact ⟨(l1), (0), (by first | rfl | (simp; done) | (simp [*]; done)), H', ⟨Nat.le_refl _⟩, ⟨kV HO1.out⟩, ⟨bB⟩⟩
 case round =>
  clear H'
  try clear c1
  try clear c2
  try clear p2
  obtain ⟨x1_1, x11_1, rfl, HA, HK1, HO_1, HB⟩ := hrel
  cases gk with
  | zero => exact absurd HA.out (by simp [proof_chainBorderRight.l0])
  | succ k1 =>
   have H := HA.out
   clear HA
   simp only [proof_chainBorderRight.l0] at H
   by_cases c4 : x11_1 < (l2.length : Int)
   ·rw [if_pos c4] at H
    have c4b0 : decide (x11_1 < (l2.length : Int)) = true := decide_eq_true c4
    clear c4
    by_cases c5 : 0 ≤ x11_1
    ·rw [if_pos c5] at H
     have c5b0 : decide (0 ≤ x11_1) = true := decide_eq_true c5
     clear c5
     by_cases c6 : x11_1 < (l2.length : Int)
     ·rw [if_pos c6] at H
      have c6b0 : decide (x11_1 < (l2.length : Int)) = true := decide_eq_true c6
      clear c6
      replace H := Option.bind_eq_some_iff.mp H
      obtain ⟨t154, A70, H⟩ := H
      replace H : (proof_chainBorderRight.l0 k1 t154 l2 (l2.length : Int) (wrap64 (x11_1 + 1)) a0_0 a0_1 a0_2 a0_3 a0_4 a0_5) = some r := H
      have A7 := Aside0.mk A70
      clear A70
      have H' := Aside0.mk H
      clear H
      have p153 : 0 ≤ (x11_1 : Int) := dA
      have q153 : x11_1 < (l2.length : Int) := dA
      obtain ⟨ad153, A153_0, c153_0, e153, hx153_0, hl153_0, hi153_0⟩ := at_L1 HR2.out x11_1 p153 q153
      cases e153
      replace hx153_0 := (HB.out.cell (World.block_lt_of_cell? w _ hx153_0)).trans hx153_0
      have HR153_0 := Aside0.mk hi153_0
      have HC153_0 := Aside0.mk hl153_0
      clear hi153_0 hl153_0
      replace p153 := eq_true p153
      replace q153 := eq_true q153
      obtain ⟨Ao8, co8, eo8⟩ := Kd.V_slice HO_1.out
      subst eo8
      go_wp2_with (first | ((with_reducible refine gate_invoke (m := "HashChildren") rfl ?_); refine invokesL_ (some 18) rfl rfl Tryd.func52 (by kernel_rfl) rfl 85 (.agg #[.int .i64 a0_0, .int .i64 a0_1, .int .i64 a0_2, .int .u64 a0_3, .int .u64 a0_4, .int .u64 a0_5]) #[.slice A153_0 (rd_L1 l2 x11_1).length c153_0, .slice Ao8 x1_1.length co8] #[.agg #[.int .i64 a0_0, .int .i64 a0_1, .int .i64 a0_2, .int .u64 a0_3, .int .u64 a0_4, .int .u64 a0_5], .slice A153_0 (rd_L1 l2 x11_1).length c153_0, .slice Ao8 x1_1.length co8] rfl rfl (by first | rfl | (simp only [Act.eval]; rfl)) aV (fun _ => by kernel_rfl) ?_; (with_reducible refine (impl_toy_HashChildren.calls k1 a0_0 a0_1 a0_2 a0_3 a0_4 a0_5 _ _ (rd_L1 l2 x11_1) _ _ x1_1 t154 _ ?side1 ?side2 ?side3 ?side4 A7.out).mono ?_); (case side1 => repeat (first | exact (Kd.C_below HR153_0.out HB.out) | (with_reducible refine Kd.C_alloc ?_ _) | (with_reducible refine Kd.C_drewN ?_ _) | (with_reducible refine Kd.C_drew ?_))); (case side2 => exact HC153_0.out); (case side3 => repeat (first | exact (Kd.V_reads' HO_1.out).2.2 | (with_reducible refine Kd.C_alloc ?_ _) | (with_reducible refine Kd.C_drewN ?_ _) | (with_reducible refine Kd.C_drew ?_))); (case side4 => exact (Kd.V_reads' HO_1.out).2.1); rintro e w9 ⟨v155, rfl, ho0, hb⟩; refine ⟨_, rfl, ?_⟩; have n0_ := Aside0.mk (Kd.V_elder' (kV HO_1.out) (Kd.R_base ho0) hb); have n1_ := Aside0.mk (Kd.R_lower (Kd.R_newM (M := fun k_ => (w.heap.size ≤ k_)) ho0 (below_size bB) (fun k_ h_ => h_)) (below_size bB)); have n2_ := Aside0.mk (below_step bB hb); clear HO_1; clear HB; have HO_1 := n0_; have HO156 := n1_; have HB := n2_; clear n0_ n1_ n2_; (try clear hb); (try clear hb2); (try clear hk); (try clear hi); (try clear ho0)))
      go_roundg k1
      case measure => have := HK1.out; omega
      case rel => exact ⟨(t154), (wrap64 (x11_1 + 1)), (by first | rfl | (simp; done) | (simp [*]; done)), H', ⟨by have := HK1.out; omega⟩, ⟨Kd.V_mono (Kd.R_V (by (with_reducible repeat (first | apply Kd.R_alloc | apply Kd.R_drewN | apply Kd.R_drew)); exact Kd.R_mono HO156.out (fun _ hk => hk.1))) (fun k_ hk => by first | exact ⟨(.inr (hk.1)), hk.2⟩ | exact (.inr (hk)))⟩, ⟨bB⟩⟩
     ·rw [if_neg c6] at H
      exact absurd H (by simp)
    ·rw [if_neg c5] at H
     exact absurd H (by simp)
   ·rw [if_neg c4] at H
    have c4b0 : decide (x11_1 < (l2.length : Int)) = false := decide_eq_false c4
    clear c4
    obtain rfl := Option.some.inj H
    go_wp2
    go_ret
    exact ⟨_, by first | rfl | (simp [errW_none, errW_some] <;> rfl) | (simp [*, errW_none, errW_some] <;> rfl), by (with_reducible repeat (first | apply Kd.V_alloc | apply Kd.V_drewN | apply Kd.V_drew)); exact HO_1.out, bB⟩


/-! ### proof_chainInner: function 86 -/
def proof_chainInner.l0 : Nat → List Int → Int → List (List Int) → Int → Int → Int → Int → Int → Int → Int → Int → Option (List Int)
 | 0, _, _, _, _, _, _, _, _, _, _, _ => none
 | k + 1, x1, x3, x11, x12, x13, x9001000, x9001001, x9001002, x9001003, x9001004, x9001005 => if x13 < x12 then (if 0 ≤ x13 then (if x13 < (x11.length : Int) then (if 0 ≤ (IntKind.u64.wrap (x13)) then (if (Go.bits .and .u64 (shr .u64 x3 (IntKind.u64.wrap (x13))) 1) = 0 then ((impl_toy_HashChildren.f k x9001000 x9001001 x9001002 x9001003 x9001004 x9001005 x1 (rd_L1 x11 x13)).bind fun t158 => (proof_chainInner.l0 k t158 x3 x11 x12 (wrap64 (x13 + 1)) x9001000 x9001001 x9001002 x9001003 x9001004 x9001005)) else ((impl_toy_HashChildren.f k x9001000 x9001001 x9001002 x9001003 x9001004 x9001005 (rd_L1 x11 x13) x1).bind fun t161 => (proof_chainInner.l0 k t161 x3 x11 x12 (wrap64 (x13 + 1)) x9001000 x9001001 x9001002 x9001003 x9001004 x9001005))) else (none)) else (none)) else (none)) else (some x1)
def proof_chainInner.f (k : Nat) (a0_0 : Int) (a0_1 : Int) (a0_2 : Int) (a0_3 : Int) (a0_4 : Int) (a0_5 : Int) (l1 : List Int) (l2 : List (List Int)) (a3 : Int) : Option (List Int) := proof_chainInner.l0 k l1 a3 l2 (l2.length : Int) 0 a0_0 a0_1 a0_2 a0_3 a0_4 a0_5
theorem proof_chainInner.mono_l : ∀ k, (∀ y0 y1 y2 y3 y4 y5 y6 y7 y8 y9 y10, LeO (proof_chainInner.l0 k y0 y1 y2 y3 y4 y5 y6 y7 y8 y9 y10) (proof_chainInner.l0 (k + 1) y0 y1 y2 y3 y4 y5 y6 y7 y8 y9 y10))
 | 0 => fun _ _ _ _ _ _ _ _ _ _ _ r h => by simp [proof_chainInner.l0] at h
 | k + 1 => by
  have ih0 := proof_chainInner.mono_l k
  ·intro y0 y1 y2 y3 y4 y5 y6 y7 y8 y9 y10
   unfold proof_chainInner.l0
   repeat' first
   | (with_reducible exact ih0 _ _ _ _ _ _ _ _ _ _ _)
   | (with_reducible exact impl_toy_HashChildren.mono _ _ _ _ _ _ _ _ _)
   | (with_reducible exact LeO.refl _)
   | (with_reducible exact LeO.none _)
   | (with_reducible refine LeO.ite ?_ ?_)
   | (with_reducible refine LeO.bind ?_ (fun _ => ?_))
   | exact ih0 _ _ _ _ _ _ _ _ _ _ _
   | exact impl_toy_HashChildren.mono _ _ _ _ _ _ _ _ _
   | exact LeO.none _
   | refine LeO.ite ?_ ?_
   | refine LeO.bind ?_ (fun _ => ?_)
theorem proof_chainInner.mono : ∀ a0 a1 a2 a3 a4 a5 a6 a7 a8 k, LeO (proof_chainInner.f k a0 a1 a2 a3 a4 a5 a6 a7 a8) (proof_chainInner.f (k + 1) a0 a1 a2 a3 a4 a5 a6 a7 a8) := by
 intro a0 a1 a2 a3 a4 a5 a6 a7 a8 k
 have ih0 := proof_chainInner.mono_l k
 unfold proof_chainInner.f
 repeat' first
   | (with_reducible exact ih0 _ _ _ _ _ _ _ _ _ _ _)
   | (with_reducible exact impl_toy_HashChildren.mono _ _ _ _ _ _ _ _ _)
   | (with_reducible exact LeO.refl _)
   | (with_reducible exact LeO.none _)
   | (with_reducible refine LeO.ite ?_ ?_)
   | (with_reducible refine LeO.bind ?_ (fun _ => ?_))
   | exact ih0 _ _ _ _ _ _ _ _ _ _ _
   | exact impl_toy_HashChildren.mono _ _ _ _ _ _ _ _ _
   | exact LeO.none _
   | refine LeO.ite ?_ ?_
   | refine LeO.bind ?_ (fun _ => ?_)
set_option maxHeartbeats 8000000 in
set_option maxRecDepth 100000 in
theorem proof_chainInner.calls (k : Nat) (a0_0 : Int) (a0_1 : Int) (a0_2 : Int) (a0_3 : Int) (a0_4 : Int) (a0_5 : Int) (P1_ : Nat → Prop) (A1 : Option Addr) (c1 : Nat) (l1 : List Int) (A2 : Option Addr) (c2 : Nat) (l2 : List (List Int)) (a3 : Int) (r : List Int) (w : World) (hs1 : Kd.V (Kd.int .u8) 5 w w.heap.size (fun k_ => P1_ k_) (.slice A1 l1.length c1) l1) (hr2 : Kd.C (Kd.slice 5 (Kd.int .u8)) w A2 l2.length l2) (hc2 : l2.length ≤ c2) (h : proof_chainInner.f k a0_0 a0_1 a0_2 a0_3 a0_4 a0_5 l1 l2 a3 = some r) :
  Calls Tryd.prog 86 #[.iface 85 (.agg #[.int .i64 a0_0, .int .i64 a0_1, .int .i64 a0_2, .int .u64 a0_3, .int .u64 a0_4, .int .u64 a0_5]), .slice A1 l1.length c1, .slice A2 l2.length c2, .int .u64 a3] w fun e w' => ∃ v0_ : Value, e = .returned (v0_) ∧ Kd.V (Kd.int .u8) 5 w' w.heap.size (fun k_ => (P1_ k_ ∨ w.heap.size ≤ k_)) v0_ r ∧ Below w.heap.size w w' := by
 have HO1 := Aside0.mk (show Kd.V (Kd.int .u8) 5 w w.heap.size (fun k_ => (P1_ k_ ∨ w.heap.size ≤ k_)) (.slice A1 l1.length c1) l1 from Kd.V_mono hs1 (fun k_ hk => .inl hk))
 have HR2 := Aside0.mk hr2
 have HC2 := Aside0.mk hc2
 clear hr2 hc2
 have HB := Aside0.mk (Below.refl w.heap.size w)
 have H : (proof_chainInner.l0 k l1 a3 l2 (l2.length : Int) 0 a0_0 a0_1 a0_2 a0_3 a0_4 a0_5) = some r := h
 clear h
 have H' := Aside0.mk H
 clear H
 go_enter Tryd.func86, Tryd.ntmps86
 go_wp2
 go_loopg [1, 13] k (fun kq v1 v13 w' => ∃ (x1_1 : List Int) (x13_1 : Int), v13 = .int .i64 x13_1 ∧ Aside0 (proof_chainInner.l0 kq x1_1 a3 l2 (l2.length : Int) x13_1 a0_0 a0_1 a0_2 a0_3 a0_4 a0_5 = some r) ∧ Aside0 (kq ≤ k) ∧ Aside0 (Kd.V (Kd.int .u8) 5 w' w.heap.size (fun k_ => (P1_ k_ ∨ w.heap.size ≤ k_)) v1 x1_1) ∧ Aside0 (Below w.heap.size w w'))
 case atStart => exact ⟨(l1), (0), (by first | rfl | (simp; done) | (simp [*]; done)), H', ⟨Nat.le_refl _⟩, ⟨kV HO1.out⟩, ⟨bB⟩⟩
 case round =>
  clear H'
  try clear c1
  try clear c2
  try clear p2
  obtain ⟨x1_1, x13_1, rfl, HA, HK1, HO_1, HB⟩ := hrel
  cases gk with
  | zero => exact absurd HA.out (by simp [proof_chainInner.l0])
  | succ k1 =>
   have H := HA.out
   clear HA
   simp only [proof_chainInner.l0] at H
   by_cases c5 : x13_1 < (l2.length : Int)
   ·rw [if_pos c5] at H
    have c5b0 : decide (x13_1 < (l2.length : Int)) = true := decide_eq_true c5
    clear c5
    by_cases c6 : 0 ≤ x13_1
    ·rw [if_pos c6] at H
     have c6b0 : decide (0 ≤ x13_1) = true := decide_eq_true c6
     clear c6
     by_cases c7 : x13_1 < (l2.length : Int)
     ·rw [if_pos c7] at H
      have c7b0 : decide (x13_1 < (l2.length : Int)) = true := decide_eq_true c7
      clear c7
      obtain ⟨ji8, hji8⟩ : ∃ j_ : Int, (IntKind.u64.wrap (x13_1)) = j_ := ⟨_, rfl⟩
      replace H : (if 0 ≤ (ji8) then (if (Go.bits .and .u64 (shr .u64 a3 (ji8)) 1) = 0 then ((impl_toy_HashChildren.f k1 a0_0 a0_1 a0_2 a0_3 a0_4 a0_5 x1_1 (rd_L1 l2 x13_1)).bind fun t158 => (proof_chainInner.l0 k1 t158 a3 l2 (l2.length : Int) (wrap64 (x13_1 + 1)) a0_0 a0_1 a0_2 a0_3 a0_4 a0_5)) else ((impl_toy_HashChildren.f k1 a0_0 a0_1 a0_2 a0_3 a0_4 a0_5 (rd_L1 l2 x13_1) x1_1).bind fun t161 => (proof_chainInner.l0 k1 t161 a3 l2 (l2.length : Int) (wrap64 (x13_1 + 1)) a0_0 a0_1 a0_2 a0_3 a0_4 a0_5))) else (none)) = some r := by first | (rw [hji8] at H; exact H) | (simp only [hji8] at H ⊢; exact H)
      by_cases c9 : 0 ≤ (ji8)
      ·rw [if_pos c9] at H
       have c9b0 := eq_true c9
       have c9b1 : decide (0 ≤ (ji8)) = true := decide_eq_true c9
       clear c9
       obtain ⟨ji10, hji10⟩ : ∃ j_ : Int, (shr .u64 a3 (ji8)) = j_ := ⟨_, rfl⟩
       replace H : (if (Go.bits .and .u64 (ji10) 1) = 0 then ((impl_toy_HashChildren.f k1 a0_0 a0_1 a0_2 a0_3 a0_4 a0_5 x1_1 (rd_L1 l2 x13_1)).bind fun t158 => (proof_chainInner.l0 k1 t158 a3 l2 (l2.length : Int) (wrap64 (x13_1 + 1)) a0_0 a0_1 a0_2 a0_3 a0_4 a0_5)) else ((impl_toy_HashChildren.f k1 a0_0 a0_1 a0_2 a0_3 a0_4 a0_5 (rd_L1 l2 x13_1) x1_1).bind fun t161 => (proof_chainInner.l0 k1 t161 a3 l2 (l2.length : Int) (wrap64 (x13_1 + 1)) a0_0 a0_1 a0_2 a0_3 a0_4 a0_5))) = some r := by first | (rw [hji10] at H; exact H) | (simp only [hji10] at H ⊢; exact H)
       have hji10_ : (a3 / 2 ^ min (ji8).toNat 64) = ji10 := hji10
       have hji10z : (ji8) ≤ 64 → (a3 / 2 ^ (ji8).toNat) = ji10 := shr_small hji10
       by_cases c11 : (Go.bits .and .u64 (ji10) 1) = 0
       ·rw [if_pos c11] at H
        have c11b0 : ((Go.bits .and .u64 (ji10) 1) == 0) = true := beq_iff_eq.mpr c11
        have c11b1 : ((Go.bits .and .u64 (ji10) 1) != 0) = false := bne_eq_false_iff_eq.mpr c11
        clear c11
        replace H := Option.bind_eq_some_iff.mp H
        obtain ⟨t158, A120, H⟩ := H
        replace H : (proof_chainInner.l0 k1 t158 a3 l2 (l2.length : Int) (wrap64 (x13_1 + 1)) a0_0 a0_1 a0_2 a0_3 a0_4 a0_5) = some r := H
        have A12 := Aside0.mk A120
        clear A120
        have H' := Aside0.mk H
        clear H
        have p157 : 0 ≤ (x13_1 : Int) := dA
        have q157 : x13_1 < (l2.length : Int) := dA
        obtain ⟨ad157, A157_0, c157_0, e157, hx157_0, hl157_0, hi157_0⟩ := at_L1 HR2.out x13_1 p157 q157
        cases e157
        replace hx157_0 := (HB.out.cell (World.block_lt_of_cell? w _ hx157_0)).trans hx157_0
        have HR157_0 := Aside0.mk hi157_0
        have HC157_0 := Aside0.mk hl157_0
        clear hi157_0 hl157_0
        replace p157 := eq_true p157
        replace q157 := eq_true q157
        obtain ⟨Ao13, co13, eo13⟩ := Kd.V_slice HO_1.out
        subst eo13
        go_wp2_with (first | ((with_reducible refine gate_invoke (m := "HashChildren") rfl ?_); refine invokesL_ (some 27) rfl rfl Tryd.func52 (by kernel_rfl) rfl 85 (.agg #[.int .i64 a0_0, .int .i64 a0_1, .int .i64 a0_2, .int .u64 a0_3, .int .u64 a0_4, .int .u64 a0_5]) #[.slice Ao13 x1_1.length co13, .slice A157_0 (rd_L1 l2 x13_1).length c157_0] #[.agg #[.int .i64 a0_0, .int .i64 a0_1, .int .i64 a0_2, .int .u64 a0_3, .int .u64 a0_4, .int .u64 a0_5], .slice Ao13 x1_1.length co13, .slice A157_0 (rd_L1 l2 x13_1).length c157_0] rfl rfl (by first | rfl | (simp only [Act.eval]; rfl)) aV (fun _ => by kernel_rfl) ?_; (with_reducible refine (impl_toy_HashChildren.calls k1 a0_0 a0_1 a0_2 a0_3 a0_4 a0_5 _ _ x1_1 _ _ (rd_L1 l2 x13_1) t158 _ ?side1 ?side2 ?side3 ?side4 A12.out).mono ?_); (case side1 => repeat (first | exact (Kd.V_reads' HO_1.out).2.2 | (with_reducible refine Kd.C_alloc ?_ _) | (with_reducible refine Kd.C_drewN ?_ _) | (with_reducible refine Kd.C_drew ?_))); (case side2 => exact (Kd.V_reads' HO_1.out).2.1); (case side3 => repeat (first | exact (Kd.C_below HR157_0.out HB.out) | (with_reducible refine Kd.C_alloc ?_ _) | (with_reducible refine Kd.C_drewN ?_ _) | (with_reducible refine Kd.C_drew ?_))); (case side4 => exact HC157_0.out); rintro e w14 ⟨v159, rfl, ho0, hb⟩; refine ⟨_, rfl, ?_⟩; have n0_ := Aside0.mk (Kd.V_elder' (kV HO_1.out) (Kd.R_base ho0) hb); have n1_ := Aside0.mk (Kd.R_lower (Kd.R_newM (M := fun k_ => (w.heap.size ≤ k_)) ho0 (below_size bB) (fun k_ h_ => h_)) (below_size bB)); have n2_ := Aside0.mk (below_step bB hb); clear HO_1; clear HB; have HO_1 := n0_; have HO160 := n1_; have HB := n2_; clear n0_ n1_ n2_; (try clear hb); (try clear hb2); (try clear hk); (try clear hi); (try clear ho0)))
        go_roundg k1
        case measure => have := HK1.out; omega
        case rel => exact ⟨(t158), (wrap64 (x13_1 + 1)), (by first | rfl | (simp; done) | (simp [*]; done)), H', ⟨by have := HK1.out; omega⟩, ⟨Kd.V_mono (Kd.R_V (by (with_reducible repeat (first | apply Kd.R_alloc | apply Kd.R_drewN | apply Kd.R_drew)); exact Kd.R_mono HO160.out (fun _ hk => hk.1))) (fun k_ hk => by first | exact ⟨(.inr (hk.1)), hk.2⟩ | exact (.inr (hk)))⟩, ⟨bB⟩⟩
       ·rw [if_neg c11] at H
        have c11b0 : ((Go.bits .and .u64 (ji10) 1) == 0) = false := beq_eq_false_iff_ne.mpr c11
        have c11b1 : ((Go.bits .and .u64 (ji10) 1) != 0) = true := bne_iff_ne.mpr c11
        replace H := Option.bind_eq_some_iff.mp H
        obtain ⟨t161, A150, H⟩ := H
        replace H : (proof_chainInner.l0 k1 t161 a3 l2 (l2.length : Int) (wrap64 (x13_1 + 1)) a0_0 a0_1 a0_2 a0_3 a0_4 a0_5) = some r := H
        have A15 := Aside0.mk A150
        clear A150
        have H' := Aside0.mk H
        clear H
        have p157 : 0 ≤ (x13_1 : Int) := dA
        have q157 : x13_1 < (l2.length : Int) := dA
        obtain ⟨ad157, A157_0, c157_0, e157, hx157_0, hl157_0, hi157_0⟩ := at_L1 HR2.out x13_1 p157 q157
        cases e157
        replace hx157_0 := (HB.out.cell (World.block_lt_of_cell? w _ hx157_0)).trans hx157_0
        have HR157_0 := Aside0.mk hi157_0
        have HC157_0 := Aside0.mk hl157_0
        clear hi157_0 hl157_0
        replace p157 := eq_true p157
        replace q157 := eq_true q157
        obtain ⟨Ao16, co16, eo16⟩ := Kd.V_slice HO_1.out
        subst eo16
        go_wp2_with (first | ((with_reducible refine gate_invoke (m := "HashChildren") rfl ?_); refine invokesL_ (some 31) rfl rfl Tryd.func52 (by kernel_rfl) rfl 85 (.agg #[.int .i64 a0_0, .int .i64 a0_1, .int .i64 a0_2, .int .u64 a0_3, .int .u64 a0_4, .int .u64 a0_5]) #[.slice A157_0 (rd_L1 l2 x13_1).length c157_0, .slice Ao16 x1_1.length co16] #[.agg #[.int .i64 a0_0, .int .i64 a0_1, .int .i64 a0_2, .int .u64 a0_3, .int .u64 a0_4, .int .u64 a0_5], .slice A157_0 (rd_L1 l2 x13_1).length c157_0, .slice Ao16 x1_1.length co16] rfl rfl (by first | rfl | (simp only [Act.eval]; rfl)) aV (fun _ => by kernel_rfl) ?_; (with_reducible refine (impl_toy_HashChildren.calls k1 a0_0 a0_1 a0_2 a0_3 a0_4 a0_5 _ _ (rd_L1 l2 x13_1) _ _ x1_1 t161 _ ?side1 ?side2 ?side3 ?side4 A15.out).mono ?_); (case side1 => repeat (first | exact (Kd.C_below HR157_0.out HB.out) | (with_reducible refine Kd.C_alloc ?_ _) | (with_reducible refine Kd.C_drewN ?_ _) | (with_reducible refine Kd.C_drew ?_))); (case side2 => exact HC157_0.out); (case side3 => repeat (first | exact (Kd.V_reads' HO_1.out).2.2 | (with_reducible refine Kd.C_alloc ?_ _) | (with_reducible refine Kd.C_drewN ?_ _) | (with_reducible refine Kd.C_drew ?_))); (case side4 => exact (Kd.V_reads' HO_1.out).2.1); rintro e w17 ⟨v162, rfl, ho0, hb⟩; refine ⟨_, rfl, ?_⟩; have n0_ := Aside0.mk (Kd.V_elder' (kV HO_1.out) (Kd.R_base ho0) hb); have n1_ := Aside0.mk (Kd.R_lower (Kd.R_newM (M := fun k_ => (w.heap.size ≤ k_)) ho0 (below_size bB) (fun k_ h_ => h_)) (below_size bB)); have n2_ := Aside0.mk (below_step bB hb); clear HO_1; clear HB; have HO_1 := n0_; have HO163 := n1_; have HB := n2_; clear n0_ n1_ n2_; (try clear hb); (try clear hb2); (try clear hk); (try clear hi); (try clear ho0)))
        go_roundg k1
        case measure => have := HK1.out; omega
        case rel => exact ⟨(t161), (wrap64 (x13_1 + 1)), (by first | rfl | (simp; done) | (simp [*]; done)), H', ⟨by have := HK1.out; omega⟩, ⟨Kd.V_mono (Kd.R_V (by (with_reducible repeat (first | apply Kd.R_alloc | apply Kd.R_drewN | apply Kd.R_drew)); exact Kd.R_mono HO163.out (fun _ hk => hk.1))) (fun k_ hk => by first | exact ⟨(.inr (hk.1)), hk.2⟩ | exact (.inr (hk)))⟩, ⟨bB⟩⟩
      ·rw [if_neg c9] at H
       exact absurd H (by simp)
     ·rw [if_neg c7] at H
      exact absurd H (by simp)
    ·rw [if_neg c6] at H
     exact absurd H (by simp)
   ·rw [if_neg c5] at H
    have c5b0 : decide (x13_1 < (l2.length : Int)) = false := decide_eq_false c5
    clear c5
    obtain rfl := Option.some.inj H
    go_wp2
    go_ret
    exact ⟨_, by first | rfl | (simp [errW_none, errW_some] <;> rfl) | (simp [*, errW_none, errW_some] <;> rfl), by (with_reducible repeat (first | apply Kd.V_alloc | apply Kd.V_drewN | apply Kd.V_drew)); exact HO_1.out, bB⟩

end Go.Proofs.YtkmdkmlgahfcpaaDoor.M

