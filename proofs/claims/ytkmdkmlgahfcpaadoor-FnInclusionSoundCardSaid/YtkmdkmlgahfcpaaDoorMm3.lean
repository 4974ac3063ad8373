-- Written by a program of ours (wip/xp) out of the translation; Lean checks it.
import Derived.Test.YtkmdkmlgahfcpaaDoorSq
import Derived.Test.YtkmdkmlgahfcpaaDoorMm1
import Derived.Test.YtkmdkmlgahfcpaaDoorMm2
namespace Go.Proofs.YtkmdkmlgahfcpaaDoor.M
open Go.RowKit Go.Proofs.YtkmdkmlgahfcpaaDoorW.PrintWords Go.Proofs.YtkmdkmlgahfcpaaDoorW.PrintLast Go.Proofs.YtkmdkmlgahfcpaaDoorW.PrintMore
attribute [local go_sem] max2_int min2_int max_two min_two max_three min_three max_four min_four   -- for this text's walks alone
set_option linter.unusedVariables false
set_option linter.unusedSimpArgs false

/-! ### proof_RootFromInclusionProof: function 100 -/
def proof_RootFromInclusionProof.f (k : Nat) (a0_0 : Int) (a0_1 : Int) (a0_2 : Int) (a0_3 : Int) (a0_4 : Int) (a0_5 : Int) (a1 : Int) (a2 : Int) (l3 : List Int) (l4 : List (List Int)) : Option (List Int × Option Int) := if a1 ≥ a2 then ((errors_New.f (⟨#[105, 110, 100, 101, 120, 32, 105, 115, 32, 98, 101, 121, 111, 110, 100, 32, 115, 105, 122, 101, 32, 62]⟩ : ByteArray)).bind fun t199 => (some (([] : List Int), t199))) else ((impl_toy_Size.f a0_0 a0_1 a0_2 a0_3 a0_4 a0_5).bind fun t200 => (if (l3.length : Int) = t200 then ((proof_decompInclProof.f a1 a2).bind fun bt202 => (if (l4.length : Int) = (wrap64 (bt202.1 + bt202.2)) then (if 0 ≤ bt202.1 then (if bt202.1 ≤ (l4.length : Int) then ((proof_chainInner.f k a0_0 a0_1 a0_2 a0_3 a0_4 a0_5 l3 (l4.take (bt202.1 : Int).toNat) a1).bind fun t208 => ((proof_chainBorderRight.f k a0_0 a0_1 a0_2 a0_3 a0_4 a0_5 t208 (l4.drop (bt202.1 : Int).toNat)).bind fun t215 => (some (t215, none)))) else (none)) else (none)) else ((errors_New.f (⟨#[119, 114, 111, 110, 103, 32, 112, 114, 111, 111, 102, 32, 115, 105, 122, 101, 44, 32, 119, 97, 110, 116]⟩ : ByteArray)).bind fun t218 => (some (([] : List Int), t218))))) else ((errors_New.f (⟨#[108, 101, 97, 102, 72, 97, 115, 104, 32, 104, 97, 115, 32, 117, 110, 101, 120, 112, 101, 99, 116, 101, 100, 32, 115, 105, 122, 101, 44, 32, 119, 97, 110, 116]⟩ : ByteArray)).bind fun t201 => (some (([] : List Int), t201)))))
theorem proof_RootFromInclusionProof.mono : ∀ a0 a1 a2 a3 a4 a5 a6 a7 a8 a9 k, LeO (proof_RootFromInclusionProof.f k a0 a1 a2 a3 a4 a5 a6 a7 a8 a9) (proof_RootFromInclusionProof.f (k + 1) a0 a1 a2 a3 a4 a5 a6 a7 a8 a9) := by
 intro a0 a1 a2 a3 a4 a5 a6 a7 a8 a9 k
 unfold proof_RootFromInclusionProof.f
 repeat' first
   | (with_reducible exact proof_chainBorderRight.mono _ _ _ _ _ _ _ _ _)
   | (with_reducible exact proof_chainInner.mono _ _ _ _ _ _ _ _ _ _)
   | (with_reducible exact LeO.refl _)
   | (with_reducible exact LeO.none _)
   | (with_reducible refine LeO.ite ?_ ?_)
   | (with_reducible refine LeO.bind ?_ (fun _ => ?_))
   | exact proof_chainBorderRight.mono _ _ _ _ _ _ _ _ _
   | exact proof_chainInner.mono _ _ _ _ _ _ _ _ _ _
   | exact LeO.none _
   | refine LeO.ite ?_ ?_
   | refine LeO.bind ?_ (fun _ => ?_)
set_option maxHeartbeats 8000000 in
set_option maxRecDepth 100000 in
theorem proof_RootFromInclusionProof.calls (k : Nat) (a0_0 : Int) (a0_1 : Int) (a0_2 : Int) (a0_3 : Int) (a0_4 : Int) (a0_5 : Int) (a1 : Int) (a2 : Int) (P3_ : Nat → Prop) (A3 : Option Addr) (c3 : Nat) (l3 : List Int) (A4 : Option Addr) (c4 : Nat) (l4 : List (List Int)) (r1 : List Int) (r2 : Option Int) (w : World) (hs3 : Kd.V (Kd.int .u8) 5 w w.heap.size (fun k_ => P3_ k_) (.slice A3 l3.length c3) l3) (hr4 : Kd.C (Kd.slice 5 (Kd.int .u8)) w A4 l4.length l4) (hc4 : l4.length ≤ c4) (h : proof_RootFromInclusionProof.f k a0_0 a0_1 a0_2 a0_3 a0_4 a0_5 a1 a2 l3 l4 = some (r1, r2)) :
  Calls Tryd.prog 100 #[.iface 85 (.agg #[.int .i64 a0_0, .int .i64 a0_1, .int .i64 a0_2, .int .u64 a0_3, .int .u64 a0_4, .int .u64 a0_5]), .int .u64 a1, .int .u64 a2, .slice A3 l3.length c3, .slice A4 l4.length c4] w fun e w' => ∃ (T_ : Int → TypeId) (X_ : Int → Value), ∃ v0_ : Value, e = .returned (.tuple #[v0_, errW T_ X_ r2]) ∧ Kd.V (Kd.int .u8) 5 w' w.heap.size (fun k_ => (P3_ k_ ∨ w.heap.size ≤ k_)) v0_ r1 ∧ Below w.heap.size w w' := by
 have HO3 := Aside0.mk (show Kd.V (Kd.int .u8) 5 w w.heap.size (fun k_ => (P3_ k_ ∨ w.heap.size ≤ k_)) (.slice A3 l3.length c3) l3 from Kd.V_mono hs3 (fun k_ hk => .inl hk))
 have HR4 := Aside0.mk hr4
 have HC4 := Aside0.mk hc4
 clear hr4 hc4
 have HB := Aside0.mk (Below.refl w.heap.size w)
 have H : (if a1 ≥ a2 then ((errors_New.f (⟨#[105, 110, 100, 101, 120, 32, 105, 115, 32, 98, 101, 121, 111, 110, 100, 32, 115, 105, 122, 101, 32, 62]⟩ : ByteArray)).bind fun t199 => (some (([] : List Int), t199))) else ((impl_toy_Size.f a0_0 a0_1 a0_2 a0_3 a0_4 a0_5).bind fun t200 => (if (l3.length : Int) = t200 then ((proof_decompInclProof.f a1 a2).bind fun bt202 => (if (l4.length : Int) = (wrap64 (bt202.1 + bt202.2)) then (if 0 ≤ bt202.1 then (if bt202.1 ≤ (l4.length : Int) then ((proof_chainInner.f k a0_0 a0_1 a0_2 a0_3 a0_4 a0_5 l3 (l4.take (bt202.1 : Int).toNat) a1).bind fun t208 => ((proof_chainBorderRight.f k a0_0 a0_1 a0_2 a0_3 a0_4 a0_5 t208 (l4.drop (bt202.1 : Int).toNat)).bind fun t215 => (some (t215, none)))) else (none)) else (none)) else ((errors_New.f (⟨#[119, 114, 111, 110, 103, 32, 112, 114, 111, 111, 102, 32, 115, 105, 122, 101, 44, 32, 119, 97, 110, 116]⟩ : ByteArray)).bind fun t218 => (some (([] : List Int), t218))))) else ((errors_New.f (⟨#[108, 101, 97, 102, 72, 97, 115, 104, 32, 104, 97, 115, 32, 117, 110, 101, 120, 112, 101, 99, 116, 101, 100, 32, 115, 105, 122, 101, 44, 32, 119, 97, 110, 116]⟩ : ByteArray)).bind fun t201 => (some (([] : List Int), t201)))))) = some (r1, r2) := h
 clear h
 by_cases c6 : a1 ≥ a2
 ·rw [if_pos c6] at H
  have c6b0 : decide (a2 ≤ a1) = true := decide_eq_true c6
  clear c6
  replace H := Option.bind_eq_some_iff.mp H
  obtain ⟨t199, A70, H⟩ := H
  replace H : (some (([] : List Int), t199)) = some (r1, r2) := H
  have A7 := Aside0.mk A70
  clear A70
  simp only [Option.some.injEq, Prod.mk.injEq] at H
  obtain ⟨rfl, rfl⟩ := H
  go_enter Tryd.func100, Tryd.ntmps100
  go_wp2_with (first | ((with_reducible refine gate_callee (f := 80) rfl ?_); refine goesL_ (some 22) rfl rfl Tryd.func80 (by kernel_rfl) rfl #[.string (⟨#[105, 110, 100, 101, 120, 32, 105, 115, 32, 98, 101, 121, 111, 110, 100, 32, 115, 105, 122, 101, 32, 62]⟩ : ByteArray)] rfl aV ?_; (with_reducible refine (errors_New.calls (⟨#[105, 110, 100, 101, 120, 32, 105, 115, 32, 98, 101, 121, 111, 110, 100, 32, 115, 105, 122, 101, 32, 62]⟩ : ByteArray) t199 _ A7.out).mono ?_); rintro e w8 ⟨Tt199, Xt199, rfl, hb⟩; refine ⟨_, rfl, ?_⟩; have n0_ := Aside0.mk (Kd.V_below (kV HO3.out) hb); have n1_ := Aside0.mk (below_step bB hb); clear HO3; clear HB; have HO3 := n0_; have HB := n1_; clear n0_ n1_; (try clear hb); (try clear hb2); (try clear hk); (try clear hi); (try simp only [errW_none, errW_some])))
  go_ret2
  exact ⟨Tt199, Xt199, (.slice none 0 0), by first | rfl | (simp [errW_none, errW_some] <;> rfl) | (simp [*, errW_none, errW_some] <;> rfl), by first | exact Kd.V_nil _ _ _ _ _ | exact Kd.R_nil _ _ _ _ _ | exact Kd.S_nil _ _ _ _ _ | exact Kd.N_nil _ _ _ _ _ | exact Kd.Q_nil _ _ _ _ _, bB⟩
 ·rw [if_neg c6] at H
  have c6b0 : decide (a2 ≤ a1) = false := decide_eq_false c6
  clear c6
  replace H := Option.bind_eq_some_iff.mp H
  obtain ⟨t200, A90, H⟩ := H
  replace H : (if (l3.length : Int) = t200 then ((proof_decompInclProof.f a1 a2).bind fun bt202 => (if (l4.length : Int) = (wrap64 (bt202.1 + bt202.2)) then (if 0 ≤ bt202.1 then (if bt202.1 ≤ (l4.length : Int) then ((proof_chainInner.f k a0_0 a0_1 a0_2 a0_3 a0_4 a0_5 l3 (l4.take (bt202.1 : Int).toNat) a1).bind fun t208 => ((proof_chainBorderRight.f k a0_0 a0_1 a0_2 a0_3 a0_4 a0_5 t208 (l4.drop (bt202.1 : Int).toNat)).bind fun t215 => (some (t215, none)))) else (none)) else (none)) else ((errors_New.f (⟨#[119, 114, 111, 110, 103, 32, 112, 114, 111, 111, 102, 32, 115, 105, 122, 101, 44, 32, 119, 97, 110, 116]⟩ : ByteArray)).bind fun t218 => (some (([] : List Int), t218))))) else ((errors_New.f (⟨#[108, 101, 97, 102, 72, 97, 115, 104, 32, 104, 97, 115, 32, 117, 110, 101, 120, 112, 101, 99, 116, 101, 100, 32, 115, 105, 122, 101, 44, 32, 119, 97, 110, 116]⟩ : ByteArray)).bind fun t201 => (some (([] : List Int), t201)))) = some (r1, r2) := H
  have A9 := Aside0.mk A90
  clear A90
  by_cases c10 : (l3.length : Int) = t200
  ·rw [if_pos c10] at H
   have c10b0 : ((l3.length : Int) == t200) = true := beq_iff_eq.mpr c10
   have c10b1 : ((l3.length : Int) != t200) = false := bne_eq_false_iff_eq.mpr c10
   clear c10
   replace H := Option.bind_eq_some_iff.mp H
   obtain ⟨⟨t202, t203⟩, A110, H⟩ := H
   replace H : (if (l4.length : Int) = (wrap64 (t202 + t203)) then (if 0 ≤ t202 then (if t202 ≤ (l4.length : Int) then ((proof_chainInner.f k a0_0 a0_1 a0_2 a0_3 a0_4 a0_5 l3 (l4.take (t202 : Int).toNat) a1).bind fun t208 => ((proof_chainBorderRight.f k a0_0 a0_1 a0_2 a0_3 a0_4 a0_5 t208 (l4.drop (t202 : Int).toNat)).bind fun t215 => (some (t215, none)))) else (none)) else (none)) else ((errors_New.f (⟨#[119, 114, 111, 110, 103, 32, 112, 114, 111, 111, 102, 32, 115, 105, 122, 101, 44, 32, 119, 97, 110, 116]⟩ : ByteArray)).bind fun t218 => (some (([] : List Int), t218)))) = some (r1, r2) := H
   have A11 := Aside0.mk A110
   clear A110
   by_cases c12 : (l4.length : Int) = (wrap64 (t202 + t203))
   ·rw [if_pos c12] at H
    have c12b0 : ((l4.length : Int) == (wrap64 (t202 + t203))) = true := beq_iff_eq.mpr c12
    have c12b1 : ((l4.length : Int) != (wrap64 (t202 + t203))) = false := bne_eq_false_iff_eq.mpr c12
    clear c12
    by_cases c13 : 0 ≤ t202
    ·rw [if_pos c13] at H
     have c13b0 := eq_true c13
     have c13b1 : decide (0 ≤ t202) = true := decide_eq_true c13
     clear c13
     by_cases c14 : t202 ≤ (l4.length : Int)
     ·rw [if_pos c14] at H
      have c14b0 := eq_true c14
      have c14b1 : decide (t202 ≤ (l4.length : Int)) = true := decide_eq_true c14
      clear c14
      obtain ⟨y204, hy204⟩ : ∃ y_ : List (List Int), y_ = (l4.take (t202 : Int).toNat) := ⟨_, rfl⟩
      replace H : ((proof_chainInner.f k a0_0 a0_1 a0_2 a0_3 a0_4 a0_5 l3 y204 a1).bind fun t208 => ((proof_chainBorderRight.f k a0_0 a0_1 a0_2 a0_3 a0_4 a0_5 t208 (l4.drop (t202 : Int).toNat)).bind fun t215 => (some (t215, none)))) = some (r1, r2) := by first | (rw [hy204]; with_reducible exact H) | (have H2_ := (Option.bind_some _ _).symm.trans H; rw [hy204]; with_reducible exact H2_) | (have H2_ := (Option.bind_some _ _).symm.trans H; with_reducible exact H2_) | with_reducible exact H | (rw [hy204]; exact H) | exact H
      have Ny204 := Aside0.mk hy204
      clear hy204
      replace H := Option.bind_eq_some_iff.mp H
      obtain ⟨t208, A150, H⟩ := H
      replace H : ((proof_chainBorderRight.f k a0_0 a0_1 a0_2 a0_3 a0_4 a0_5 t208 (l4.drop (t202 : Int).toNat)).bind fun t215 => (some (t215, none))) = some (r1, r2) := H
      have A15 := Aside0.mk A150
      clear A150
      have c16b0 := eq_true (dA : 0 ≤ t202)
      have c17b0 := eq_true (dA : t202 ≤ (l4.length : Int))
      obtain ⟨y211, hy211⟩ : ∃ y_ : List (List Int), y_ = (l4.drop (t202 : Int).toNat) := ⟨_, rfl⟩
      replace H : ((proof_chainBorderRight.f k a0_0 a0_1 a0_2 a0_3 a0_4 a0_5 t208 y211).bind fun t215 => (some (t215, none))) = some (r1, r2) := by first | (rw [hy211]; with_reducible exact H) | (have H2_ := (Option.bind_some _ _).symm.trans H; rw [hy211]; with_reducible exact H2_) | (have H2_ := (Option.bind_some _ _).symm.trans H; with_reducible exact H2_) | with_reducible exact H | (rw [hy211]; exact H) | exact H
      have Ny211 := Aside0.mk hy211
      clear hy211
      replace H := Option.bind_eq_some_iff.mp H
      obtain ⟨t215, A180, H⟩ := H
      replace H : (some (t215, none)) = some (r1, r2) := H
      have A18 := Aside0.mk A180
      clear A180
      simp only [Option.some.injEq, Prod.mk.injEq] at H
      obtain ⟨rfl, rfl⟩ := H
      go_enter Tryd.func100, Tryd.ntmps100
      go_wp2_with (first | ((with_reducible refine gate_invoke (m := "Size") rfl ?_); refine invokesL_ (some 26) rfl rfl Tryd.func138 (by kernel_rfl) rfl 85 (.agg #[.int .i64 a0_0, .int .i64 a0_1, .int .i64 a0_2, .int .u64 a0_3, .int .u64 a0_4, .int .u64 a0_5]) #[] #[.agg #[.int .i64 a0_0, .int .i64 a0_1, .int .i64 a0_2, .int .u64 a0_3, .int .u64 a0_4, .int .u64 a0_5]] rfl rfl (by first | rfl | (simp only [Act.eval]; rfl)) aV (fun _ => by kernel_rfl) ?_; (with_reducible refine (impl_toy_Size.calls a0_0 a0_1 a0_2 a0_3 a0_4 a0_5 t200 _ A9.out).mono ?_); rintro e w19 ⟨rfl, hb⟩; refine ⟨_, rfl, ?_⟩; have n0_ := Aside0.mk (Kd.V_below (kV HO3.out) hb); have n1_ := Aside0.mk (below_step bB hb); clear HO3; clear HB; have HO3 := n0_; have HB := n1_; clear n0_ n1_; (try clear hb); (try clear hb2); (try clear hk); (try clear hi)) | ((with_reducible refine gate_callee (f := 82) rfl ?_); refine goesL_ (some 34) rfl rfl Tryd.func82 (by kernel_rfl) rfl #[.int .u64 a1, .int .u64 a2] rfl aV ?_; (with_reducible refine (proof_decompInclProof.calls a1 a2 t202 t203 _ A11.out).mono ?_); rintro e w' ⟨rfl, ⟨nd, rfl⟩⟩; refine ⟨_, rfl, ?_⟩; have q20 : (t202 : Int) ≤ ((l4.length : Int) : Int) := dA; obtain ⟨i020, hi020, _, hsz20, _⟩ := info_parts info27; have hroom20 : l4.length ≤ c4 := HC4.out; have hC20 : Kd.C (Kd.slice 5 (Kd.int .u8)) _ A4 l4.length l4 := HR4.out; have hcut20 := cut_to (P := Tryd.prog) 25 27 .i64 Tryd.underlying25 hi020 A4 l4.length c4 t202 dA q20 hroom20; have hr20 := Kd.C_take (m := (t202 : Int).toNat) hC20 (by omega); have hy20 : y204.length = (t202 : Int).toNat := (by rw [Ny204.out, List.length_take]; omega); rw [← Ny204.out] at hr20; rw [← hy20] at hcut20; have HR207 := Aside0.mk hr20; have HC207 := Aside0.mk (show y204.length ≤ c4 from by omega); clear hr20 hC20 hroom20 hi020 hsz20; have KY20 := Aside0.mk hy20; clear hy20; replace q20 := eq_true q20) | ((with_reducible refine gate_callee (f := 86) rfl ?_); refine goesL_ (some 52) rfl rfl Tryd.func86 (by kernel_rfl) rfl #[.iface 85 (.agg #[.int .i64 a0_0, .int .i64 a0_1, .int .i64 a0_2, .int .u64 a0_3, .int .u64 a0_4, .int .u64 a0_5]), .slice A3 l3.length c3, .slice A4 y204.length c4, .int .u64 a1] rfl aV ?_; (with_reducible refine (proof_chainInner.calls k a0_0 a0_1 a0_2 a0_3 a0_4 a0_5 (fun k_ => (P3_ k_ ∨ w.heap.size ≤ k_)) _ _ l3 _ _ y204 a1 t208 _ ?side1 ?side2 ?side3 A15.out).mono ?_); (case side1 => first | exact HO3.out | exact Kd.V_mono HO3.out (fun k_ h_ => by simp only [and_assoc] at h_ ⊢; exact h_)); (case side2 => repeat (first | exact (Kd.C_below HR207.out bB) | (with_reducible refine Kd.C_alloc ?_ _) | (with_reducible refine Kd.C_drewN ?_ _) | (with_reducible refine Kd.C_drew ?_))); (case side3 => exact HC207.out); rintro e w21 ⟨v209, rfl, ho0, hb⟩; refine ⟨_, rfl, ?_⟩; have n0_ := Aside0.mk (Kd.V_below (kV HO3.out) hb); have n1_ := Aside0.mk (Kd.V_lower (Kd.V_mono (ok' := fun k_ => (P3_ k_ ∨ w.heap.size ≤ k_)) ho0 (fun k_ hk_ => Or.elim hk_ (fun hs_ => hs_) (fun hn_ => (.inr (Nat.le_trans (below_size bB) hn_))))) (below_size bB)); have n2_ := Aside0.mk (below_step bB hb); clear HO3; clear HB; have HO3 := n0_; have HO210 := n1_; have HB := n2_; clear n0_ n1_ n2_; (try clear hb); (try clear hb2); (try clear hk); (try clear hi); (try clear ho0); have q22 : (t202 : Int) ≤ ((l4.length : Int) : Int) := dA; obtain ⟨i022, hi022, _, hsz22, _⟩ := info_parts info27; have hroom22 : l4.length ≤ c4 := HC4.out; have hC22 : Kd.C (Kd.slice 5 (Kd.int .u8)) _ A4 l4.length l4 := HR4.out; have q022 : (0 : Int) ≤ (t202 : Int) := dA; have hcut22 := cut_from (P := Tryd.prog) 25 27 .i64 Tryd.underlying25 hi022 1 hsz22 A4 l4.length c4 t202 q022 q22; have hr22 := Kd.C_drop (m := (t202 : Int).toNat) (c := c4) hC22 (by omega) hroom22; obtain ⟨A22, hA22⟩ : ∃ Aq_, Aq_ = (if c4 = (t202 : Int).toNat then A4 else (A4 : Option Addr).map (·.add ((t202 : Int).toNat * 1))) := ⟨_, rfl⟩; obtain ⟨c22, hc22⟩ : ∃ cq_, cq_ = c4 - (t202 : Int).toNat := ⟨_, rfl⟩; have hy22 : y211.length = l4.length - (t202 : Int).toNat := (by rw [Ny211.out, List.length_drop] <;> omega); rw [show (l4).drop (t202 : Int).toNat = y211 from Ny211.out.symm] at hr22; replace hr22 : Kd.C (Kd.slice 5 (Kd.int .u8)) _ A22 y211.length y211 := (by rw [hA22]; exact hr22); rw [← hy22, ← hA22, ← hc22] at hcut22; have HR214 := Aside0.mk hr22; have HC214 := Aside0.mk (show y211.length ≤ c22 from by rw [hy22, hc22]; exact Nat.sub_le_sub_right hroom22 _); clear hr22 hC22 hroom22 hi022 hsz22 hc22; have KY22 := Aside0.mk hy22; have KA22 := Aside0.mk hA22; clear hy22 hA22; replace q22 := eq_true q22; obtain ⟨Ao23, co23, eo23⟩ := Kd.V_slice HO210.out; subst eo23) | ((with_reducible refine gate_callee (f := 85) rfl ?_); refine goesL_ (some 58) rfl rfl Tryd.func85 (by kernel_rfl) rfl #[.iface 85 (.agg #[.int .i64 a0_0, .int .i64 a0_1, .int .i64 a0_2, .int .u64 a0_3, .int .u64 a0_4, .int .u64 a0_5]), .slice Ao23 t208.length co23, .slice A22 y211.length c22] rfl aV ?_; (with_reducible refine (proof_chainBorderRight.calls k a0_0 a0_1 a0_2 a0_3 a0_4 a0_5 (fun k_ => (P3_ k_ ∨ w.heap.size ≤ k_)) _ _ t208 _ _ y211 t215 _ ?side1 ?side2 ?side3 A18.out).mono ?_); (case side1 => first | exact HO210.out | exact Kd.V_mono HO210.out (fun k_ h_ => by simp only [and_assoc] at h_ ⊢; exact h_)); (case side2 => repeat (first | exact (Kd.C_below HR214.out HB.out) | (with_reducible refine Kd.C_alloc ?_ _) | (with_reducible refine Kd.C_drewN ?_ _) | (with_reducible refine Kd.C_drew ?_))); (case side3 => exact HC214.out); rintro e w24 ⟨v216, rfl, ho0, hb⟩; refine ⟨_, rfl, ?_⟩; have n0_ := Aside0.mk (Kd.V_below (kV HO3.out) hb); have n1_ := Aside0.mk (Kd.V_below (kV HO210.out) hb); have n2_ := Aside0.mk (Kd.V_lower (Kd.V_mono (ok' := fun k_ => (P3_ k_ ∨ w.heap.size ≤ k_)) ho0 (fun k_ hk_ => Or.elim hk_ (fun hs_ => hs_) (fun hn_ => (.inr (Nat.le_trans (below_size bB) hn_))))) (below_size bB)); have n3_ := Aside0.mk (below_step bB hb); clear HO3; clear HO210; clear HB; have HO3 := n0_; have HO210 := n1_; have HO217 := n2_; have HB := n3_; clear n0_ n1_ n2_ n3_; (try clear hb); (try clear hb2); (try clear hk); (try clear hi); (try clear ho0)))
      go_ret2
      exact ⟨(fun _ => 0), (fun _ => .nilIface), _, by first | rfl | (simp [errW_none, errW_some] <;> rfl) | (simp [*, errW_none, errW_some] <;> rfl), by (with_reducible repeat (first | apply Kd.V_alloc | apply Kd.V_drewN | apply Kd.V_drew)); exact HO217.out, bB⟩
     ·rw [if_neg c14] at H
      exact absurd H (by simp)
    ·rw [if_neg c13] at H
     exact absurd H (by simp)
   ·rw [if_neg c12] at H
    have c12b0 : ((l4.length : Int) == (wrap64 (t202 + t203))) = false := beq_eq_false_iff_ne.mpr c12
    have c12b1 : ((l4.length : Int) != (wrap64 (t202 + t203))) = true := bne_iff_ne.mpr c12
    replace H := Option.bind_eq_some_iff.mp H
    obtain ⟨t218, A250, H⟩ := H
    replace H : (some (([] : List Int), t218)) = some (r1, r2) := H
    have A25 := Aside0.mk A250
    clear A250
    simp only [Option.some.injEq, Prod.mk.injEq] at H
    obtain ⟨rfl, rfl⟩ := H
    go_enter Tryd.func100, Tryd.ntmps100
    go_wp2_with (first | ((with_reducible refine gate_invoke (m := "Size") rfl ?_); refine invokesL_ (some 26) rfl rfl Tryd.func138 (by kernel_rfl) rfl 85 (.agg #[.int .i64 a0_0, .int .i64 a0_1, .int .i64 a0_2, .int .u64 a0_3, .int .u64 a0_4, .int .u64 a0_5]) #[] #[.agg #[.int .i64 a0_0, .int .i64 a0_1, .int .i64 a0_2, .int .u64 a0_3, .int .u64 a0_4, .int .u64 a0_5]] rfl rfl (by first | rfl | (simp only [Act.eval]; rfl)) aV (fun _ => by kernel_rfl) ?_; (with_reducible refine (impl_toy_Size.calls a0_0 a0_1 a0_2 a0_3 a0_4 a0_5 t200 _ A9.out).mono ?_); rintro e w26 ⟨rfl, hb⟩; refine ⟨_, rfl, ?_⟩; have n0_ := Aside0.mk (Kd.V_below (kV HO3.out) hb); have n1_ := Aside0.mk (below_step bB hb); clear HO3; clear HB; have HO3 := n0_; have HB := n1_; clear n0_ n1_; (try clear hb); (try clear hb2); (try clear hk); (try clear hi)) | ((with_reducible refine gate_callee (f := 82) rfl ?_); refine goesL_ (some 34) rfl rfl Tryd.func82 (by kernel_rfl) rfl #[.int .u64 a1, .int .u64 a2] rfl aV ?_; (with_reducible refine (proof_decompInclProof.calls a1 a2 t202 t203 _ A11.out).mono ?_); rintro e w' ⟨rfl, ⟨nd, rfl⟩⟩; refine ⟨_, rfl, ?_⟩) | ((with_reducible refine gate_callee (f := 80) rfl ?_); refine goesL_ (some 45) rfl rfl Tryd.func80 (by kernel_rfl) rfl #[.string (⟨#[119, 114, 111, 110, 103, 32, 112, 114, 111, 111, 102, 32, 115, 105, 122, 101, 44, 32, 119, 97, 110, 116]⟩ : ByteArray)] rfl aV ?_; (with_reducible refine (errors_New.calls (⟨#[119, 114, 111, 110, 103, 32, 112, 114, 111, 111, 102, 32, 115, 105, 122, 101, 44, 32, 119, 97, 110, 116]⟩ : ByteArray) t218 _ A25.out).mono ?_); rintro e w27 ⟨Tt218, Xt218, rfl, hb⟩; refine ⟨_, rfl, ?_⟩; have n0_ := Aside0.mk (Kd.V_below (kV HO3.out) hb); have n1_ := Aside0.mk (below_step bB hb); clear HO3; clear HB; have HO3 := n0_; have HB := n1_; clear n0_ n1_; (try clear hb); (try clear hb2); (try clear hk); (try clear hi); (try simp only [errW_none, errW_some])))
    go_ret2
    exact ⟨Tt218, Xt218, (.slice none 0 0), by first | rfl | (simp [errW_none, errW_some] <;> rfl) | (simp [*, errW_none, errW_some] <;> rfl), by first | exact Kd.V_nil _ _ _ _ _ | exact Kd.R_nil _ _ _ _ _ | exact Kd.S_nil _ _ _ _ _ | exact Kd.N_nil _ _ _ _ _ | exact Kd.Q_nil _ _ _ _ _, bB⟩
  ·rw [if_neg c10] at H
   have c10b0 : ((l3.length : Int) == t200) = false := beq_eq_false_iff_ne.mpr c10
   have c10b1 : ((l3.length : Int) != t200) = true := bne_iff_ne.mpr c10
   replace H := Option.bind_eq_some_iff.mp H
   obtain ⟨t201, A280, H⟩ := H
   replace H : (some (([] : List Int), t201)) = some (r1, r2) := H
   have A28 := Aside0.mk A280
   clear A280
   simp only [Option.some.injEq, Prod.mk.injEq] at H
   obtain ⟨rfl, rfl⟩ := H
   go_enter Tryd.func100, Tryd.ntmps100
   go_wp2_with (first | ((with_reducible refine gate_invoke (m := "Size") rfl ?_); refine invokesL_ (some 26) rfl rfl Tryd.func138 (by kernel_rfl) rfl 85 (.agg #[.int .i64 a0_0, .int .i64 a0_1, .int .i64 a0_2, .int .u64 a0_3, .int .u64 a0_4, .int .u64 a0_5]) #[] #[.agg #[.int .i64 a0_0, .int .i64 a0_1, .int .i64 a0_2, .int .u64 a0_3, .int .u64 a0_4, .int .u64 a0_5]] rfl rfl (by first | rfl | (simp only [Act.eval]; rfl)) aV (fun _ => by kernel_rfl) ?_; (with_reducible refine (impl_toy_Size.calls a0_0 a0_1 a0_2 a0_3 a0_4 a0_5 t200 _ A9.out).mono ?_); rintro e w29 ⟨rfl, hb⟩; refine ⟨_, rfl, ?_⟩; have n0_ := Aside0.mk (Kd.V_below (kV HO3.out) hb); have n1_ := Aside0.mk (below_step bB hb); clear HO3; clear HB; have HO3 := n0_; have HB := n1_; clear n0_ n1_; (try clear hb); (try clear hb2); (try clear hk); (try clear hi)) | ((with_reducible refine gate_callee (f := 80) rfl ?_); refine goesL_ (some 30) rfl rfl Tryd.func80 (by kernel_rfl) rfl #[.string (⟨#[108, 101, 97, 102, 72, 97, 115, 104, 32, 104, 97, 115, 32, 117, 110, 101, 120, 112, 101, 99, 116, 101, 100, 32, 115, 105, 122, 101, 44, 32, 119, 97, 110, 116]⟩ : ByteArray)] rfl aV ?_; (with_reducible refine (errors_New.calls (⟨#[108, 101, 97, 102, 72, 97, 115, 104, 32, 104, 97, 115, 32, 117, 110, 101, 120, 112, 101, 99, 116, 101, 100, 32, 115, 105, 122, 101, 44, 32, 119, 97, 110, 116]⟩ : ByteArray) t201 _ A28.out).mono ?_); rintro e w30 ⟨Tt201, Xt201, rfl, hb⟩; refine ⟨_, rfl, ?_⟩; have n0_ := Aside0.mk (Kd.V_below (kV HO3.out) hb); have n1_ := Aside0.mk (below_step bB hb); clear HO3; clear HB; have HO3 := n0_; have HB := n1_; clear n0_ n1_; (try clear hb); (try clear hb2); (try clear hk); (try clear hi); (try simp only [errW_none, errW_some])))
   go_ret2
   exact ⟨Tt201, Xt201, (.slice none 0 0), by first | rfl | (simp [errW_none, errW_some] <;> rfl) | (simp [*, errW_none, errW_some] <;> rfl), by first | exact Kd.V_nil _ _ _ _ _ | exact Kd.R_nil _ _ _ _ _ | exact Kd.S_nil _ _ _ _ _ | exact Kd.N_nil _ _ _ _ _ | exact Kd.Q_nil _ _ _ _ _, bB⟩


/-! ### spec_split: function 99 -/
def spec_split.l0 : Nat → Int → Int → Option (Int)
 | 0, _, _ => none
 | k + 1, x0, x3 => if x3 < (IntKind.u64.wrap (x0 - x3)) then (spec_split.l0 k x0 (IntKind.u64.wrap (x3 * 2))) else (some x3)
def spec_split.f (k : Nat) (a0 : Int) : Option (Int) := spec_split.l0 k a0 1
theorem spec_split.mono_l : ∀ k, (∀ y0 y1, LeO (spec_split.l0 k y0 y1) (spec_split.l0 (k + 1) y0 y1))
 | 0 => fun _ _ r h => by simp [spec_split.l0] at h
 | k + 1 => by
  have ih0 := spec_split.mono_l k
  ·intro y0 y1
   unfold spec_split.l0
   repeat' first
   | (with_reducible exact ih0 _ _)
   | (with_reducible exact LeO.refl _)
   | (with_reducible exact LeO.none _)
   | (with_reducible refine LeO.ite ?_ ?_)
   | (with_reducible refine LeO.bind ?_ (fun _ => ?_))
   | exact ih0 _ _
   | exact LeO.none _
   | refine LeO.ite ?_ ?_
   | refine LeO.bind ?_ (fun _ => ?_)
theorem spec_split.mono : ∀ a0 k, LeO (spec_split.f k a0) (spec_split.f (k + 1) a0) := by
 intro a0 k
 have ih0 := spec_split.mono_l k
 unfold spec_split.f
 repeat' first
   | (with_reducible exact ih0 _ _)
   | (with_reducible exact LeO.refl _)
   | (with_reducible exact LeO.none _)
   | (with_reducible refine LeO.ite ?_ ?_)
   | (with_reducible refine LeO.bind ?_ (fun _ => ?_))
   | exact ih0 _ _
   | exact LeO.none _
   | refine LeO.ite ?_ ?_
   | refine LeO.bind ?_ (fun _ => ?_)
set_option maxHeartbeats 8000000 in
set_option maxRecDepth 100000 in
theorem spec_split.calls (k : Nat) (a0 : Int) (r : Int) (w : World) (h : spec_split.f k a0 = some r) :
  Calls Tryd.prog 99 #[.int .u64 a0] w fun e w' => e = .returned (.int .u64 r) ∧ Drawn0 w w' := by
 have H : (spec_split.l0 k a0 1) = some r := h
 clear h
 have H' := Aside0.mk H
 clear H
 go_enter Tryd.func99, Tryd.ntmps99
 go_wp2
 go_loopg [3] k (fun kq v3 w' => ∃ (x3_1 : Int), v3 = .int .u64 x3_1 ∧ Aside0 (spec_split.l0 kq a0 x3_1 = some r) ∧ Aside0 (kq ≤ k) ∧ Drawn0 w w')
 case atStart => exact ⟨(1), (by first | rfl | (simp; done) | (simp [*]; done)), H', ⟨Nat.le_refl _⟩, by repeat (first | exact Drawn0.refl _ | apply Drawn0.step)⟩
 case round =>
  clear H'
  obtain ⟨x3_1, rfl, HA, HK1, ⟨m1, rfl⟩⟩ := hrel
  cases gk with
  | zero => exact absurd HA.out (by simp [spec_split.l0])
  | succ k1 =>
   have H := HA.out
   clear HA
   simp only [spec_split.l0] at H
   by_cases c2 : x3_1 < (IntKind.u64.wrap (a0 - x3_1))
   ·rw [if_pos c2] at H
    have c2b0 : decide (x3_1 < (IntKind.u64.wrap (a0 - x3_1))) = true := decide_eq_true c2
    clear c2
    have H' := Aside0.mk H
    clear H
    go_wp2
    go_roundg k1
    case measure => have := HK1.out; omega
    case rel => exact ⟨(IntKind.u64.wrap (x3_1 * 2)), (by first | rfl | (simp; done) | (simp [*]; done)), H', ⟨by have := HK1.out; omega⟩, by repeat (first | exact Drawn0.refl _ | apply Drawn0.step)⟩
   ·rw [if_neg c2] at H
    have c2b0 : decide (x3_1 < (IntKind.u64.wrap (a0 - x3_1))) = false := decide_eq_false c2
    clear c2
    obtain rfl := Option.some.inj H
    go_wp2
    go_ret
    exact ⟨by first | rfl | (simp; done) | (simp [*]; done), by repeat (first | exact Drawn0.refl _ | apply Drawn0.step)⟩

end Go.Proofs.YtkmdkmlgahfcpaaDoor.M

