-- Written by a program of ours (wip/xp) out of the translation; Lean checks it.
import Derived.Test.YtkmdkmlgahfcpaaMm1
namespace Go.Proofs.Ytkmdkmlgahfcpaa.M
open Go.RowKit Go.Proofs.YtkmdkmlgahfcpaaW.PrintWords Go.Proofs.YtkmdkmlgahfcpaaW.PrintLast Go.Proofs.YtkmdkmlgahfcpaaW.PrintMore
attribute [local go_sem] max2_int min2_int max_two min_two max_three min_three max_four min_four   -- for this text's walks alone
set_option linter.unusedVariables false
set_option linter.unusedSimpArgs false

/-! ### proof_RootFromInclusionProof: function 28 -/
def proof_RootFromInclusionProof.f (k : Nat) (a0_0 : Int) (a0_1 : Int) (a0_2 : Int) (a0_3 : Int) (a0_4 : Int) (a0_5 : Int) (a1 : Int) (a2 : Int) (l3 : List Int) (l4 : List (List Int)) : Option (List Int × Option Int) := if a1 ≥ a2 then ((errors_New.f (⟨#[105, 110, 100, 101, 120, 32, 105, 115, 32, 98, 101, 121, 111, 110, 100, 32, 115, 105, 122, 101, 32, 62]⟩ : ByteArray)).bind fun t185 => (some (([] : List Int), t185))) else ((impl_toy_Size.f a0_0 a0_1 a0_2 a0_3 a0_4 a0_5).bind fun t186 => (if (l3.length : Int) = t186 then ((proof_decompInclProof.f a1 a2).bind fun bt188 => (if (l4.length : Int) = (wrap64 (bt188.1 + bt188.2)) then (if 0 ≤ bt188.1 then (if bt188.1 ≤ (l4.length : Int) then ((proof_chainInner.f k a0_0 a0_1 a0_2 a0_3 a0_4 a0_5 l3 (l4.take (bt188.1 : Int).toNat) a1).bind fun t194 => ((proof_chainBorderRight.f k a0_0 a0_1 a0_2 a0_3 a0_4 a0_5 t194 (l4.drop (bt188.1 : Int).toNat)).bind fun t201 => (some (t201, none)))) else (none)) else (none)) else ((errors_New.f (⟨#[119, 114, 111, 110, 103, 32, 112, 114, 111, 111, 102, 32, 115, 105, 122, 101, 44, 32, 119, 97, 110, 116]⟩ : ByteArray)).bind fun t204 => (some (([] : List Int), t204))))) else ((errors_New.f (⟨#[108, 101, 97, 102, 72, 97, 115, 104, 32, 104, 97, 115, 32, 117, 110, 101, 120, 112, 101, 99, 116, 101, 100, 32, 115, 105, 122, 101, 44, 32, 119, 97, 110, 116]⟩ : ByteArray)).bind fun t187 => (some (([] : List Int), t187)))))
theorem proof_RootFromInclusionProof.mono : ∀ a0 a1 a2 a3 a4 a5 a6 a7 a8 a9 k, LeO (proof_RootFromInclusionProof.f k a0 a1 a2 a3 a4 a5 a6 a7 a8 a9) (proof_RootFromInclusionProof.f (k + 1) a0 a1 a2 a3 a4 a5 a6 a7 a8 a9) := by
  intro a0 a1 a2 a3 a4 a5 a6 a7 a8 a9 k
  unfold proof_RootFromInclusionProof.f
  repeat' first
      | (with_reducible exact proof_chainBorderRight.mono _ _ _ _ _ _ _ _ _)
      | (with_reducible exact proof_chainInner.mono _ _ _ _ _ _ _ _ _ _)
      | (with_reducible exact LeO.refl _)
      | (with_reducible exact LeO.none _)
      | (with_reducible refine LeO.ite ?_ ?_)
      | (with_reducible refine LeO.bind ?_ (fun _ => ?_))
      | exact proof_chainBorderRight.mono _ _ _ _ _ _ _ _ _
      | exact proof_chainInner.mono _ _ _ _ _ _ _ _ _ _
      | exact LeO.none _
      | refine LeO.ite ?_ ?_
      | refine LeO.bind ?_ (fun _ => ?_)
set_option maxHeartbeats 8000000 in
set_option maxRecDepth 100000 in
theorem proof_RootFromInclusionProof.calls (k : Nat) (a0_0 : Int) (a0_1 : Int) (a0_2 : Int) (a0_3 : Int) (a0_4 : Int) (a0_5 : Int) (a1 : Int) (a2 : Int) (P3_ : Nat → Prop) (A3 : Option Addr) (c3 : Nat) (l3 : List Int) (A4 : Option Addr) (c4 : Nat) (l4 : List (List Int)) (r1 : List Int) (r2 : Option Int) (w : World) (hs3 : Kd.V (Kd.int .u8) 5 w w.heap.size (fun k_ => P3_ k_) (.slice A3 l3.length c3) l3) (hr4 : Kd.C (Kd.slice 5 (Kd.int .u8)) w A4 l4.length l4) (hc4 : l4.length ≤ c4) (h : proof_RootFromInclusionProof.f k a0_0 a0_1 a0_2 a0_3 a0_4 a0_5 a1 a2 l3 l4 = some (r1, r2)) :
    Calls Try.prog 28 #[.iface 52 (.agg #[.int .i64 a0_0, .int .i64 a0_1, .int .i64 a0_2, .int .u64 a0_3, .int .u64 a0_4, .int .u64 a0_5]), .int .u64 a1, .int .u64 a2, .slice A3 l3.length c3, .slice A4 l4.length c4] w fun e w' => ∃ (T_ : Int → TypeId) (X_ : Int → Value), ∃ v0_ : Value, e = .returned (.tuple #[v0_, errW T_ X_ r2]) ∧ Kd.V (Kd.int .u8) 5 w' w.heap.size (fun k_ => (P3_ k_ ∨ w.heap.size ≤ k_)) v0_ r1 ∧ Below w.heap.size w w' := by
  have HO3 := Aside0.mk (show Kd.V (Kd.int .u8) 5 w w.heap.size (fun k_ => (P3_ k_ ∨ w.heap.size ≤ k_)) (.slice A3 l3.length c3) l3 from Kd.V_mono hs3 (fun k_ hk => .inl hk))
  have HR4 := Aside0.mk hr4
  have HC4 := Aside0.mk hc4
  clear hr4 hc4
  have HB := Aside0.mk (Below.refl w.heap.size w)
  have H : (if a1 ≥ a2 then ((errors_New.f (⟨#[105, 110, 100, 101, 120, 32, 105, 115, 32, 98, 101, 121, 111, 110, 100, 32, 115, 105, 122, 101, 32, 62]⟩ : ByteArray)).bind fun t185 => (some (([] : List Int), t185))) else ((impl_toy_Size.f a0_0 a0_1 a0_2 a0_3 a0_4 a0_5).bind fun t186 => (if (l3.length : Int) = t186 then ((proof_decompInclProof.f a1 a2).bind fun bt188 => (if (l4.length : Int) = (wrap64 (bt188.1 + bt188.2)) then (if 0 ≤ bt188.1 then (if bt188.1 ≤ (l4.length : Int) then ((proof_chainInner.f k a0_0 a0_1 a0_2 a0_3 a0_4 a0_5 l3 (l4.take (bt188.1 : Int).toNat) a1).bind fun t194 => ((proof_chainBorderRight.f k a0_0 a0_1 a0_2 a0_3 a0_4 a0_5 t194 (l4.drop (bt188.1 : Int).toNat)).bind fun t201 => (some (t201, none)))) else (none)) else (none)) else ((errors_New.f (⟨#[119, 114, 111, 110, 103, 32, 112, 114, 111, 111, 102, 32, 115, 105, 122, 101, 44, 32, 119, 97, 110, 116]⟩ : ByteArray)).bind fun t204 => (some (([] : List Int), t204))))) else ((errors_New.f (⟨#[108, 101, 97, 102, 72, 97, 115, 104, 32, 104, 97, 115, 32, 117, 110, 101, 120, 112, 101, 99, 116, 101, 100, 32, 115, 105, 122, 101, 44, 32, 119, 97, 110, 116]⟩ : ByteArray)).bind fun t187 => (some (([] : List Int), t187)))))) = some (r1, r2) := h
  clear h
  by_cases c6 : a1 ≥ a2
  · rw [if_pos c6] at H
    have c6b0 : decide (a2 ≤ a1) = true := decide_eq_true c6
    clear c6
    replace H := Option.bind_eq_some_iff.mp H
    obtain ⟨t185, A70, H⟩ := H
    replace H : (some (([] : List Int), t185)) = some (r1, r2) := H
    have A7 := Aside0.mk A70
    clear A70
    simp only [Option.some.injEq, Prod.mk.injEq] at H
    obtain ⟨rfl, rfl⟩ := H
    go_enter Try.func28, Try.ntmps28
    go_wp2_with (first | ((with_reducible refine gate_callee (f := 36) rfl ?_); refine goesL_ (some 22) rfl rfl Try.func36 (by kernel_rfl) rfl #[.string (⟨#[105, 110, 100, 101, 120, 32, 105, 115, 32, 98, 101, 121, 111, 110, 100, 32, 115, 105, 122, 101, 32, 62]⟩ : ByteArray)] rfl (by (try simp only [List.map_toArray, List.map_cons, List.map_nil]); first | done | rfl | (simp only [List.length_drop, List.length_take]; rfl)) ?_; (with_reducible refine (errors_New.calls (⟨#[105, 110, 100, 101, 120, 32, 105, 115, 32, 98, 101, 121, 111, 110, 100, 32, 115, 105, 122, 101, 32, 62]⟩ : ByteArray) t185 _ A7.out).mono ?_); rintro e w8 ⟨Tt185, Xt185, rfl, hb⟩; refine ⟨_, rfl, ?_⟩; have n0_ := Aside0.mk (Kd.V_below (by (with_reducible repeat (first | apply Kd.V_alloc | apply Kd.V_drewN | apply Kd.V_drew)); exact HO3.out) hb); have n1_ := Aside0.mk (below_step (by repeat (first | (with_reducible first | exact HB.out | apply below_alloc | apply pw_below_drewN | apply below_drew1) | exact HB.out)) hb); clear HO3; clear HB; have HO3 := n0_; have HB := n1_; clear n0_ n1_; (try clear hb); (try clear hb2); (try clear hk); (try clear hi); (try simp only [errW_none, errW_some])))
    go_ret2
    exact ⟨Tt185, Xt185, (.slice none 0 0), by first | rfl | (simp [errW_none, errW_some] <;> rfl) | (simp [*, errW_none, errW_some] <;> rfl), by first | exact Kd.V_nil _ _ _ _ _ | exact Kd.R_nil _ _ _ _ _ | exact Kd.S_nil _ _ _ _ _ | exact Kd.N_nil _ _ _ _ _ | exact Kd.Q_nil _ _ _ _ _, by repeat (first | (with_reducible first | exact HB.out | apply below_alloc | apply pw_below_drewN | apply below_drew1) | exact HB.out)⟩
  · rw [if_neg c6] at H
    have c6b0 : decide (a2 ≤ a1) = false := decide_eq_false c6
    clear c6
    replace H := Option.bind_eq_some_iff.mp H
    obtain ⟨t186, A90, H⟩ := H
    replace H : (if (l3.length : Int) = t186 then ((proof_decompInclProof.f a1 a2).bind fun bt188 => (if (l4.length : Int) = (wrap64 (bt188.1 + bt188.2)) then (if 0 ≤ bt188.1 then (if bt188.1 ≤ (l4.length : Int) then ((proof_chainInner.f k a0_0 a0_1 a0_2 a0_3 a0_4 a0_5 l3 (l4.take (bt188.1 : Int).toNat) a1).bind fun t194 => ((proof_chainBorderRight.f k a0_0 a0_1 a0_2 a0_3 a0_4 a0_5 t194 (l4.drop (bt188.1 : Int).toNat)).bind fun t201 => (some (t201, none)))) else (none)) else (none)) else ((errors_New.f (⟨#[119, 114, 111, 110, 103, 32, 112, 114, 111, 111, 102, 32, 115, 105, 122, 101, 44, 32, 119, 97, 110, 116]⟩ : ByteArray)).bind fun t204 => (some (([] : List Int), t204))))) else ((errors_New.f (⟨#[108, 101, 97, 102, 72, 97, 115, 104, 32, 104, 97, 115, 32, 117, 110, 101, 120, 112, 101, 99, 116, 101, 100, 32, 115, 105, 122, 101, 44, 32, 119, 97, 110, 116]⟩ : ByteArray)).bind fun t187 => (some (([] : List Int), t187)))) = some (r1, r2) := H
    have A9 := Aside0.mk A90
    clear A90
    by_cases c10 : (l3.length : Int) = t186
    · rw [if_pos c10] at H
      have c10b0 : ((l3.length : Int) == t186) = true := beq_iff_eq.mpr c10
      have c10b1 : ((l3.length : Int) != t186) = false := bne_eq_false_iff_eq.mpr c10
      clear c10
      replace H := Option.bind_eq_some_iff.mp H
      obtain ⟨⟨t188, t189⟩, A110, H⟩ := H
      replace H : (if (l4.length : Int) = (wrap64 (t188 + t189)) then (if 0 ≤ t188 then (if t188 ≤ (l4.length : Int) then ((proof_chainInner.f k a0_0 a0_1 a0_2 a0_3 a0_4 a0_5 l3 (l4.take (t188 : Int).toNat) a1).bind fun t194 => ((proof_chainBorderRight.f k a0_0 a0_1 a0_2 a0_3 a0_4 a0_5 t194 (l4.drop (t188 : Int).toNat)).bind fun t201 => (some (t201, none)))) else (none)) else (none)) else ((errors_New.f (⟨#[119, 114, 111, 110, 103, 32, 112, 114, 111, 111, 102, 32, 115, 105, 122, 101, 44, 32, 119, 97, 110, 116]⟩ : ByteArray)).bind fun t204 => (some (([] : List Int), t204)))) = some (r1, r2) := H
      have A11 := Aside0.mk A110
      clear A110
      by_cases c12 : (l4.length : Int) = (wrap64 (t188 + t189))
      · rw [if_pos c12] at H
        have c12b0 : ((l4.length : Int) == (wrap64 (t188 + t189))) = true := beq_iff_eq.mpr c12
        have c12b1 : ((l4.length : Int) != (wrap64 (t188 + t189))) = false := bne_eq_false_iff_eq.mpr c12
        clear c12
        by_cases c13 : 0 ≤ t188
        · rw [if_pos c13] at H
          have c13b0 := eq_true c13
          have c13b1 : decide (0 ≤ t188) = true := decide_eq_true c13
          clear c13
          by_cases c14 : t188 ≤ (l4.length : Int)
          · rw [if_pos c14] at H
            have c14b0 := eq_true c14
            have c14b1 : decide (t188 ≤ (l4.length : Int)) = true := decide_eq_true c14
            clear c14
            obtain ⟨y190, hy190⟩ : ∃ y_ : List (List Int), y_ = (l4.take (t188 : Int).toNat) := ⟨_, rfl⟩
            replace H : ((proof_chainInner.f k a0_0 a0_1 a0_2 a0_3 a0_4 a0_5 l3 y190 a1).bind fun t194 => ((proof_chainBorderRight.f k a0_0 a0_1 a0_2 a0_3 a0_4 a0_5 t194 (l4.drop (t188 : Int).toNat)).bind fun t201 => (some (t201, none)))) = some (r1, r2) := by first | (rw [hy190]; with_reducible exact H) | (have H2_ := (Option.bind_some _ _).symm.trans H; rw [hy190]; with_reducible exact H2_) | (have H2_ := (Option.bind_some _ _).symm.trans H; with_reducible exact H2_) | with_reducible exact H | (rw [hy190]; exact H) | exact H
            have Ny190 := Aside0.mk hy190
            clear hy190
            replace H := Option.bind_eq_some_iff.mp H
            obtain ⟨t194, A150, H⟩ := H
            replace H : ((proof_chainBorderRight.f k a0_0 a0_1 a0_2 a0_3 a0_4 a0_5 t194 (l4.drop (t188 : Int).toNat)).bind fun t201 => (some (t201, none))) = some (r1, r2) := H
            have A15 := Aside0.mk A150
            clear A150
            have c16b0 := eq_true (of_decide_eq_true (by first | (with_reducible assumption) | assumption) : 0 ≤ t188)
            have c17b0 := eq_true (of_decide_eq_true (by first | (with_reducible assumption) | assumption) : t188 ≤ (l4.length : Int))
            obtain ⟨y197, hy197⟩ : ∃ y_ : List (List Int), y_ = (l4.drop (t188 : Int).toNat) := ⟨_, rfl⟩
            replace H : ((proof_chainBorderRight.f k a0_0 a0_1 a0_2 a0_3 a0_4 a0_5 t194 y197).bind fun t201 => (some (t201, none))) = some (r1, r2) := by first | (rw [hy197]; with_reducible exact H) | (have H2_ := (Option.bind_some _ _).symm.trans H; rw [hy197]; with_reducible exact H2_) | (have H2_ := (Option.bind_some _ _).symm.trans H; with_reducible exact H2_) | with_reducible exact H | (rw [hy197]; exact H) | exact H
            have Ny197 := Aside0.mk hy197
            clear hy197
            replace H := Option.bind_eq_some_iff.mp H
            obtain ⟨t201, A180, H⟩ := H
            replace H : (some (t201, none)) = some (r1, r2) := H
            have A18 := Aside0.mk A180
            clear A180
            simp only [Option.some.injEq, Prod.mk.injEq] at H
            obtain ⟨rfl, rfl⟩ := H
            go_enter Try.func28, Try.ntmps28
            go_wp2_with (first | ((with_reducible refine gate_invoke (m := "Size") rfl ?_); refine invokesL_ (some 26) rfl rfl Try.func69 (by kernel_rfl) rfl 52 (.agg #[.int .i64 a0_0, .int .i64 a0_1, .int .i64 a0_2, .int .u64 a0_3, .int .u64 a0_4, .int .u64 a0_5]) #[] #[.agg #[.int .i64 a0_0, .int .i64 a0_1, .int .i64 a0_2, .int .u64 a0_3, .int .u64 a0_4, .int .u64 a0_5]] rfl rfl (by first | rfl | (simp only [Act.eval]; rfl)) (by (try simp only [List.map_toArray, List.map_cons, List.map_nil]); first | done | rfl | (simp only [List.length_drop, List.length_take]; rfl)) (fun _ => by kernel_rfl) ?_; (with_reducible refine (impl_toy_Size.calls a0_0 a0_1 a0_2 a0_3 a0_4 a0_5 t186 _ A9.out).mono ?_); rintro e w19 ⟨rfl, hb⟩; refine ⟨_, rfl, ?_⟩; have n0_ := Aside0.mk (Kd.V_below (by (with_reducible repeat (first | apply Kd.V_alloc | apply Kd.V_drewN | apply Kd.V_drew)); exact HO3.out) hb); have n1_ := Aside0.mk (below_step (by repeat (first | (with_reducible first | exact HB.out | apply below_alloc | apply pw_below_drewN | apply below_drew1) | exact HB.out)) hb); clear HO3; clear HB; have HO3 := n0_; have HB := n1_; clear n0_ n1_; (try clear hb); (try clear hb2); (try clear hk); (try clear hi)) | ((with_reducible refine gate_callee (f := 40) rfl ?_); refine goesL_ (some 34) rfl rfl Try.func40 (by kernel_rfl) rfl #[.int .u64 a1, .int .u64 a2] rfl (by (try simp only [List.map_toArray, List.map_cons, List.map_nil]); first | done | rfl | (simp only [List.length_drop, List.length_take]; rfl)) ?_; (with_reducible refine (proof_decompInclProof.calls a1 a2 t188 t189 _ A11.out).mono ?_); rintro e w' ⟨rfl, ⟨nd, rfl⟩⟩; refine ⟨_, rfl, ?_⟩; have q20 : (t188 : Int) ≤ ((l4.length : Int) : Int) := of_decide_eq_true (by first | (with_reducible assumption) | assumption); obtain ⟨i020, hi020, _, hsz20, _⟩ := info_parts info30; have hroom20 : l4.length ≤ c4 := HC4.out; have hC20 : Kd.C (Kd.slice 5 (Kd.int .u8)) _ A4 l4.length l4 := HR4.out; have hcut20 := cut_to (P := Try.prog) 23 30 .i64 Try.underlying23 hi020 A4 l4.length c4 t188 (of_decide_eq_true (by first | (with_reducible assumption) | assumption)) q20 hroom20; have hr20 := Kd.C_take (m := (t188 : Int).toNat) hC20 (by omega); have hy20 : y190.length = (t188 : Int).toNat := (by rw [Ny190.out, List.length_take]; omega); rw [← Ny190.out] at hr20; rw [← hy20] at hcut20; have HR193 := Aside0.mk hr20; have HC193 := Aside0.mk (show y190.length ≤ c4 from by omega); clear hr20 hC20 hroom20 hi020 hsz20; have KY20 := Aside0.mk hy20; clear hy20; replace q20 := eq_true q20) | ((with_reducible refine gate_callee (f := 41) rfl ?_); refine goesL_ (some 52) rfl rfl Try.func41 (by kernel_rfl) rfl #[.iface 52 (.agg #[.int .i64 a0_0, .int .i64 a0_1, .int .i64 a0_2, .int .u64 a0_3, .int .u64 a0_4, .int .u64 a0_5]), .slice A3 l3.length c3, .slice A4 y190.length c4, .int .u64 a1] rfl (by (try simp only [List.map_toArray, List.map_cons, List.map_nil]); first | done | rfl | (simp only [List.length_drop, List.length_take]; rfl)) ?_; (with_reducible refine (proof_chainInner.calls k a0_0 a0_1 a0_2 a0_3 a0_4 a0_5 (fun k_ => (P3_ k_ ∨ w.heap.size ≤ k_)) _ _ l3 _ _ y190 a1 t194 _ ?side1 ?side2 ?side3 A15.out).mono ?_); (case side1 => first | exact HO3.out | exact Kd.V_mono HO3.out (fun k_ h_ => by simp only [and_assoc] at h_ ⊢; exact h_)); (case side2 => repeat (first | exact (Kd.C_below HR193.out (by repeat (first | (with_reducible first | exact HB.out | apply below_alloc | apply pw_below_drewN | apply below_drew1) | exact HB.out))) | (with_reducible refine Kd.C_alloc ?_ _) | (with_reducible refine Kd.C_drewN ?_ _) | (with_reducible refine Kd.C_drew ?_))); (case side3 => exact HC193.out); rintro e w21 ⟨v195, rfl, ho0, hb⟩; refine ⟨_, rfl, ?_⟩; have n0_ := Aside0.mk (Kd.V_below (by (with_reducible repeat (first | apply Kd.V_alloc | apply Kd.V_drewN | apply Kd.V_drew)); exact HO3.out) hb); have n1_ := Aside0.mk (Kd.V_lower (Kd.V_mono (ok' := fun k_ => (P3_ k_ ∨ w.heap.size ≤ k_)) ho0 (fun k_ hk_ => Or.elim hk_ (fun hs_ => hs_) (fun hn_ => (.inr (Nat.le_trans (below_size (by repeat (first | (with_reducible first | exact HB.out | apply below_alloc | apply pw_below_drewN | apply below_drew1) | exact HB.out))) hn_))))) (below_size (by repeat (first | (with_reducible first | exact HB.out | apply below_alloc | apply pw_below_drewN | apply below_drew1) | exact HB.out)))); have n2_ := Aside0.mk (below_step (by repeat (first | (with_reducible first | exact HB.out | apply below_alloc | apply pw_below_drewN | apply below_drew1) | exact HB.out)) hb); clear HO3; clear HB; have HO3 := n0_; have HO196 := n1_; have HB := n2_; clear n0_ n1_ n2_; (try clear hb); (try clear hb2); (try clear hk); (try clear hi); (try clear ho0); have q22 : (t188 : Int) ≤ ((l4.length : Int) : Int) := of_decide_eq_true (by first | (with_reducible assumption) | assumption); obtain ⟨i022, hi022, _, hsz22, _⟩ := info_parts info30; have hroom22 : l4.length ≤ c4 := HC4.out; have hC22 : Kd.C (Kd.slice 5 (Kd.int .u8)) _ A4 l4.length l4 := HR4.out; have q022 : (0 : Int) ≤ (t188 : Int) := of_decide_eq_true (by first | (with_reducible assumption) | assumption); have hcut22 := cut_from (P := Try.prog) 23 30 .i64 Try.underlying23 hi022 1 hsz22 A4 l4.length c4 t188 q022 q22; have hr22 := Kd.C_drop (m := (t188 : Int).toNat) (c := c4) hC22 (by omega) hroom22; obtain ⟨A22, hA22⟩ : ∃ A1, A1 = (if c4 = (t188 : Int).toNat then A4 else (A4 : Option Addr).map (·.add ((t188 : Int).toNat * 1))) := ⟨_, rfl⟩; obtain ⟨c22, hc22⟩ : ∃ c1, c1 = c4 - (t188 : Int).toNat := ⟨_, rfl⟩; have hy22 : y197.length = l4.length - (t188 : Int).toNat := (by rw [Ny197.out, List.length_drop] <;> omega); rw [show (l4).drop (t188 : Int).toNat = y197 from Ny197.out.symm] at hr22; replace hr22 : Kd.C (Kd.slice 5 (Kd.int .u8)) _ A22 y197.length y197 := (by rw [hA22]; exact hr22); rw [← hy22, ← hA22, ← hc22] at hcut22; have HR200 := Aside0.mk hr22; have HC200 := Aside0.mk (show y197.length ≤ c22 from by rw [hy22, hc22]; exact Nat.sub_le_sub_right hroom22 _); clear hr22 hC22 hroom22 hi022 hsz22 hc22; have KY22 := Aside0.mk hy22; have KA22 := Aside0.mk hA22; clear hy22 hA22; replace q22 := eq_true q22; obtain ⟨Ao23, co23, eo23⟩ := Kd.V_slice HO196.out; subst eo23) | ((with_reducible refine gate_callee (f := 42) rfl ?_); refine goesL_ (some 58) rfl rfl Try.func42 (by kernel_rfl) rfl #[.iface 52 (.agg #[.int .i64 a0_0, .int .i64 a0_1, .int .i64 a0_2, .int .u64 a0_3, .int .u64 a0_4, .int .u64 a0_5]), .slice Ao23 t194.length co23, .slice A22 y197.length c22] rfl (by (try simp only [List.map_toArray, List.map_cons, List.map_nil]); first | done | rfl | (simp only [List.length_drop, List.length_take]; rfl)) ?_; (with_reducible refine (proof_chainBorderRight.calls k a0_0 a0_1 a0_2 a0_3 a0_4 a0_5 (fun k_ => (P3_ k_ ∨ w.heap.size ≤ k_)) _ _ t194 _ _ y197 t201 _ ?side1 ?side2 ?side3 A18.out).mono ?_); (case side1 => first | exact HO196.out | exact Kd.V_mono HO196.out (fun k_ h_ => by simp only [and_assoc] at h_ ⊢; exact h_)); (case side2 => repeat (first | exact (Kd.C_below HR200.out HB.out) | (with_reducible refine Kd.C_alloc ?_ _) | (with_reducible refine Kd.C_drewN ?_ _) | (with_reducible refine Kd.C_drew ?_))); (case side3 => exact HC200.out); rintro e w24 ⟨v202, rfl, ho0, hb⟩; refine ⟨_, rfl, ?_⟩; have n0_ := Aside0.mk (Kd.V_below (by (with_reducible repeat (first | apply Kd.V_alloc | apply Kd.V_drewN | apply Kd.V_drew)); exact HO3.out) hb); have n1_ := Aside0.mk (Kd.V_below (by (with_reducible repeat (first | apply Kd.V_alloc | apply Kd.V_drewN | apply Kd.V_drew)); exact HO196.out) hb); have n2_ := Aside0.mk (Kd.V_lower (Kd.V_mono (ok' := fun k_ => (P3_ k_ ∨ w.heap.size ≤ k_)) ho0 (fun k_ hk_ => Or.elim hk_ (fun hs_ => hs_) (fun hn_ => (.inr (Nat.le_trans (below_size (by repeat (first | (with_reducible first | exact HB.out | apply below_alloc | apply pw_below_drewN | apply below_drew1) | exact HB.out))) hn_))))) (below_size (by repeat (first | (with_reducible first | exact HB.out | apply below_alloc | apply pw_below_drewN | apply below_drew1) | exact HB.out)))); have n3_ := Aside0.mk (below_step (by repeat (first | (with_reducible first | exact HB.out | apply below_alloc | apply pw_below_drewN | apply below_drew1) | exact HB.out)) hb); clear HO3; clear HO196; clear HB; have HO3 := n0_; have HO196 := n1_; have HO203 := n2_; have HB := n3_; clear n0_ n1_ n2_ n3_; (try clear hb); (try clear hb2); (try clear hk); (try clear hi); (try clear ho0)))
            go_ret2
            exact ⟨(fun _ => 0), (fun _ => .nilIface), _, by first | rfl | (simp [errW_none, errW_some] <;> rfl) | (simp [*, errW_none, errW_some] <;> rfl), by (with_reducible repeat (first | apply Kd.V_alloc | apply Kd.V_drewN | apply Kd.V_drew)); exact HO203.out, by repeat (first | (with_reducible first | exact HB.out | apply below_alloc | apply pw_below_drewN | apply below_drew1) | exact HB.out)⟩
          · rw [if_neg c14] at H
            exact absurd H (by simp)
        · rw [if_neg c13] at H
          exact absurd H (by simp)
      · rw [if_neg c12] at H
        have c12b0 : ((l4.length : Int) == (wrap64 (t188 + t189))) = false := beq_eq_false_iff_ne.mpr c12
        have c12b1 : ((l4.length : Int) != (wrap64 (t188 + t189))) = true := bne_iff_ne.mpr c12
        replace H := Option.bind_eq_some_iff.mp H
        obtain ⟨t204, A250, H⟩ := H
        replace H : (some (([] : List Int), t204)) = some (r1, r2) := H
        have A25 := Aside0.mk A250
        clear A250
        simp only [Option.some.injEq, Prod.mk.injEq] at H
        obtain ⟨rfl, rfl⟩ := H
        go_enter Try.func28, Try.ntmps28
        go_wp2_with (first | ((with_reducible refine gate_invoke (m := "Size") rfl ?_); refine invokesL_ (some 26) rfl rfl Try.func69 (by kernel_rfl) rfl 52 (.agg #[.int .i64 a0_0, .int .i64 a0_1, .int .i64 a0_2, .int .u64 a0_3, .int .u64 a0_4, .int .u64 a0_5]) #[] #[.agg #[.int .i64 a0_0, .int .i64 a0_1, .int .i64 a0_2, .int .u64 a0_3, .int .u64 a0_4, .int .u64 a0_5]] rfl rfl (by first | rfl | (simp only [Act.eval]; rfl)) (by (try simp only [List.map_toArray, List.map_cons, List.map_nil]); first | done | rfl | (simp only [List.length_drop, List.length_take]; rfl)) (fun _ => by kernel_rfl) ?_; (with_reducible refine (impl_toy_Size.calls a0_0 a0_1 a0_2 a0_3 a0_4 a0_5 t186 _ A9.out).mono ?_); rintro e w26 ⟨rfl, hb⟩; refine ⟨_, rfl, ?_⟩; have n0_ := Aside0.mk (Kd.V_below (by (with_reducible repeat (first | apply Kd.V_alloc | apply Kd.V_drewN | apply Kd.V_drew)); exact HO3.out) hb); have n1_ := Aside0.mk (below_step (by repeat (first | (with_reducible first | exact HB.out | apply below_alloc | apply pw_below_drewN | apply below_drew1) | exact HB.out)) hb); clear HO3; clear HB; have HO3 := n0_; have HB := n1_; clear n0_ n1_; (try clear hb); (try clear hb2); (try clear hk); (try clear hi)) | ((with_reducible refine gate_callee (f := 40) rfl ?_); refine goesL_ (some 34) rfl rfl Try.func40 (by kernel_rfl) rfl #[.int .u64 a1, .int .u64 a2] rfl (by (try simp only [List.map_toArray, List.map_cons, List.map_nil]); first | done | rfl | (simp only [List.length_drop, List.length_take]; rfl)) ?_; (with_reducible refine (proof_decompInclProof.calls a1 a2 t188 t189 _ A11.out).mono ?_); rintro e w' ⟨rfl, ⟨nd, rfl⟩⟩; refine ⟨_, rfl, ?_⟩) | ((with_reducible refine gate_callee (f := 36) rfl ?_); refine goesL_ (some 45) rfl rfl Try.func36 (by kernel_rfl) rfl #[.string (⟨#[119, 114, 111, 110, 103, 32, 112, 114, 111, 111, 102, 32, 115, 105, 122, 101, 44, 32, 119, 97, 110, 116]⟩ : ByteArray)] rfl (by (try simp only [List.map_toArray, List.map_cons, List.map_nil]); first | done | rfl | (simp only [List.length_drop, List.length_take]; rfl)) ?_; (with_reducible refine (errors_New.calls (⟨#[119, 114, 111, 110, 103, 32, 112, 114, 111, 111, 102, 32, 115, 105, 122, 101, 44, 32, 119, 97, 110, 116]⟩ : ByteArray) t204 _ A25.out).mono ?_); rintro e w27 ⟨Tt204, Xt204, rfl, hb⟩; refine ⟨_, rfl, ?_⟩; have n0_ := Aside0.mk (Kd.V_below (by (with_reducible repeat (first | apply Kd.V_alloc | apply Kd.V_drewN | apply Kd.V_drew)); exact HO3.out) hb); have n1_ := Aside0.mk (below_step (by repeat (first | (with_reducible first | exact HB.out | apply below_alloc | apply pw_below_drewN | apply below_drew1) | exact HB.out)) hb); clear HO3; clear HB; have HO3 := n0_; have HB := n1_; clear n0_ n1_; (try clear hb); (try clear hb2); (try clear hk); (try clear hi); (try simp only [errW_none, errW_some])))
        go_ret2
        exact ⟨Tt204, Xt204, (.slice none 0 0), by first | rfl | (simp [errW_none, errW_some] <;> rfl) | (simp [*, errW_none, errW_some] <;> rfl), by first | exact Kd.V_nil _ _ _ _ _ | exact Kd.R_nil _ _ _ _ _ | exact Kd.S_nil _ _ _ _ _ | exact Kd.N_nil _ _ _ _ _ | exact Kd.Q_nil _ _ _ _ _, by repeat (first | (with_reducible first | exact HB.out | apply below_alloc | apply pw_below_drewN | apply below_drew1) | exact HB.out)⟩
    · rw [if_neg c10] at H
      have c10b0 : ((l3.length : Int) == t186) = false := beq_eq_false_iff_ne.mpr c10
      have c10b1 : ((l3.length : Int) != t186) = true := bne_iff_ne.mpr c10
      replace H := Option.bind_eq_some_iff.mp H
      obtain ⟨t187, A280, H⟩ := H
      replace H : (some (([] : List Int), t187)) = some (r1, r2) := H
      have A28 := Aside0.mk A280
      clear A280
      simp only [Option.some.injEq, Prod.mk.injEq] at H
      obtain ⟨rfl, rfl⟩ := H
      go_enter Try.func28, Try.ntmps28
      go_wp2_with (first | ((with_reducible refine gate_invoke (m := "Size") rfl ?_); refine invokesL_ (some 26) rfl rfl Try.func69 (by kernel_rfl) rfl 52 (.agg #[.int .i64 a0_0, .int .i64 a0_1, .int .i64 a0_2, .int .u64 a0_3, .int .u64 a0_4, .int .u64 a0_5]) #[] #[.agg #[.int .i64 a0_0, .int .i64 a0_1, .int .i64 a0_2, .int .u64 a0_3, .int .u64 a0_4, .int .u64 a0_5]] rfl rfl (by first | rfl | (simp only [Act.eval]; rfl)) (by (try simp only [List.map_toArray, List.map_cons, List.map_nil]); first | done | rfl | (simp only [List.length_drop, List.length_take]; rfl)) (fun _ => by kernel_rfl) ?_; (with_reducible refine (impl_toy_Size.calls a0_0 a0_1 a0_2 a0_3 a0_4 a0_5 t186 _ A9.out).mono ?_); rintro e w29 ⟨rfl, hb⟩; refine ⟨_, rfl, ?_⟩; have n0_ := Aside0.mk (Kd.V_below (by (with_reducible repeat (first | apply Kd.V_alloc | apply Kd.V_drewN | apply Kd.V_drew)); exact HO3.out) hb); have n1_ := Aside0.mk (below_step (by repeat (first | (with_reducible first | exact HB.out | apply below_alloc | apply pw_below_drewN | apply below_drew1) | exact HB.out)) hb); clear HO3; clear HB; have HO3 := n0_; have HB := n1_; clear n0_ n1_; (try clear hb); (try clear hb2); (try clear hk); (try clear hi)) | ((with_reducible refine gate_callee (f := 36) rfl ?_); refine goesL_ (some 30) rfl rfl Try.func36 (by kernel_rfl) rfl #[.string (⟨#[108, 101, 97, 102, 72, 97, 115, 104, 32, 104, 97, 115, 32, 117, 110, 101, 120, 112, 101, 99, 116, 101, 100, 32, 115, 105, 122, 101, 44, 32, 119, 97, 110, 116]⟩ : ByteArray)] rfl (by (try simp only [List.map_toArray, List.map_cons, List.map_nil]); first | done | rfl | (simp only [List.length_drop, List.length_take]; rfl)) ?_; (with_reducible refine (errors_New.calls (⟨#[108, 101, 97, 102, 72, 97, 115, 104, 32, 104, 97, 115, 32, 117, 110, 101, 120, 112, 101, 99, 116, 101, 100, 32, 115, 105, 122, 101, 44, 32, 119, 97, 110, 116]⟩ : ByteArray) t187 _ A28.out).mono ?_); rintro e w30 ⟨Tt187, Xt187, rfl, hb⟩; refine ⟨_, rfl, ?_⟩; have n0_ := Aside0.mk (Kd.V_below (by (with_reducible repeat (first | apply Kd.V_alloc | apply Kd.V_drewN | apply Kd.V_drew)); exact HO3.out) hb); have n1_ := Aside0.mk (below_step (by repeat (first | (with_reducible first | exact HB.out | apply below_alloc | apply pw_below_drewN | apply below_drew1) | exact HB.out)) hb); clear HO3; clear HB; have HO3 := n0_; have HB := n1_; clear n0_ n1_; (try clear hb); (try clear hb2); (try clear hk); (try clear hi); (try simp only [errW_none, errW_some])))
      go_ret2
      exact ⟨Tt187, Xt187, (.slice none 0 0), by first | rfl | (simp [errW_none, errW_some] <;> rfl) | (simp [*, errW_none, errW_some] <;> rfl), by first | exact Kd.V_nil _ _ _ _ _ | exact Kd.R_nil _ _ _ _ _ | exact Kd.S_nil _ _ _ _ _ | exact Kd.N_nil _ _ _ _ _ | exact Kd.Q_nil _ _ _ _ _, by repeat (first | (with_reducible first | exact HB.out | apply below_alloc | apply pw_below_drewN | apply below_drew1) | exact HB.out)⟩

end Go.Proofs.Ytkmdkmlgahfcpaa.M

namespace Go.Proofs.Ytkmdkmlgahfcpaa.M
open Go.RowKit Go.Proofs.YtkmdkmlgahfcpaaW.PrintWords Go.Proofs.YtkmdkmlgahfcpaaW.PrintLast Go.Proofs.YtkmdkmlgahfcpaaW.PrintMore
attribute [local go_sem] max2_int min2_int max_two min_two max_three min_three max_four min_four   -- for this text's walks alone
set_option linter.unusedVariables false
set_option linter.unusedSimpArgs false

/-! ### impl_RootOfInclusion: function 14 -/
def impl_RootOfInclusion.f (k : Nat) (a0_0 : Int) (a0_1 : Int) (a0_2 : Int) (a0_3 : Int) (a0_4 : Int) (a0_5 : Int) (a1 : Int) (a2 : Int) (l3 : List Int) (l4 : List (List Int)) : Option (List Int × Bool) := (some (([] : List Int) : List Int)).bind fun y206 => (if y206.length + l3.length < 140737488355328 then ((impl_texts.f k l4).bind fun t212 => ((proof_RootFromInclusionProof.f k a0_0 a0_1 a0_2 a0_3 a0_4 a0_5 a1 a2 (y206 ++ l3) t212).bind fun bt215 => (if bt215.2.isNone = true then (some (bt215.1, true)) else (some (bt215.1, false))))) else (none))
theorem impl_RootOfInclusion.mono : ∀ a0 a1 a2 a3 a4 a5 a6 a7 a8 a9 k, LeO (impl_RootOfInclusion.f k a0 a1 a2 a3 a4 a5 a6 a7 a8 a9) (impl_RootOfInclusion.f (k + 1) a0 a1 a2 a3 a4 a5 a6 a7 a8 a9) := by
  intro a0 a1 a2 a3 a4 a5 a6 a7 a8 a9 k
  unfold impl_RootOfInclusion.f
  repeat' first
      | (with_reducible exact impl_texts.mono _ _)
      | (with_reducible exact proof_RootFromInclusionProof.mono _ _ _ _ _ _ _ _ _ _ _)
      | (with_reducible exact LeO.refl _)
      | (with_reducible exact LeO.none _)
      | (with_reducible refine LeO.ite ?_ ?_)
      | (with_reducible refine LeO.bind ?_ (fun _ => ?_))
      | exact impl_texts.mono _ _
      | exact proof_RootFromInclusionProof.mono _ _ _ _ _ _ _ _ _ _ _
      | exact LeO.none _
      | refine LeO.ite ?_ ?_
      | refine LeO.bind ?_ (fun _ => ?_)
def impl_RootOfInclusion.T1 : Bool × List (List Nat × List Nat) := (true, [([], []), ([0], [0]), ([1], [1]), ([], []), ([], []), ([], []), ([], []), ([5, 6], [5, 6]), ([], []), ([8, 7], [8]), ([2, 3, 4, 7, 9, 9], [2, 3, 4, 7, 9]), ([10], [10]), ([11], [11]), ([11], [11]), ([12, 10, 0, 1, 2, 3, 4, 5, 6, 7, 8, 9, 10, 11, 12], [12]), ([13, 14, 0, 1, 2, 3, 4, 5, 6, 7, 8, 9, 10, 11, 12, 13, 14], [13])])
def impl_RootOfInclusion.B1 : List Nat := [0, 1, 3, 0, 0, 0, 0, 96, 0, 480, 1023, 2047, 4095, 4095, 8191, 32767]
theorem impl_RootOfInclusion.tab1 : rtab .any (opsOf Try.f14 1) = impl_RootOfInclusion.T1 := by kernel_rfl
theorem impl_RootOfInclusion.bits1 : waitsOk impl_RootOfInclusion.T1.2 impl_RootOfInclusion.B1 = true := by kernel_rfl
set_option maxHeartbeats 8000000 in
set_option maxRecDepth 100000 in
theorem impl_RootOfInclusion.calls (k : Nat) (a0_0 : Int) (a0_1 : Int) (a0_2 : Int) (a0_3 : Int) (a0_4 : Int) (a0_5 : Int) (a1 : Int) (a2 : Int) (A3 : Option Addr) (c3 : Nat) (l3 : List Int) (A4 : Option Addr) (c4 : Nat) (l4 : List (List Int)) (r1 : List Int) (r2 : Bool) (w : World) (hr3 : Kd.C (Kd.int .u8) w A3 l3.length l3) (hc3 : l3.length ≤ c3) (hr4 : Kd.C (Kd.slice 5 (Kd.int .u8)) w A4 l4.length l4) (hc4 : l4.length ≤ c4) (h : impl_RootOfInclusion.f k a0_0 a0_1 a0_2 a0_3 a0_4 a0_5 a1 a2 l3 l4 = some (r1, r2)) :
    Calls Try.prog 14 #[.agg #[.int .i64 a0_0, .int .i64 a0_1, .int .i64 a0_2, .int .u64 a0_3, .int .u64 a0_4, .int .u64 a0_5], .int .u64 a1, .int .u64 a2, .slice A3 l3.length c3, .slice A4 l4.length c4] w fun e w' => ∃ v0_ : Value, e = .returned (.tuple #[v0_, .bool r2]) ∧ Kd.V (Kd.int .u8) 5 w' w.heap.size (fun k_ => (w.heap.size ≤ k_)) v0_ r1 ∧ Below w.heap.size w w' := by
  have hu29 := Try.underlying29
  have hu52 := Try.underlying52
  have hu58 := Try.underlying58
  have HR3 := Aside0.mk hr3
  have HC3 := Aside0.mk hc3
  clear hr3 hc3
  have HR4 := Aside0.mk hr4
  have HC4 := Aside0.mk hc4
  clear hr4 hc4
  have HB := Aside0.mk (Below.refl w.heap.size w)
  have H : ((some (([] : List Int) : List Int)).bind fun y206 => (if y206.length + l3.length < 140737488355328 then ((impl_texts.f k l4).bind fun t212 => ((proof_RootFromInclusionProof.f k a0_0 a0_1 a0_2 a0_3 a0_4 a0_5 a1 a2 (y206 ++ l3) t212).bind fun bt215 => (if bt215.2.isNone = true then (some (bt215.1, true)) else (some (bt215.1, false))))) else (none))) = some (r1, r2) := h
  clear h
  obtain ⟨y206, hy206⟩ : ∃ y_ : List Int, y_ = (([] : List Int)) := ⟨_, rfl⟩
  replace H : (if y206.length + l3.length < 140737488355328 then ((impl_texts.f k l4).bind fun t212 => ((proof_RootFromInclusionProof.f k a0_0 a0_1 a0_2 a0_3 a0_4 a0_5 a1 a2 (y206 ++ l3) t212).bind fun bt215 => (if bt215.2.isNone = true then (some (bt215.1, true)) else (some (bt215.1, false))))) else (none)) = some (r1, r2) := by first | (rw [hy206]; with_reducible exact H) | (have H2_ := (Option.bind_some _ _).symm.trans H; rw [hy206]; with_reducible exact H2_) | (have H2_ := (Option.bind_some _ _).symm.trans H; with_reducible exact H2_) | with_reducible exact H | (rw [hy206]; exact H) | exact H
  have Ny206 := Aside0.mk hy206
  clear hy206
  by_cases c6 : y206.length + l3.length < 140737488355328
  · rw [if_pos c6] at H
    have LMc6 := Aside0.mk c6
    clear c6
    obtain ⟨y209, hy209⟩ : ∃ y_ : List Int, y_ = (y206 ++ l3) := ⟨_, rfl⟩
    replace H : ((impl_texts.f k l4).bind fun t212 => ((proof_RootFromInclusionProof.f k a0_0 a0_1 a0_2 a0_3 a0_4 a0_5 a1 a2 y209 t212).bind fun bt215 => (if bt215.2.isNone = true then (some (bt215.1, true)) else (some (bt215.1, false))))) = some (r1, r2) := by first | (rw [hy209]; with_reducible exact H) | (have H2_ := (Option.bind_some _ _).symm.trans H; rw [hy209]; with_reducible exact H2_) | (have H2_ := (Option.bind_some _ _).symm.trans H; with_reducible exact H2_) | with_reducible exact H | (rw [hy209]; exact H) | exact H
    have Ny209 := Aside0.mk hy209
    clear hy209
    replace H := Option.bind_eq_some_iff.mp H
    obtain ⟨t212, A70, H⟩ := H
    replace H : ((proof_RootFromInclusionProof.f k a0_0 a0_1 a0_2 a0_3 a0_4 a0_5 a1 a2 y209 t212).bind fun bt215 => (if bt215.2.isNone = true then (some (bt215.1, true)) else (some (bt215.1, false)))) = some (r1, r2) := H
    have A7 := Aside0.mk A70
    clear A70
    replace H := Option.bind_eq_some_iff.mp H
    obtain ⟨⟨t215, t218⟩, A80, H⟩ := H
    replace H : (if t218.isNone = true then (some (t215, true)) else (some (t215, false))) = some (r1, r2) := H
    have A8 := Aside0.mk A80
    clear A80
    rcases t218 with _ | q219
    · have H1 : (some (t215, true)) = some (r1, r2) := by rw [if_pos (show (none : Option Int).isNone = true by rfl)] at H; exact H
      clear H
      have H := H1
      clear H1
      try simp only [errW_none, errW_some]
      simp only [Option.some.injEq, Prod.mk.injEq] at H
      obtain ⟨rfl, rfl⟩ := H
      go_enter Try.func14, Try.ntmps14
      try go_wp2_with (first | ((with_reducible refine gate_dst (N := 5) rfl ?_); refine box_event ?hg (N := 5) ?hd (cs := #[.int .i64 a0_0, .int .i64 a0_1, .int .i64 a0_2, .int .u64 a0_3, .int .u64 a0_4, .int .u64 a0_5]) (t := 29) ?hr ?_; (case hd => rfl); (case hg => rfl); (case hr => first | (go_simp; done) | (go_simp; rfl)); intro gb205 hg w9 hbox hb; have n0_ := Aside0.mk (below_step (by repeat (first | (with_reducible first | exact HB.out | apply below_alloc | apply pw_below_drewN | apply below_drew1) | exact HB.out)) hb); have n1_ := Aside0.mk (hbox); have n2_ := Aside0.mk ((by rw [hg]; exact (below_size (by repeat (first | (with_reducible first | exact HB.out | apply below_alloc | apply pw_below_drewN | apply below_drew1) | exact HB.out))) : w.heap.size ≤ gb205)); have n3_ := Aside0.mk ((by rw [hg]; exact (below_size (by repeat (first | (with_reducible first | exact HB.out | apply below_alloc | apply pw_below_drewN | apply below_drew1) | exact HB.out))) : w.heap.size ≤ gb205)); clear HB; have HB := n0_; have BK205 := n1_; have GW205 := n2_; have GE205 := n3_; clear n0_ n1_ n2_ n3_; clear hb hbox hg))
      have n0_ := Aside0.mk (blk_drew BK205.out)
      have n1_ := Aside0.mk (below_drew1 HB.out)
      clear BK205
      clear HB
      have BK205 := n0_
      have HB := n1_
      clear n0_ n1_
      refine start_ (n := 16) (S := fun w' => w'.cell? ⟨gb205, 0, none⟩ = some (.int .i64 a0_0) ∧ w'.cell? ⟨gb205, 1, none⟩ = some (.int .i64 a0_1) ∧ w'.cell? ⟨gb205, 2, none⟩ = some (.int .i64 a0_2) ∧ w'.cell? ⟨gb205, 3, none⟩ = some (.int .u64 a0_3) ∧ w'.cell? ⟨gb205, 4, none⟩ = some (.int .u64 a0_4) ∧ w'.cell? ⟨gb205, 5, none⟩ = some (.int .u64 a0_5)) (ds := []) #[false, false, false, false, false, false, false, false, false, false, false, false, false, false, false, false] (by kernel_rfl) rfl rfl ⟨(blk_cell BK205.out 0).trans rfl, (blk_cell BK205.out 1).trans rfl, (blk_cell BK205.out 2).trans rfl, (blk_cell BK205.out 3).trans rfl, (blk_cell BK205.out 4).trans rfl, (blk_cell BK205.out 5).trans rfl⟩ (fun hHeld => ?_); refine with_tabW impl_RootOfInclusion.tab1 impl_RootOfInclusion.bits1 (fun HT_ HW_ => ?_)
      generalize w9.drew = w10 at BK205 HB hHeld ⊢
      refine pure_ (i := 3) (N := some 18) (v := ?_) (a' := ?_) #[false, false, false, true, false, false, false, false, false, false, false, false, false, false, false, false] rfl rfl (any_of HT_.out (by kernel_rfl)) (fun _ _ _ h => h) (Or.inl ⟨by rfl, ?_⟩) ?_ ?_
      rotate_left
      · intro w'
        go_simp
        with_reducible rfl
      rotate_left
      · simp only [Act.put, List.setIfInBounds_toArray, List.set_cons_zero, List.set_cons_succ, i64_w, i32_w]
        rfl
      refine pure_ (i := 4) (N := some 19) (v := ?_) (a' := ?_) #[false, false, false, true, true, false, false, false, false, false, false, false, false, false, false, false] rfl rfl (any_of HT_.out (by kernel_rfl)) (fun _ _ _ h => h) (Or.inl ⟨by rfl, ?_⟩) ?_ ?_
      rotate_left
      · intro w'
        go_simp
        with_reducible rfl
      rotate_left
      · simp only [Act.put, List.setIfInBounds_toArray, List.set_cons_zero, List.set_cons_succ, i64_w, i32_w]
        rfl
      refine pure_ (i := 6) (N := some 21) (v := ?_) (a' := ?_) #[false, false, false, true, true, false, true, false, false, false, false, false, false, false, false, false] rfl rfl (any_of HT_.out (by kernel_rfl)) (fun _ _ _ h => h) (Or.inl ⟨by rfl, ?_⟩) ?_ ?_
      rotate_left
      · intro w'
        go_simp
        with_reducible rfl
      rotate_left
      · simp only [Act.put, List.setIfInBounds_toArray, List.set_cons_zero, List.set_cons_succ, i64_w, i32_w]
        rfl
      refine pure_ (i := 8) (N := some 23) (v := ?_) (a' := ?_) #[false, false, false, true, true, false, true, false, true, false, false, false, false, false, false, false] rfl rfl (any_of HT_.out (by kernel_rfl)) (fun _ _ _ h => h) (Or.inl ⟨by rfl, ?_⟩) ?_ ?_
      rotate_left
      · intro w'
        go_simp
        with_reducible rfl
      rotate_left
      · simp only [Act.put, List.setIfInBounds_toArray, List.set_cons_zero, List.set_cons_succ, i64_w, i32_w]
        rfl
      refine take_ (i := 0) (N := some 15) (v := ?_) (a' := ?_) #[true, false, false, true, true, false, true, false, true, false, false, false, false, false, false, false] rfl rfl (take_ofW HT_.out HW_.out (by kernel_rfl)) (fun _ _ _ h => h) (Or.inl ⟨by rfl, ?_⟩) hHeld ?_ ?_
      rotate_left
      · rintro w' ⟨s0, s1, s2, s3, s4, s5⟩
        go_simp
        with_reducible rfl
      rotate_left
      · simp only [Act.put, List.setIfInBounds_toArray, List.set_cons_zero, List.set_cons_succ, i64_w, i32_w]
        rfl
      refine pure_ (i := 1) (N := some 16) (v := ?_) (a' := ?_) #[true, true, false, true, true, false, true, false, true, false, false, false, false, false, false, false] rfl rfl (any_of HT_.out (by kernel_rfl)) (fun _ _ _ h => h) (Or.inl ⟨by rfl, ?_⟩) ?_ ?_
      rotate_left
      · intro w'
        go_simp
        with_reducible rfl
      rotate_left
      · simp only [Act.put, List.setIfInBounds_toArray, List.set_cons_zero, List.set_cons_succ, i64_w, i32_w]
        rfl
      refine pure_ (i := 2) (N := some 17) (v := ?_) (a' := ?_) #[true, true, true, true, true, false, true, false, true, false, false, false, false, false, false, false] rfl rfl (any_of HT_.out (by kernel_rfl)) (fun _ _ _ h => h) (Or.inl ⟨by rfl, ?_⟩) ?_ ?_
      rotate_left
      · intro w'
        go_simp
        with_reducible rfl
      rotate_left
      · simp only [Act.put, List.setIfInBounds_toArray, List.set_cons_zero, List.set_cons_succ, i64_w, i32_w]
        rfl
      refine one_ (i := 5) (N := some 20) #[true, true, true, true, true, true, true, false, true, false, false, false, false, false, false, false] rfl rfl (one_of HT_.out (by kernel_rfl)) (by decide) (fun K hK => ?_)
      refine Kd.R_lit_step (Kd.int .u8) _ 5 ?hg (N := 20) ?hd (xs := ([] : List Int)) (inner := []) (ok := fun _ => True) (okp := fun _ => True) ?hr ?hp (fun _ hk => hk) trivial (Below.refl _ _) (Nat.le_refl _) (by simp) ?_; (case hd => rfl); (case hg => rfl); (case hr => first | (go_simp; done) | (go_simp; rfl)); (case hp => exact (Reps.none _ _))
      intro v207 w11 ho12 hb hg_ hnew_
      clear hg_ hnew_
      (first | rw [← Ny206.out] at ho12 | (simp only [Int.reduceToNat] at ho12; rw [← Ny206.out] at ho12))
      have n0_ := Aside0.mk (Kd.R_lower (Kd.R_newM (M := fun k_ => (w.heap.size ≤ k_)) ho12 (below_size (by repeat (first | (with_reducible first | exact HB.out | apply below_alloc | apply pw_below_drewN | apply below_drew1 | refine below_set ?_ GE205.out) | exact HB.out))) (fun k_ h_ => h_)) (below_size (by repeat (first | (with_reducible first | exact HB.out | apply below_alloc | apply pw_below_drewN | apply below_drew1 | refine below_set ?_ GE205.out) | exact HB.out))))
      have n1_ := Aside0.mk (blk_below (g := gb205) (o := .cells #[.int .i64 a0_0, .int .i64 a0_1, .int .i64 a0_2, .int .u64 a0_3, .int .u64 a0_4, .int .u64 a0_5] 29 (0, 0)) (by (with_reducible repeat (first | refine blk_drewN ?_ _ | refine blk_drew ?_ | refine blk_alloc ?_ _)); exact BK205.out) hb)
      have n2_ := Aside0.mk (below_step (by repeat (first | (with_reducible first | exact HB.out | apply below_alloc | apply pw_below_drewN | apply below_drew1 | refine below_set ?_ GE205.out) | exact HB.out)) hb)
      clear BK205
      clear HB
      have HO208 := n0_
      have BK205 := n1_
      have HB := n2_
      clear n0_ n1_ n2_
      clear hb ho12
      refine hK.out _ _ ⟨(blk_cell BK205.out 0).trans rfl, (blk_cell BK205.out 1).trans rfl, (blk_cell BK205.out 2).trans rfl, (blk_cell BK205.out 3).trans rfl, (blk_cell BK205.out 4).trans rfl, (blk_cell BK205.out 5).trans rfl⟩ (fun hHeld => ?_)
      clear hK K
      refine norm_ (a' := ?_) ?_ ?_
      rotate_left
      · show Act.put _ (some 20) _ = _
        simp only [Act.put, List.setIfInBounds_toArray, List.set_cons_zero, List.set_cons_succ, i64_w, i32_w]
        rfl
      refine one_ (i := 7) (N := some 22) #[true, true, true, true, true, true, true, true, true, false, false, false, false, false, false, false] rfl rfl (one_of HT_.out (by kernel_rfl)) (by decide) (fun K hK => ?_)
      refine Kd.R_append_rows_step (Kd.int .u8) (w0 := w) w.heap.size (by rfl) (.tmp 20) (.tmp 21) 30 5 (.int .u8 0) 1 rfl Try.underlying30 info5 rfl (by decide) (by omega) v207 y206 l3 _ _ _ (fun k_ => (w.heap.size ≤ k_)) (fun _ => False) rfl rfl ?aO ?aR (fun _ _ h => h) (fun _ h => h.elim) ?aF ?aB ?aS ?aL ?_
      (case aR => repeat (first | exact (Kd.C_below HR3.out HB.out) | (with_reducible refine Kd.C_alloc ?_ _) | (with_reducible refine Kd.C_drewN ?_ _) | (with_reducible refine Kd.C_drew ?_)))
      (case aB => exact (by repeat (first | (with_reducible first | exact HB.out | apply below_alloc | apply pw_below_drewN | apply below_drew1 | refine below_set ?_ GE205.out) | exact HB.out)))
      (case aF => exact (fun k_ hk => (Nat.le_trans (below_size (by repeat (first | (with_reducible first | exact HB.out | apply below_alloc | apply pw_below_drewN | apply below_drew1 | refine below_set ?_ GE205.out) | exact HB.out))) hk)))
      (case aO => exact (by (with_reducible repeat (first | apply Kd.R_alloc | apply Kd.R_drewN | apply Kd.R_drew)); exact Kd.R_mono HO208.out (fun _ hk => hk.1)))
      (case aS => exact (below_size (by repeat (first | (with_reducible first | exact HB.out | apply below_alloc | apply pw_below_drewN | apply below_drew1 | refine below_set ?_ GE205.out) | exact HB.out))))
      (case aL => have := LMc6.out; omega)
      intro v210 w13 ho hb hg hat
      rw [← Ny209.out] at ho
      have n0_ := Aside0.mk (blk_grown (g := gb205) (o := .cells #[.int .i64 a0_0, .int .i64 a0_1, .int .i64 a0_2, .int .u64 a0_3, .int .u64 a0_4, .int .u64 a0_5] 29 (0, 0)) (by (with_reducible repeat (first | refine blk_drewN ?_ _ | refine blk_drew ?_ | refine blk_alloc ?_ _)); exact BK205.out) hg (Kd.R_ne HO208.out BK205.out (by decide)))
      have n1_ := Aside0.mk (hb)
      have n2_ := Aside0.mk (ho)
      clear BK205
      clear HB
      clear HO208
      have BK205 := n0_
      have HB := n1_
      have HO211 := n2_
      clear n0_ n1_ n2_
      clear ho hb hg hat
      refine hK.out _ _ ⟨(blk_cell BK205.out 0).trans rfl, (blk_cell BK205.out 1).trans rfl, (blk_cell BK205.out 2).trans rfl, (blk_cell BK205.out 3).trans rfl, (blk_cell BK205.out 4).trans rfl, (blk_cell BK205.out 5).trans rfl⟩ (fun hHeld => ?_)
      clear hK K
      refine norm_ (a' := ?_) ?_ ?_
      rotate_left
      · show Act.put _ (some 22) _ = _
        simp only [Act.put, List.setIfInBounds_toArray, List.set_cons_zero, List.set_cons_succ, i64_w, i32_w]
        rfl
      refine one_ (i := 9) (N := some 24) #[true, true, true, true, true, true, true, true, true, true, false, false, false, false, false, false] rfl rfl (one_of HT_.out (by kernel_rfl)) (by decide) (fun K hK => ?_)
      refine goes_ Try.func23 (by kernel_rfl) rfl #[.slice A4 l4.length c4] (by rfl) rfl rfl (by (try simp only [List.map_toArray, List.map_cons, List.map_nil]); first | done | rfl | (simp only [List.length_drop, List.length_take]; rfl)) ?_
      with_reducible refine (impl_texts.calls k _ _ l4 t212 _ ?side1 ?side2 A7.out).mono ?_
      (case side1 => repeat (first | exact (Kd.C_below HR4.out HB.out) | (with_reducible refine Kd.C_alloc ?_ _) | (with_reducible refine Kd.C_drewN ?_ _) | (with_reducible refine Kd.C_drew ?_)))
      (case side2 => exact HC4.out)
      rintro e w14 ⟨v213, rfl, ho0, hb⟩
      refine ⟨_, rfl, ?_⟩
      have n0_ := Aside0.mk (Kd.R_below (by (with_reducible repeat (first | apply Kd.R_alloc | apply Kd.R_drewN | apply Kd.R_drew)); exact HO211.out) hb)
      have n1_ := Aside0.mk (Kd.S_lower (Kd.S_new' (Kd.S_newM (M := fun k_ => (w.heap.size ≤ k_)) ho0 (below_size (by repeat (first | (with_reducible first | exact HB.out | apply below_alloc | apply pw_below_drewN | apply below_drew1 | refine below_set ?_ GE205.out) | exact HB.out))) (fun k_ h_ => h_)) (Kd.R_lt (by (with_reducible repeat (first | apply Kd.R_alloc | apply Kd.R_drewN | apply Kd.R_drew)); exact HO211.out))) (below_size (by repeat (first | (with_reducible first | exact HB.out | apply below_alloc | apply pw_below_drewN | apply below_drew1 | refine below_set ?_ GE205.out) | exact HB.out))))
      have n2_ := Aside0.mk (blk_below (g := gb205) (o := .cells #[.int .i64 a0_0, .int .i64 a0_1, .int .i64 a0_2, .int .u64 a0_3, .int .u64 a0_4, .int .u64 a0_5] 29 (0, 0)) (by (with_reducible repeat (first | refine blk_drewN ?_ _ | refine blk_drew ?_ | refine blk_alloc ?_ _)); exact BK205.out) hb)
      have n3_ := Aside0.mk (below_step (by repeat (first | (with_reducible first | exact HB.out | apply below_alloc | apply pw_below_drewN | apply below_drew1 | refine below_set ?_ GE205.out) | exact HB.out)) hb)
      clear HO211
      clear BK205
      clear HB
      have HO211 := n0_
      have HO214 := n1_
      have BK205 := n2_
      have HB := n3_
      clear n0_ n1_ n2_ n3_
      (try clear hb)
      (try clear hb2)
      (try clear hk)
      (try clear hi)
      (try clear ho0)
      obtain ⟨Ao15, co15, eo15⟩ := Kd.R_slice HO211.out
      (first | subst eo15 | (injection eo15 with f1_ f2_ f3_; have f4_ := f1_.symm; have f5_ := f3_.symm; clear f1_ f2_ f3_; subst f4_; subst f5_))
      obtain ⟨Ao16, co16, eo16⟩ := Kd.S_slice HO214.out
      (first | subst eo16 | (injection eo16 with f1_ f2_ f3_; have f4_ := f1_.symm; have f5_ := f3_.symm; clear f1_ f2_ f3_; subst f4_; subst f5_))
      refine hK.out _ _ ⟨(blk_cell BK205.out 0).trans rfl, (blk_cell BK205.out 1).trans rfl, (blk_cell BK205.out 2).trans rfl, (blk_cell BK205.out 3).trans rfl, (blk_cell BK205.out 4).trans rfl, (blk_cell BK205.out 5).trans rfl⟩ (fun hHeld => ?_)
      clear hK K
      refine norm_ (a' := ?_) ?_ ?_
      rotate_left
      · show Act.put _ (some 24) _ = _
        simp only [Act.put, List.setIfInBounds_toArray, List.set_cons_zero, List.set_cons_succ, i64_w, i32_w]
        rfl
      refine one_ (i := 10) (N := some 25) #[true, true, true, true, true, true, true, true, true, true, true, false, false, false, false, false] rfl rfl (one_of HT_.out (by kernel_rfl)) (by decide) (fun K hK => ?_)
      refine goes_ Try.func28 (by kernel_rfl) rfl #[.iface 52 (.agg #[.int .i64 a0_0, .int .i64 a0_1, .int .i64 a0_2, .int .u64 a0_3, .int .u64 a0_4, .int .u64 a0_5]), .int .u64 a1, .int .u64 a2, .slice Ao15 y209.length co15, .slice Ao16 t212.length co16] (by rfl) rfl rfl (by (try simp only [List.map_toArray, List.map_cons, List.map_nil]); first | done | rfl | (simp only [List.length_drop, List.length_take]; rfl)) ?_
      with_reducible refine (proof_RootFromInclusionProof.calls k a0_0 a0_1 a0_2 a0_3 a0_4 a0_5 a1 a2 (fun k_ => some k_ = (.slice Ao15 y209.length co15 : Value).ownBlock) _ _ y209 _ _ t212 t215 none _ ?side1 ?side2 ?side3 A8.out).mono ?_
      (case side1 => first | exact Kd.R_V (Kd.R_tight rfl (Kd.R_types (Kd.R_apart' (HO211.out) (Kd.S_typed HO214.out) (by decide)) BK205.out (by decide))) | exact Kd.V_mono Kd.R_V (Kd.R_tight rfl (Kd.R_types (Kd.R_apart' (HO211.out) (Kd.S_typed HO214.out) (by decide)) BK205.out (by decide))) (fun k_ h_ => by simp only [and_assoc] at h_ ⊢; exact h_))
      (case side2 => repeat (first | exact (Kd.S_reads' HO214.out).2.2 | (with_reducible refine Kd.C_alloc ?_ _) | (with_reducible refine Kd.C_drewN ?_ _) | (with_reducible refine Kd.C_drew ?_)))
      (case side3 => exact (Kd.S_reads' HO214.out).2.1)
      rintro e w17 ⟨Tt218, Xt218, v216, rfl, ho0, hb⟩
      refine ⟨_, rfl, ?_⟩
      have n0_ := Aside0.mk (Kd.R_below (by (with_reducible repeat (first | apply Kd.R_alloc | apply Kd.R_drewN | apply Kd.R_drew)); exact HO211.out) hb)
      have n1_ := Aside0.mk (Kd.S_below (by (with_reducible repeat (first | apply Kd.S_alloc | apply Kd.S_drewN | apply Kd.S_drew)); exact HO214.out) hb)
      have n2_ := Aside0.mk (Kd.V_lower (Kd.V_mono (ok' := fun k_ => (w.heap.size ≤ k_) ∧ some k_ ≠ (.slice Ao16 t212.length co16 : Value).ownBlock ∧ k_ ≠ gb205) ho0 (fun k_ hk_ => ⟨Or.elim hk_ (fun hs_ => ((Kd.R_types (Kd.R_apart' (HO211.out) (Kd.S_typed HO214.out) (by decide)) BK205.out (by decide)).1 k_ hs_.symm).1.1) (fun hn_ => (Nat.le_trans (below_size (by repeat (first | (with_reducible first | exact HB.out | apply below_alloc | apply pw_below_drewN | apply below_drew1 | refine below_set ?_ GE205.out) | exact HB.out))) hn_)), Or.elim hk_ (fun hs_ => ((Kd.R_types (Kd.R_apart' (HO211.out) (Kd.S_typed HO214.out) (by decide)) BK205.out (by decide)).1 k_ hs_.symm).1.2) (fun hn_ => (Kd.fresh' (Kd.S_lt (by (with_reducible repeat (first | apply Kd.S_alloc | apply Kd.S_drewN | apply Kd.S_drew)); exact HO214.out)) k_ hn_)), Or.elim hk_ (fun hs_ => ((Kd.R_types (Kd.R_apart' (HO211.out) (Kd.S_typed HO214.out) (by decide)) BK205.out (by decide)).1 k_ hs_.symm).2) (fun hn_ => (Kd.freshB (g := gb205) (o := .cells #[.int .i64 a0_0, .int .i64 a0_1, .int .i64 a0_2, .int .u64 a0_3, .int .u64 a0_4, .int .u64 a0_5] 29 (0, 0)) (by (with_reducible repeat (first | refine blk_drewN ?_ _ | refine blk_drew ?_ | refine blk_alloc ?_ _)); exact BK205.out) k_ hn_))⟩)) (below_size (by repeat (first | (with_reducible first | exact HB.out | apply below_alloc | apply pw_below_drewN | apply below_drew1 | refine below_set ?_ GE205.out) | exact HB.out))))
      have n3_ := Aside0.mk (blk_below (g := gb205) (o := .cells #[.int .i64 a0_0, .int .i64 a0_1, .int .i64 a0_2, .int .u64 a0_3, .int .u64 a0_4, .int .u64 a0_5] 29 (0, 0)) (by (with_reducible repeat (first | refine blk_drewN ?_ _ | refine blk_drew ?_ | refine blk_alloc ?_ _)); exact BK205.out) hb)
      have n4_ := Aside0.mk (below_step (by repeat (first | (with_reducible first | exact HB.out | apply below_alloc | apply pw_below_drewN | apply below_drew1 | refine below_set ?_ GE205.out) | exact HB.out)) hb)
      clear HO211
      clear HO214
      clear BK205
      clear HB
      have HO211 := n0_
      have HO214 := n1_
      have HO217 := n2_
      have BK205 := n3_
      have HB := n4_
      clear n0_ n1_ n2_ n3_ n4_
      (try clear hb)
      (try clear hb2)
      (try clear hk)
      (try clear hi)
      (try clear ho0)
      (try simp only [errW_none, errW_some])
      refine hK.out _ _ ⟨(blk_cell BK205.out 0).trans rfl, (blk_cell BK205.out 1).trans rfl, (blk_cell BK205.out 2).trans rfl, (blk_cell BK205.out 3).trans rfl, (blk_cell BK205.out 4).trans rfl, (blk_cell BK205.out 5).trans rfl⟩ (fun hHeld => ?_)
      clear hK K
      refine norm_ (a' := ?_) ?_ ?_
      rotate_left
      · show Act.put _ (some 25) _ = _
        simp only [Act.put, List.setIfInBounds_toArray, List.set_cons_zero, List.set_cons_succ, i64_w, i32_w]
        rfl
      refine pure_ (i := 11) (N := some 14) (v := ?_) (a' := ?_) #[true, true, true, true, true, true, true, true, true, true, true, true, false, false, false, false] rfl rfl (any_of HT_.out (by kernel_rfl)) (fun _ _ _ h => h) (Or.inl ⟨by rfl, ?_⟩) ?_ ?_
      rotate_left
      · intro w'
        go_simp
        with_reducible rfl
      rotate_left
      · simp only [Act.put, List.setIfInBounds_toArray, List.set_cons_zero, List.set_cons_succ, i64_w, i32_w]
        rfl
      refine pure_ (i := 12) (N := some 26) (v := ?_) (a' := ?_) #[true, true, true, true, true, true, true, true, true, true, true, true, true, false, false, false] rfl rfl (any_of HT_.out (by kernel_rfl)) (fun _ _ _ h => h) (Or.inl ⟨by rfl, ?_⟩) ?_ ?_
      rotate_left
      · intro w'
        go_simp
        with_reducible rfl
      rotate_left
      · simp only [Act.put, List.setIfInBounds_toArray, List.set_cons_zero, List.set_cons_succ, i64_w, i32_w]
        rfl
      refine pure_ (i := 13) (N := some 27) (v := ?_) (a' := ?_) #[true, true, true, true, true, true, true, true, true, true, true, true, true, true, false, false] rfl rfl (any_of HT_.out (by kernel_rfl)) (fun _ _ _ h => h) (Or.inl ⟨by rfl, ?_⟩) ?_ ?_
      rotate_left
      · intro w'
        go_simp
        with_reducible rfl
      rotate_left
      · simp only [Act.put, List.setIfInBounds_toArray, List.set_cons_zero, List.set_cons_succ, i64_w, i32_w]
        rfl
      refine pure_ (i := 14) (N := some 12) (v := ?_) (a' := ?_) #[true, true, true, true, true, true, true, true, true, true, true, true, true, true, true, false] rfl rfl (any_of HT_.out (by kernel_rfl)) (fun _ _ _ h => h) (Or.inl ⟨by rfl, ?_⟩) ?_ ?_
      rotate_left
      · intro w'
        go_simp
        with_reducible rfl
      rotate_left
      · simp only [Act.put, List.setIfInBounds_toArray, List.set_cons_zero, List.set_cons_succ, i64_w, i32_w]
        rfl
      refine pure_ (i := 15) (N := some 13) (v := ?_) (a' := ?_) #[true, true, true, true, true, true, true, true, true, true, true, true, true, true, true, true] rfl rfl (any_of HT_.out (by kernel_rfl)) (fun _ _ _ h => h) (Or.inl ⟨by rfl, ?_⟩) ?_ ?_
      rotate_left
      · intro w'
        go_simp
        with_reducible rfl
      rotate_left
      · simp only [Act.put, List.setIfInBounds_toArray, List.set_cons_zero, List.set_cons_succ, i64_w, i32_w]
        rfl
      refine done_ (done_of HT_.out (by kernel_rfl)) ?_
      try go_wp2
      have n0_ := Aside0.mk (Kd.R_drew HO211.out)
      have n1_ := Aside0.mk (Kd.S_drew HO214.out)
      have n2_ := Aside0.mk (Kd.V_drew HO217.out)
      have n3_ := Aside0.mk (blk_drew BK205.out)
      have n4_ := Aside0.mk (below_drew1 HB.out)
      clear HO211
      clear HO214
      clear HO217
      clear BK205
      clear HB
      have HO211 := n0_
      have HO214 := n1_
      have HO217 := n2_
      have BK205 := n3_
      have HB := n4_
      clear n0_ n1_ n2_ n3_ n4_
      refine start_ (n := 5) (S := fun w' => True) (ds := []) #[false, false, false, false, false] (by kernel_rfl) rfl rfl trivial (fun hHeld => ?_)
      generalize w17.drew = w18 at HO211 HO214 HO217 BK205 HB hHeld ⊢
      refine pure_ (i := 0) (N := some 28) (v := ?_) (a' := ?_) #[true, false, false, false, false] rfl rfl (by kernel_rfl) (fun _ _ _ h => h) (Or.inl ⟨by rfl, ?_⟩) ?_ ?_
      rotate_left
      · intro w'
        go_simp
        with_reducible rfl
      rotate_left
      · simp only [Act.put, List.setIfInBounds_toArray, List.set_cons_zero, List.set_cons_succ, i64_w, i32_w]
        rfl
      refine pure_ (i := 1) (N := some 29) (v := ?_) (a' := ?_) #[true, true, false, false, false] rfl rfl (by kernel_rfl) (fun _ _ _ h => h) (Or.inl ⟨by rfl, ?_⟩) ?_ ?_
      rotate_left
      · intro w'
        go_simp
        with_reducible rfl
      rotate_left
      · simp only [Act.put, List.setIfInBounds_toArray, List.set_cons_zero, List.set_cons_succ, i64_w, i32_w]
        rfl
      refine pure_ (i := 2) (N := some 30) (v := ?_) (a' := ?_) #[true, true, true, false, false] rfl rfl (by kernel_rfl) (fun _ _ _ h => h) (Or.inl ⟨by rfl, ?_⟩) ?_ ?_
      rotate_left
      · intro w'
        go_simp
        with_reducible rfl
      rotate_left
      · simp only [Act.put, List.setIfInBounds_toArray, List.set_cons_zero, List.set_cons_succ, i64_w, i32_w]
        rfl
      refine pure_ (i := 3) (N := some 10) (v := ?_) (a' := ?_) #[true, true, true, true, false] rfl rfl (by kernel_rfl) (fun _ _ _ h => h) (Or.inl ⟨by rfl, ?_⟩) ?_ ?_
      rotate_left
      · intro w'
        go_simp
        with_reducible rfl
      rotate_left
      · simp only [Act.put, List.setIfInBounds_toArray, List.set_cons_zero, List.set_cons_succ, i64_w, i32_w]
        rfl
      refine pure_ (i := 4) (N := some 11) (v := ?_) (a' := ?_) #[true, true, true, true, true] rfl rfl (by kernel_rfl) (fun _ _ _ h => h) (Or.inl ⟨by rfl, ?_⟩) ?_ ?_
      rotate_left
      · intro w'
        go_simp
        with_reducible rfl
      rotate_left
      · simp only [Act.put, List.setIfInBounds_toArray, List.set_cons_zero, List.set_cons_succ, i64_w, i32_w]
        rfl
      refine done_ (by kernel_rfl) ?_
      try go_wp2
      go_ret2
      exact ⟨_, by first | rfl | (simp [errW_none, errW_some] <;> rfl) | (simp [*, errW_none, errW_some] <;> rfl), by (with_reducible repeat (first | apply Kd.V_alloc | apply Kd.V_drewN | apply Kd.V_drew)); exact Kd.V_mono HO217.out (fun _ hk => hk.1), by repeat (first | (with_reducible first | exact HB.out | apply below_alloc | apply pw_below_drewN | apply below_drew1 | refine below_set ?_ GE205.out) | exact HB.out)⟩
    · have H1 : (some (t215, false)) = some (r1, r2) := by rw [if_neg (show ¬ (some q219).isNone = true by simp)] at H; exact H
      clear H
      have H := H1
      clear H1
      try simp only [errW_none, errW_some]
      simp only [Option.some.injEq, Prod.mk.injEq] at H
      obtain ⟨rfl, rfl⟩ := H
      go_enter Try.func14, Try.ntmps14
      try go_wp2_with (first | ((with_reducible refine gate_dst (N := 5) rfl ?_); refine box_event ?hg (N := 5) ?hd (cs := #[.int .i64 a0_0, .int .i64 a0_1, .int .i64 a0_2, .int .u64 a0_3, .int .u64 a0_4, .int .u64 a0_5]) (t := 29) ?hr ?_; (case hd => rfl); (case hg => rfl); (case hr => first | (go_simp; done) | (go_simp; rfl)); intro gb205 hg w19 hbox hb; have n0_ := Aside0.mk (below_step (by repeat (first | (with_reducible first | exact HB.out | apply below_alloc | apply pw_below_drewN | apply below_drew1) | exact HB.out)) hb); have n1_ := Aside0.mk (hbox); have n2_ := Aside0.mk ((by rw [hg]; exact (below_size (by repeat (first | (with_reducible first | exact HB.out | apply below_alloc | apply pw_below_drewN | apply below_drew1) | exact HB.out))) : w.heap.size ≤ gb205)); have n3_ := Aside0.mk ((by rw [hg]; exact (below_size (by repeat (first | (with_reducible first | exact HB.out | apply below_alloc | apply pw_below_drewN | apply below_drew1) | exact HB.out))) : w.heap.size ≤ gb205)); clear HB; have HB := n0_; have BK205 := n1_; have GW205 := n2_; have GE205 := n3_; clear n0_ n1_ n2_ n3_; clear hb hbox hg))
      have n0_ := Aside0.mk (blk_drew BK205.out)
      have n1_ := Aside0.mk (below_drew1 HB.out)
      clear BK205
      clear HB
      have BK205 := n0_
      have HB := n1_
      clear n0_ n1_
      refine start_ (n := 16) (S := fun w' => w'.cell? ⟨gb205, 0, none⟩ = some (.int .i64 a0_0) ∧ w'.cell? ⟨gb205, 1, none⟩ = some (.int .i64 a0_1) ∧ w'.cell? ⟨gb205, 2, none⟩ = some (.int .i64 a0_2) ∧ w'.cell? ⟨gb205, 3, none⟩ = some (.int .u64 a0_3) ∧ w'.cell? ⟨gb205, 4, none⟩ = some (.int .u64 a0_4) ∧ w'.cell? ⟨gb205, 5, none⟩ = some (.int .u64 a0_5)) (ds := []) #[false, false, false, false, false, false, false, false, false, false, false, false, false, false, false, false] (by kernel_rfl) rfl rfl ⟨(blk_cell BK205.out 0).trans rfl, (blk_cell BK205.out 1).trans rfl, (blk_cell BK205.out 2).trans rfl, (blk_cell BK205.out 3).trans rfl, (blk_cell BK205.out 4).trans rfl, (blk_cell BK205.out 5).trans rfl⟩ (fun hHeld => ?_); refine with_tabW impl_RootOfInclusion.tab1 impl_RootOfInclusion.bits1 (fun HT_ HW_ => ?_)
      generalize w19.drew = w20 at BK205 HB hHeld ⊢
      refine pure_ (i := 3) (N := some 18) (v := ?_) (a' := ?_) #[false, false, false, true, false, false, false, false, false, false, false, false, false, false, false, false] rfl rfl (any_of HT_.out (by kernel_rfl)) (fun _ _ _ h => h) (Or.inl ⟨by rfl, ?_⟩) ?_ ?_
      rotate_left
      · intro w'
        go_simp
        with_reducible rfl
      rotate_left
      · simp only [Act.put, List.setIfInBounds_toArray, List.set_cons_zero, List.set_cons_succ, i64_w, i32_w]
        rfl
      refine pure_ (i := 4) (N := some 19) (v := ?_) (a' := ?_) #[false, false, false, true, true, false, false, false, false, false, false, false, false, false, false, false] rfl rfl (any_of HT_.out (by kernel_rfl)) (fun _ _ _ h => h) (Or.inl ⟨by rfl, ?_⟩) ?_ ?_
      rotate_left
      · intro w'
        go_simp
        with_reducible rfl
      rotate_left
      · simp only [Act.put, List.setIfInBounds_toArray, List.set_cons_zero, List.set_cons_succ, i64_w, i32_w]
        rfl
      refine pure_ (i := 6) (N := some 21) (v := ?_) (a' := ?_) #[false, false, false, true, true, false, true, false, false, false, false, false, false, false, false, false] rfl rfl (any_of HT_.out (by kernel_rfl)) (fun _ _ _ h => h) (Or.inl ⟨by rfl, ?_⟩) ?_ ?_
      rotate_left
      · intro w'
        go_simp
        with_reducible rfl
      rotate_left
      · simp only [Act.put, List.setIfInBounds_toArray, List.set_cons_zero, List.set_cons_succ, i64_w, i32_w]
        rfl
      refine pure_ (i := 8) (N := some 23) (v := ?_) (a' := ?_) #[false, false, false, true, true, false, true, false, true, false, false, false, false, false, false, false] rfl rfl (any_of HT_.out (by kernel_rfl)) (fun _ _ _ h => h) (Or.inl ⟨by rfl, ?_⟩) ?_ ?_
      rotate_left
      · intro w'
        go_simp
        with_reducible rfl
      rotate_left
      · simp only [Act.put, List.setIfInBounds_toArray, List.set_cons_zero, List.set_cons_succ, i64_w, i32_w]
        rfl
      refine take_ (i := 0) (N := some 15) (v := ?_) (a' := ?_) #[true, false, false, true, true, false, true, false, true, false, false, false, false, false, false, false] rfl rfl (take_ofW HT_.out HW_.out (by kernel_rfl)) (fun _ _ _ h => h) (Or.inl ⟨by rfl, ?_⟩) hHeld ?_ ?_
      rotate_left
      · rintro w' ⟨s0, s1, s2, s3, s4, s5⟩
        go_simp
        with_reducible rfl
      rotate_left
      · simp only [Act.put, List.setIfInBounds_toArray, List.set_cons_zero, List.set_cons_succ, i64_w, i32_w]
        rfl
      refine pure_ (i := 1) (N := some 16) (v := ?_) (a' := ?_) #[true, true, false, true, true, false, true, false, true, false, false, false, false, false, false, false] rfl rfl (any_of HT_.out (by kernel_rfl)) (fun _ _ _ h => h) (Or.inl ⟨by rfl, ?_⟩) ?_ ?_
      rotate_left
      · intro w'
        go_simp
        with_reducible rfl
      rotate_left
      · simp only [Act.put, List.setIfInBounds_toArray, List.set_cons_zero, List.set_cons_succ, i64_w, i32_w]
        rfl
      refine pure_ (i := 2) (N := some 17) (v := ?_) (a' := ?_) #[true, true, true, true, true, false, true, false, true, false, false, false, false, false, false, false] rfl rfl (any_of HT_.out (by kernel_rfl)) (fun _ _ _ h => h) (Or.inl ⟨by rfl, ?_⟩) ?_ ?_
      rotate_left
      · intro w'
        go_simp
        with_reducible rfl
      rotate_left
      · simp only [Act.put, List.setIfInBounds_toArray, List.set_cons_zero, List.set_cons_succ, i64_w, i32_w]
        rfl
      refine one_ (i := 5) (N := some 20) #[true, true, true, true, true, true, true, false, true, false, false, false, false, false, false, false] rfl rfl (one_of HT_.out (by kernel_rfl)) (by decide) (fun K hK => ?_)
      refine Kd.R_lit_step (Kd.int .u8) _ 5 ?hg (N := 20) ?hd (xs := ([] : List Int)) (inner := []) (ok := fun _ => True) (okp := fun _ => True) ?hr ?hp (fun _ hk => hk) trivial (Below.refl _ _) (Nat.le_refl _) (by simp) ?_; (case hd => rfl); (case hg => rfl); (case hr => first | (go_simp; done) | (go_simp; rfl)); (case hp => exact (Reps.none _ _))
      intro v207 w21 ho22 hb hg_ hnew_
      clear hg_ hnew_
      (first | rw [← Ny206.out] at ho22 | (simp only [Int.reduceToNat] at ho22; rw [← Ny206.out] at ho22))
      have n0_ := Aside0.mk (Kd.R_lower (Kd.R_newM (M := fun k_ => (w.heap.size ≤ k_)) ho22 (below_size (by repeat (first | (with_reducible first | exact HB.out | apply below_alloc | apply pw_below_drewN | apply below_drew1 | refine below_set ?_ GE205.out) | exact HB.out))) (fun k_ h_ => h_)) (below_size (by repeat (first | (with_reducible first | exact HB.out | apply below_alloc | apply pw_below_drewN | apply below_drew1 | refine below_set ?_ GE205.out) | exact HB.out))))
      have n1_ := Aside0.mk (blk_below (g := gb205) (o := .cells #[.int .i64 a0_0, .int .i64 a0_1, .int .i64 a0_2, .int .u64 a0_3, .int .u64 a0_4, .int .u64 a0_5] 29 (0, 0)) (by (with_reducible repeat (first | refine blk_drewN ?_ _ | refine blk_drew ?_ | refine blk_alloc ?_ _)); exact BK205.out) hb)
      have n2_ := Aside0.mk (below_step (by repeat (first | (with_reducible first | exact HB.out | apply below_alloc | apply pw_below_drewN | apply below_drew1 | refine below_set ?_ GE205.out) | exact HB.out)) hb)
      clear BK205
      clear HB
      have HO208 := n0_
      have BK205 := n1_
      have HB := n2_
      clear n0_ n1_ n2_
      clear hb ho22
      refine hK.out _ _ ⟨(blk_cell BK205.out 0).trans rfl, (blk_cell BK205.out 1).trans rfl, (blk_cell BK205.out 2).trans rfl, (blk_cell BK205.out 3).trans rfl, (blk_cell BK205.out 4).trans rfl, (blk_cell BK205.out 5).trans rfl⟩ (fun hHeld => ?_)
      clear hK K
      refine norm_ (a' := ?_) ?_ ?_
      rotate_left
      · show Act.put _ (some 20) _ = _
        simp only [Act.put, List.setIfInBounds_toArray, List.set_cons_zero, List.set_cons_succ, i64_w, i32_w]
        rfl
      refine one_ (i := 7) (N := some 22) #[true, true, true, true, true, true, true, true, true, false, false, false, false, false, false, false] rfl rfl (one_of HT_.out (by kernel_rfl)) (by decide) (fun K hK => ?_)
      refine Kd.R_append_rows_step (Kd.int .u8) (w0 := w) w.heap.size (by rfl) (.tmp 20) (.tmp 21) 30 5 (.int .u8 0) 1 rfl Try.underlying30 info5 rfl (by decide) (by omega) v207 y206 l3 _ _ _ (fun k_ => (w.heap.size ≤ k_)) (fun _ => False) rfl rfl ?aO ?aR (fun _ _ h => h) (fun _ h => h.elim) ?aF ?aB ?aS ?aL ?_
      (case aR => repeat (first | exact (Kd.C_below HR3.out HB.out) | (with_reducible refine Kd.C_alloc ?_ _) | (with_reducible refine Kd.C_drewN ?_ _) | (with_reducible refine Kd.C_drew ?_)))
      (case aB => exact (by repeat (first | (with_reducible first | exact HB.out | apply below_alloc | apply pw_below_drewN | apply below_drew1 | refine below_set ?_ GE205.out) | exact HB.out)))
      (case aF => exact (fun k_ hk => (Nat.le_trans (below_size (by repeat (first | (with_reducible first | exact HB.out | apply below_alloc | apply pw_below_drewN | apply below_drew1 | refine below_set ?_ GE205.out) | exact HB.out))) hk)))
      (case aO => exact (by (with_reducible repeat (first | apply Kd.R_alloc | apply Kd.R_drewN | apply Kd.R_drew)); exact Kd.R_mono HO208.out (fun _ hk => hk.1)))
      (case aS => exact (below_size (by repeat (first | (with_reducible first | exact HB.out | apply below_alloc | apply pw_below_drewN | apply below_drew1 | refine below_set ?_ GE205.out) | exact HB.out))))
      (case aL => have := LMc6.out; omega)
      intro v210 w23 ho hb hg hat
      rw [← Ny209.out] at ho
      have n0_ := Aside0.mk (blk_grown (g := gb205) (o := .cells #[.int .i64 a0_0, .int .i64 a0_1, .int .i64 a0_2, .int .u64 a0_3, .int .u64 a0_4, .int .u64 a0_5] 29 (0, 0)) (by (with_reducible repeat (first | refine blk_drewN ?_ _ | refine blk_drew ?_ | refine blk_alloc ?_ _)); exact BK205.out) hg (Kd.R_ne HO208.out BK205.out (by decide)))
      have n1_ := Aside0.mk (hb)
      have n2_ := Aside0.mk (ho)
      clear BK205
      clear HB
      clear HO208
      have BK205 := n0_
      have HB := n1_
      have HO211 := n2_
      clear n0_ n1_ n2_
      clear ho hb hg hat
      refine hK.out _ _ ⟨(blk_cell BK205.out 0).trans rfl, (blk_cell BK205.out 1).trans rfl, (blk_cell BK205.out 2).trans rfl, (blk_cell BK205.out 3).trans rfl, (blk_cell BK205.out 4).trans rfl, (blk_cell BK205.out 5).trans rfl⟩ (fun hHeld => ?_)
      clear hK K
      refine norm_ (a' := ?_) ?_ ?_
      rotate_left
      · show Act.put _ (some 22) _ = _
        simp only [Act.put, List.setIfInBounds_toArray, List.set_cons_zero, List.set_cons_succ, i64_w, i32_w]
        rfl
      refine one_ (i := 9) (N := some 24) #[true, true, true, true, true, true, true, true, true, true, false, false, false, false, false, false] rfl rfl (one_of HT_.out (by kernel_rfl)) (by decide) (fun K hK => ?_)
      refine goes_ Try.func23 (by kernel_rfl) rfl #[.slice A4 l4.length c4] (by rfl) rfl rfl (by (try simp only [List.map_toArray, List.map_cons, List.map_nil]); first | done | rfl | (simp only [List.length_drop, List.length_take]; rfl)) ?_
      with_reducible refine (impl_texts.calls k _ _ l4 t212 _ ?side1 ?side2 A7.out).mono ?_
      (case side1 => repeat (first | exact (Kd.C_below HR4.out HB.out) | (with_reducible refine Kd.C_alloc ?_ _) | (with_reducible refine Kd.C_drewN ?_ _) | (with_reducible refine Kd.C_drew ?_)))
      (case side2 => exact HC4.out)
      rintro e w24 ⟨v213, rfl, ho0, hb⟩
      refine ⟨_, rfl, ?_⟩
      have n0_ := Aside0.mk (Kd.R_below (by (with_reducible repeat (first | apply Kd.R_alloc | apply Kd.R_drewN | apply Kd.R_drew)); exact HO211.out) hb)
      have n1_ := Aside0.mk (Kd.S_lower (Kd.S_new' (Kd.S_newM (M := fun k_ => (w.heap.size ≤ k_)) ho0 (below_size (by repeat (first | (with_reducible first | exact HB.out | apply below_alloc | apply pw_below_drewN | apply below_drew1 | refine below_set ?_ GE205.out) | exact HB.out))) (fun k_ h_ => h_)) (Kd.R_lt (by (with_reducible repeat (first | apply Kd.R_alloc | apply Kd.R_drewN | apply Kd.R_drew)); exact HO211.out))) (below_size (by repeat (first | (with_reducible first | exact HB.out | apply below_alloc | apply pw_below_drewN | apply below_drew1 | refine below_set ?_ GE205.out) | exact HB.out))))
      have n2_ := Aside0.mk (blk_below (g := gb205) (o := .cells #[.int .i64 a0_0, .int .i64 a0_1, .int .i64 a0_2, .int .u64 a0_3, .int .u64 a0_4, .int .u64 a0_5] 29 (0, 0)) (by (with_reducible repeat (first | refine blk_drewN ?_ _ | refine blk_drew ?_ | refine blk_alloc ?_ _)); exact BK205.out) hb)
      have n3_ := Aside0.mk (below_step (by repeat (first | (with_reducible first | exact HB.out | apply below_alloc | apply pw_below_drewN | apply below_drew1 | refine below_set ?_ GE205.out) | exact HB.out)) hb)
      clear HO211
      clear BK205
      clear HB
      have HO211 := n0_
      have HO214 := n1_
      have BK205 := n2_
      have HB := n3_
      clear n0_ n1_ n2_ n3_
      (try clear hb)
      (try clear hb2)
      (try clear hk)
      (try clear hi)
      (try clear ho0)
      obtain ⟨Ao25, co25, eo25⟩ := Kd.R_slice HO211.out
      (first | subst eo25 | (injection eo25 with f1_ f2_ f3_; have f4_ := f1_.symm; have f5_ := f3_.symm; clear f1_ f2_ f3_; subst f4_; subst f5_))
      obtain ⟨Ao26, co26, eo26⟩ := Kd.S_slice HO214.out
      (first | subst eo26 | (injection eo26 with f1_ f2_ f3_; have f4_ := f1_.symm; have f5_ := f3_.symm; clear f1_ f2_ f3_; subst f4_; subst f5_))
      refine hK.out _ _ ⟨(blk_cell BK205.out 0).trans rfl, (blk_cell BK205.out 1).trans rfl, (blk_cell BK205.out 2).trans rfl, (blk_cell BK205.out 3).trans rfl, (blk_cell BK205.out 4).trans rfl, (blk_cell BK205.out 5).trans rfl⟩ (fun hHeld => ?_)
      clear hK K
      refine norm_ (a' := ?_) ?_ ?_
      rotate_left
      · show Act.put _ (some 24) _ = _
        simp only [Act.put, List.setIfInBounds_toArray, List.set_cons_zero, List.set_cons_succ, i64_w, i32_w]
        rfl
      refine one_ (i := 10) (N := some 25) #[true, true, true, true, true, true, true, true, true, true, true, false, false, false, false, false] rfl rfl (one_of HT_.out (by kernel_rfl)) (by decide) (fun K hK => ?_)
      refine goes_ Try.func28 (by kernel_rfl) rfl #[.iface 52 (.agg #[.int .i64 a0_0, .int .i64 a0_1, .int .i64 a0_2, .int .u64 a0_3, .int .u64 a0_4, .int .u64 a0_5]), .int .u64 a1, .int .u64 a2, .slice Ao25 y209.length co25, .slice Ao26 t212.length co26] (by rfl) rfl rfl (by (try simp only [List.map_toArray, List.map_cons, List.map_nil]); first | done | rfl | (simp only [List.length_drop, List.length_take]; rfl)) ?_
      with_reducible refine (proof_RootFromInclusionProof.calls k a0_0 a0_1 a0_2 a0_3 a0_4 a0_5 a1 a2 (fun k_ => some k_ = (.slice Ao25 y209.length co25 : Value).ownBlock) _ _ y209 _ _ t212 t215 (some q219) _ ?side1 ?side2 ?side3 A8.out).mono ?_
      (case side1 => first | exact Kd.R_V (Kd.R_tight rfl (Kd.R_types (Kd.R_apart' (HO211.out) (Kd.S_typed HO214.out) (by decide)) BK205.out (by decide))) | exact Kd.V_mono Kd.R_V (Kd.R_tight rfl (Kd.R_types (Kd.R_apart' (HO211.out) (Kd.S_typed HO214.out) (by decide)) BK205.out (by decide))) (fun k_ h_ => by simp only [and_assoc] at h_ ⊢; exact h_))
      (case side2 => repeat (first | exact (Kd.S_reads' HO214.out).2.2 | (with_reducible refine Kd.C_alloc ?_ _) | (with_reducible refine Kd.C_drewN ?_ _) | (with_reducible refine Kd.C_drew ?_)))
      (case side3 => exact (Kd.S_reads' HO214.out).2.1)
      rintro e w27 ⟨Tt218, Xt218, v216, rfl, ho0, hb⟩
      refine ⟨_, rfl, ?_⟩
      have n0_ := Aside0.mk (Kd.R_below (by (with_reducible repeat (first | apply Kd.R_alloc | apply Kd.R_drewN | apply Kd.R_drew)); exact HO211.out) hb)
      have n1_ := Aside0.mk (Kd.S_below (by (with_reducible repeat (first | apply Kd.S_alloc | apply Kd.S_drewN | apply Kd.S_drew)); exact HO214.out) hb)
      have n2_ := Aside0.mk (Kd.V_lower (Kd.V_mono (ok' := fun k_ => (w.heap.size ≤ k_) ∧ some k_ ≠ (.slice Ao26 t212.length co26 : Value).ownBlock ∧ k_ ≠ gb205) ho0 (fun k_ hk_ => ⟨Or.elim hk_ (fun hs_ => ((Kd.R_types (Kd.R_apart' (HO211.out) (Kd.S_typed HO214.out) (by decide)) BK205.out (by decide)).1 k_ hs_.symm).1.1) (fun hn_ => (Nat.le_trans (below_size (by repeat (first | (with_reducible first | exact HB.out | apply below_alloc | apply pw_below_drewN | apply below_drew1 | refine below_set ?_ GE205.out) | exact HB.out))) hn_)), Or.elim hk_ (fun hs_ => ((Kd.R_types (Kd.R_apart' (HO211.out) (Kd.S_typed HO214.out) (by decide)) BK205.out (by decide)).1 k_ hs_.symm).1.2) (fun hn_ => (Kd.fresh' (Kd.S_lt (by (with_reducible repeat (first | apply Kd.S_alloc | apply Kd.S_drewN | apply Kd.S_drew)); exact HO214.out)) k_ hn_)), Or.elim hk_ (fun hs_ => ((Kd.R_types (Kd.R_apart' (HO211.out) (Kd.S_typed HO214.out) (by decide)) BK205.out (by decide)).1 k_ hs_.symm).2) (fun hn_ => (Kd.freshB (g := gb205) (o := .cells #[.int .i64 a0_0, .int .i64 a0_1, .int .i64 a0_2, .int .u64 a0_3, .int .u64 a0_4, .int .u64 a0_5] 29 (0, 0)) (by (with_reducible repeat (first | refine blk_drewN ?_ _ | refine blk_drew ?_ | refine blk_alloc ?_ _)); exact BK205.out) k_ hn_))⟩)) (below_size (by repeat (first | (with_reducible first | exact HB.out | apply below_alloc | apply pw_below_drewN | apply below_drew1 | refine below_set ?_ GE205.out) | exact HB.out))))
      have n3_ := Aside0.mk (blk_below (g := gb205) (o := .cells #[.int .i64 a0_0, .int .i64 a0_1, .int .i64 a0_2, .int .u64 a0_3, .int .u64 a0_4, .int .u64 a0_5] 29 (0, 0)) (by (with_reducible repeat (first | refine blk_drewN ?_ _ | refine blk_drew ?_ | refine blk_alloc ?_ _)); exact BK205.out) hb)
      have n4_ := Aside0.mk (below_step (by repeat (first | (with_reducible first | exact HB.out | apply below_alloc | apply pw_below_drewN | apply below_drew1 | refine below_set ?_ GE205.out) | exact HB.out)) hb)
      clear HO211
      clear HO214
      clear BK205
      clear HB
      have HO211 := n0_
      have HO214 := n1_
      have HO217 := n2_
      have BK205 := n3_
      have HB := n4_
      clear n0_ n1_ n2_ n3_ n4_
      (try clear hb)
      (try clear hb2)
      (try clear hk)
      (try clear hi)
      (try clear ho0)
      (try simp only [errW_none, errW_some])
      refine hK.out _ _ ⟨(blk_cell BK205.out 0).trans rfl, (blk_cell BK205.out 1).trans rfl, (blk_cell BK205.out 2).trans rfl, (blk_cell BK205.out 3).trans rfl, (blk_cell BK205.out 4).trans rfl, (blk_cell BK205.out 5).trans rfl⟩ (fun hHeld => ?_)
      clear hK K
      refine norm_ (a' := ?_) ?_ ?_
      rotate_left
      · show Act.put _ (some 25) _ = _
        simp only [Act.put, List.setIfInBounds_toArray, List.set_cons_zero, List.set_cons_succ, i64_w, i32_w]
        rfl
      refine pure_ (i := 11) (N := some 14) (v := ?_) (a' := ?_) #[true, true, true, true, true, true, true, true, true, true, true, true, false, false, false, false] rfl rfl (any_of HT_.out (by kernel_rfl)) (fun _ _ _ h => h) (Or.inl ⟨by rfl, ?_⟩) ?_ ?_
      rotate_left
      · intro w'
        go_simp
        with_reducible rfl
      rotate_left
      · simp only [Act.put, List.setIfInBounds_toArray, List.set_cons_zero, List.set_cons_succ, i64_w, i32_w]
        rfl
      refine pure_ (i := 12) (N := some 26) (v := ?_) (a' := ?_) #[true, true, true, true, true, true, true, true, true, true, true, true, true, false, false, false] rfl rfl (any_of HT_.out (by kernel_rfl)) (fun _ _ _ h => h) (Or.inl ⟨by rfl, ?_⟩) ?_ ?_
      rotate_left
      · intro w'
        go_simp
        with_reducible rfl
      rotate_left
      · simp only [Act.put, List.setIfInBounds_toArray, List.set_cons_zero, List.set_cons_succ, i64_w, i32_w]
        rfl
      refine pure_ (i := 13) (N := some 27) (v := ?_) (a' := ?_) #[true, true, true, true, true, true, true, true, true, true, true, true, true, true, false, false] rfl rfl (any_of HT_.out (by kernel_rfl)) (fun _ _ _ h => h) (Or.inl ⟨by rfl, ?_⟩) ?_ ?_
      rotate_left
      · intro w'
        go_simp
        with_reducible rfl
      rotate_left
      · simp only [Act.put, List.setIfInBounds_toArray, List.set_cons_zero, List.set_cons_succ, i64_w, i32_w]
        rfl
      refine pure_ (i := 14) (N := some 12) (v := ?_) (a' := ?_) #[true, true, true, true, true, true, true, true, true, true, true, true, true, true, true, false] rfl rfl (any_of HT_.out (by kernel_rfl)) (fun _ _ _ h => h) (Or.inl ⟨by rfl, ?_⟩) ?_ ?_
      rotate_left
      · intro w'
        go_simp
        with_reducible rfl
      rotate_left
      · simp only [Act.put, List.setIfInBounds_toArray, List.set_cons_zero, List.set_cons_succ, i64_w, i32_w]
        rfl
      refine pure_ (i := 15) (N := some 13) (v := ?_) (a' := ?_) #[true, true, true, true, true, true, true, true, true, true, true, true, true, true, true, true] rfl rfl (any_of HT_.out (by kernel_rfl)) (fun _ _ _ h => h) (Or.inl ⟨by rfl, ?_⟩) ?_ ?_
      rotate_left
      · intro w'
        go_simp
        with_reducible rfl
      rotate_left
      · simp only [Act.put, List.setIfInBounds_toArray, List.set_cons_zero, List.set_cons_succ, i64_w, i32_w]
        rfl
      refine done_ (done_of HT_.out (by kernel_rfl)) ?_
      try go_wp2
      have n0_ := Aside0.mk (Kd.R_drew HO211.out)
      have n1_ := Aside0.mk (Kd.S_drew HO214.out)
      have n2_ := Aside0.mk (Kd.V_drew HO217.out)
      have n3_ := Aside0.mk (blk_drew BK205.out)
      have n4_ := Aside0.mk (below_drew1 HB.out)
      clear HO211
      clear HO214
      clear HO217
      clear BK205
      clear HB
      have HO211 := n0_
      have HO214 := n1_
      have HO217 := n2_
      have BK205 := n3_
      have HB := n4_
      clear n0_ n1_ n2_ n3_ n4_
      refine start_ (n := 5) (S := fun w' => True) (ds := []) #[false, false, false, false, false] (by kernel_rfl) rfl rfl trivial (fun hHeld => ?_)
      generalize w27.drew = w28 at HO211 HO214 HO217 BK205 HB hHeld ⊢
      refine pure_ (i := 0) (N := some 28) (v := ?_) (a' := ?_) #[true, false, false, false, false] rfl rfl (by kernel_rfl) (fun _ _ _ h => h) (Or.inl ⟨by rfl, ?_⟩) ?_ ?_
      rotate_left
      · intro w'
        go_simp
        with_reducible rfl
      rotate_left
      · simp only [Act.put, List.setIfInBounds_toArray, List.set_cons_zero, List.set_cons_succ, i64_w, i32_w]
        rfl
      refine pure_ (i := 1) (N := some 29) (v := ?_) (a' := ?_) #[true, true, false, false, false] rfl rfl (by kernel_rfl) (fun _ _ _ h => h) (Or.inl ⟨by rfl, ?_⟩) ?_ ?_
      rotate_left
      · intro w'
        go_simp
        with_reducible rfl
      rotate_left
      · simp only [Act.put, List.setIfInBounds_toArray, List.set_cons_zero, List.set_cons_succ, i64_w, i32_w]
        rfl
      refine pure_ (i := 2) (N := some 30) (v := ?_) (a' := ?_) #[true, true, true, false, false] rfl rfl (by kernel_rfl) (fun _ _ _ h => h) (Or.inl ⟨by rfl, ?_⟩) ?_ ?_
      rotate_left
      · intro w'
        go_simp
        with_reducible rfl
      rotate_left
      · simp only [Act.put, List.setIfInBounds_toArray, List.set_cons_zero, List.set_cons_succ, i64_w, i32_w]
        rfl
      refine pure_ (i := 3) (N := some 10) (v := ?_) (a' := ?_) #[true, true, true, true, false] rfl rfl (by kernel_rfl) (fun _ _ _ h => h) (Or.inl ⟨by rfl, ?_⟩) ?_ ?_
      rotate_left
      · intro w'
        go_simp
        with_reducible rfl
      rotate_left
      · simp only [Act.put, List.setIfInBounds_toArray, List.set_cons_zero, List.set_cons_succ, i64_w, i32_w]
        rfl
      refine pure_ (i := 4) (N := some 11) (v := ?_) (a' := ?_) #[true, true, true, true, true] rfl rfl (by kernel_rfl) (fun _ _ _ h => h) (Or.inl ⟨by rfl, ?_⟩) ?_ ?_
      rotate_left
      · intro w'
        go_simp
        with_reducible rfl
      rotate_left
      · simp only [Act.put, List.setIfInBounds_toArray, List.set_cons_zero, List.set_cons_succ, i64_w, i32_w]
        rfl
      refine done_ (by kernel_rfl) ?_
      try go_wp2
      go_ret2
      exact ⟨_, by first | rfl | (simp [errW_none, errW_some] <;> rfl) | (simp [*, errW_none, errW_some] <;> rfl), by (with_reducible repeat (first | apply Kd.V_alloc | apply Kd.V_drewN | apply Kd.V_drew)); exact Kd.V_mono HO217.out (fun _ hk => hk.1), by repeat (first | (with_reducible first | exact HB.out | apply below_alloc | apply pw_below_drewN | apply below_drew1 | refine below_set ?_ GE205.out) | exact HB.out)⟩
  · rw [if_neg c6] at H
    exact absurd H (by simp)

end Go.Proofs.Ytkmdkmlgahfcpaa.M

namespace Go.Proofs.Ytkmdkmlgahfcpaa.M
open Go.RowKit Go.Proofs.YtkmdkmlgahfcpaaW.PrintWords Go.Proofs.YtkmdkmlgahfcpaaW.PrintLast Go.Proofs.YtkmdkmlgahfcpaaW.PrintMore
attribute [local go_sem] max2_int min2_int max_two min_two max_three min_three max_four min_four   -- for this text's walks alone
set_option linter.unusedVariables false
set_option linter.unusedSimpArgs false

/-! ### spec_SameText: function 15 -/
def spec_SameText.f (l0 : List Int) (l1 : List Int) : Option (Bool) := some ((strOfNums l0).toList == (strOfNums l1).toList)
set_option maxHeartbeats 8000000 in
set_option maxRecDepth 100000 in
theorem spec_SameText.calls (A0 : Option Addr) (c0 : Nat) (l0 : List Int) (A1 : Option Addr) (c1 : Nat) (l1 : List Int) (r : Bool) (w : World) (hr0 : Kd.C (Kd.int .u8) w A0 l0.length l0) (hc0 : l0.length ≤ c0) (hr1 : Kd.C (Kd.int .u8) w A1 l1.length l1) (hc1 : l1.length ≤ c1) (h : spec_SameText.f l0 l1 = some r) :
    Calls Try.prog 15 #[.slice A0 l0.length c0, .slice A1 l1.length c1] w fun e w' => e = .returned (.bool r) ∧ Drawn0 w w' := by
  have HR0 := Aside0.mk hr0
  have HC0 := Aside0.mk hc0
  clear hr0 hc0
  have HR1 := Aside0.mk hr1
  have HC1 := Aside0.mk hc1
  clear hr1 hc1
  have H : (some ((strOfNums l0).toList == (strOfNums l1).toList)) = some r := h
  clear h
  obtain rfl := Option.some.inj H
  have hcv3 := Kd.C_string (P := Try.prog) (A := A0) (c := c0) Try.underlying30 Try.underlying5 Try.underlying9 HR0.out
  have hcv3b := fun m_ : Nat => Kd.C_string (P := Try.prog) (A := A0) (c := c0) Try.underlying30 Try.underlying5 Try.underlying9 (Kd.C_drewN HR0.out m_)
  have hcv4 := Kd.C_string (P := Try.prog) (A := A1) (c := c1) Try.underlying30 Try.underlying5 Try.underlying9 HR1.out
  have hcv4b := fun m_ : Nat => Kd.C_string (P := Try.prog) (A := A1) (c := c1) Try.underlying30 Try.underlying5 Try.underlying9 (Kd.C_drewN HR1.out m_)
  go_enter Try.func15, Try.ntmps15
  go_wp2
  go_ret
  exact ⟨by first | rfl | (simp; done) | (simp [*]; done), by repeat (first | exact Drawn0.refl _ | apply Drawn0.step)⟩

end Go.Proofs.Ytkmdkmlgahfcpaa.M

namespace Go.Proofs.Ytkmdkmlgahfcpaa.M
open Go.RowKit Go.Proofs.YtkmdkmlgahfcpaaW.PrintWords Go.Proofs.YtkmdkmlgahfcpaaW.PrintLast Go.Proofs.YtkmdkmlgahfcpaaW.PrintMore
attribute [local go_sem] max2_int min2_int max_two min_two max_three min_three max_four min_four   -- for this text's walks alone
set_option linter.unusedVariables false
set_option linter.unusedSimpArgs false

/-! ### proof_DoorBorder: function 29 -/
def proof_DoorBorder.f (k : Nat) (a0_0 : Int) (a0_1 : Int) (a0_2 : Int) (a0_3 : Int) (a0_4 : Int) (a0_5 : Int) (l1 : List Int) (l2 : List (List Int)) : Option (List Int) := (proof_chainBorderRight.f k a0_0 a0_1 a0_2 a0_3 a0_4 a0_5 l1 l2).bind fun t220 => (some t220)
theorem proof_DoorBorder.mono : ∀ a0 a1 a2 a3 a4 a5 a6 a7 k, LeO (proof_DoorBorder.f k a0 a1 a2 a3 a4 a5 a6 a7) (proof_DoorBorder.f (k + 1) a0 a1 a2 a3 a4 a5 a6 a7) := by
  intro a0 a1 a2 a3 a4 a5 a6 a7 k
  unfold proof_DoorBorder.f
  repeat' first
      | (with_reducible exact proof_chainBorderRight.mono _ _ _ _ _ _ _ _ _)
      | (with_reducible exact LeO.refl _)
      | (with_reducible exact LeO.none _)
      | (with_reducible refine LeO.ite ?_ ?_)
      | (with_reducible refine LeO.bind ?_ (fun _ => ?_))
      | exact proof_chainBorderRight.mono _ _ _ _ _ _ _ _ _
      | exact LeO.none _
      | refine LeO.ite ?_ ?_
      | refine LeO.bind ?_ (fun _ => ?_)
set_option maxHeartbeats 8000000 in
set_option maxRecDepth 100000 in
theorem proof_DoorBorder.calls (k : Nat) (a0_0 : Int) (a0_1 : Int) (a0_2 : Int) (a0_3 : Int) (a0_4 : Int) (a0_5 : Int) (P1_ : Nat → Prop) (A1 : Option Addr) (c1 : Nat) (l1 : List Int) (A2 : Option Addr) (c2 : Nat) (l2 : List (List Int)) (r : List Int) (w : World) (hs1 : Kd.V (Kd.int .u8) 5 w w.heap.size (fun k_ => P1_ k_) (.slice A1 l1.length c1) l1) (hr2 : Kd.C (Kd.slice 5 (Kd.int .u8)) w A2 l2.length l2) (hc2 : l2.length ≤ c2) (h : proof_DoorBorder.f k a0_0 a0_1 a0_2 a0_3 a0_4 a0_5 l1 l2 = some r) :
    Calls Try.prog 29 #[.iface 52 (.agg #[.int .i64 a0_0, .int .i64 a0_1, .int .i64 a0_2, .int .u64 a0_3, .int .u64 a0_4, .int .u64 a0_5]), .slice A1 l1.length c1, .slice A2 l2.length c2] w fun e w' => ∃ v0_ : Value, e = .returned (v0_) ∧ Kd.V (Kd.int .u8) 5 w' w.heap.size (fun k_ => (P1_ k_ ∨ w.heap.size ≤ k_)) v0_ r ∧ Below w.heap.size w w' := by
  have HO1 := Aside0.mk (show Kd.V (Kd.int .u8) 5 w w.heap.size (fun k_ => (P1_ k_ ∨ w.heap.size ≤ k_)) (.slice A1 l1.length c1) l1 from Kd.V_mono hs1 (fun k_ hk => .inl hk))
  have HR2 := Aside0.mk hr2
  have HC2 := Aside0.mk hc2
  clear hr2 hc2
  have HB := Aside0.mk (Below.refl w.heap.size w)
  have H : ((proof_chainBorderRight.f k a0_0 a0_1 a0_2 a0_3 a0_4 a0_5 l1 l2).bind fun t220 => (some t220)) = some r := h
  clear h
  replace H := Option.bind_eq_some_iff.mp H
  obtain ⟨t220, A40, H⟩ := H
  replace H : (some t220) = some r := H
  have A4 := Aside0.mk A40
  clear A40
  obtain rfl := Option.some.inj H
  go_enter Try.func29, Try.ntmps29
  go_wp2_with (first | ((with_reducible refine gate_callee (f := 42) rfl ?_); refine goesL_ (some 10) rfl rfl Try.func42 (by kernel_rfl) rfl #[.iface 52 (.agg #[.int .i64 a0_0, .int .i64 a0_1, .int .i64 a0_2, .int .u64 a0_3, .int .u64 a0_4, .int .u64 a0_5]), .slice A1 l1.length c1, .slice A2 l2.length c2] rfl (by (try simp only [List.map_toArray, List.map_cons, List.map_nil]); first | done | rfl | (simp only [List.length_drop, List.length_take]; rfl)) ?_; (with_reducible refine (proof_chainBorderRight.calls k a0_0 a0_1 a0_2 a0_3 a0_4 a0_5 (fun k_ => (P1_ k_ ∨ w.heap.size ≤ k_)) _ _ l1 _ _ l2 t220 _ ?side1 ?side2 ?side3 A4.out).mono ?_); (case side1 => first | exact HO1.out | exact Kd.V_mono HO1.out (fun k_ h_ => by simp only [and_assoc] at h_ ⊢; exact h_)); (case side2 => repeat (first | exact HR2.out | (with_reducible refine Kd.C_alloc ?_ _) | (with_reducible refine Kd.C_drewN ?_ _) | (with_reducible refine Kd.C_drew ?_))); (case side3 => exact HC2.out); rintro e w5 ⟨v221, rfl, ho0, hb⟩; refine ⟨_, rfl, ?_⟩; have n0_ := Aside0.mk (Kd.V_below (by (with_reducible repeat (first | apply Kd.V_alloc | apply Kd.V_drewN | apply Kd.V_drew)); exact HO1.out) hb); have n1_ := Aside0.mk (Kd.V_lower (Kd.V_mono (ok' := fun k_ => (P1_ k_ ∨ w.heap.size ≤ k_)) ho0 (fun k_ hk_ => Or.elim hk_ (fun hs_ => hs_) (fun hn_ => (.inr (Nat.le_trans (below_size (by repeat (first | (with_reducible first | exact HB.out | apply below_alloc | apply pw_below_drewN | apply below_drew1) | exact HB.out))) hn_))))) (below_size (by repeat (first | (with_reducible first | exact HB.out | apply below_alloc | apply pw_below_drewN | apply below_drew1) | exact HB.out)))); have n2_ := Aside0.mk (below_step (by repeat (first | (with_reducible first | exact HB.out | apply below_alloc | apply pw_below_drewN | apply below_drew1) | exact HB.out)) hb); clear HO1; clear HB; have HO1 := n0_; have HO222 := n1_; have HB := n2_; clear n0_ n1_ n2_; (try clear hb); (try clear hb2); (try clear hk); (try clear hi); (try clear ho0)))
  go_ret
  exact ⟨_, by first | rfl | (simp [errW_none, errW_some] <;> rfl) | (simp [*, errW_none, errW_some] <;> rfl), by (with_reducible repeat (first | apply Kd.V_alloc | apply Kd.V_drewN | apply Kd.V_drew)); exact HO222.out, by repeat (first | (with_reducible first | exact HB.out | apply below_alloc | apply pw_below_drewN | apply below_drew1) | exact HB.out)⟩

end Go.Proofs.Ytkmdkmlgahfcpaa.M

namespace Go.Proofs.Ytkmdkmlgahfcpaa.M
open Go.RowKit Go.Proofs.YtkmdkmlgahfcpaaW.PrintWords Go.Proofs.YtkmdkmlgahfcpaaW.PrintLast Go.Proofs.YtkmdkmlgahfcpaaW.PrintMore
attribute [local go_sem] max2_int min2_int max_two min_two max_three min_three max_four min_four   -- for this text's walks alone
set_option linter.unusedVariables false
set_option linter.unusedSimpArgs false

/-! ### impl_ChainBorder: function 16 -/
def impl_ChainBorder.f (k : Nat) (a0_0 : Int) (a0_1 : Int) (a0_2 : Int) (a0_3 : Int) (a0_4 : Int) (a0_5 : Int) (l1 : List Int) (l2 : List (List Int)) : Option (List Int) := (some (([] : List Int) : List Int)).bind fun y224 => (if y224.length + l1.length < 140737488355328 then ((impl_texts.f k l2).bind fun t230 => ((proof_DoorBorder.f k a0_0 a0_1 a0_2 a0_3 a0_4 a0_5 (y224 ++ l1) t230).bind fun t233 => (some t233))) else (none))
theorem impl_ChainBorder.mono : ∀ a0 a1 a2 a3 a4 a5 a6 a7 k, LeO (impl_ChainBorder.f k a0 a1 a2 a3 a4 a5 a6 a7) (impl_ChainBorder.f (k + 1) a0 a1 a2 a3 a4 a5 a6 a7) := by
  intro a0 a1 a2 a3 a4 a5 a6 a7 k
  unfold impl_ChainBorder.f
  repeat' first
      | (with_reducible exact impl_texts.mono _ _)
      | (with_reducible exact proof_DoorBorder.mono _ _ _ _ _ _ _ _ _)
      | (with_reducible exact LeO.refl _)
      | (with_reducible exact LeO.none _)
      | (with_reducible refine LeO.ite ?_ ?_)
      | (with_reducible refine LeO.bind ?_ (fun _ => ?_))
      | exact impl_texts.mono _ _
      | exact proof_DoorBorder.mono _ _ _ _ _ _ _ _ _
      | exact LeO.none _
      | refine LeO.ite ?_ ?_
      | refine LeO.bind ?_ (fun _ => ?_)
def impl_ChainBorder.T1 : Bool × List (List Nat × List Nat) := (true, [([], []), ([0], [0]), ([1], [1]), ([], []), ([], []), ([3, 4], [3, 4]), ([], []), ([6, 5], [6]), ([2, 5, 7, 7], [2, 5, 7]), ([8, 8, 0, 1, 2, 3, 4, 5, 6, 7, 8], [8])])
def impl_ChainBorder.B1 : List Nat := [0, 1, 3, 0, 0, 24, 0, 120, 255, 511]
theorem impl_ChainBorder.tab1 : rtab .any (opsOf Try.f16 1) = impl_ChainBorder.T1 := by kernel_rfl
theorem impl_ChainBorder.bits1 : waitsOk impl_ChainBorder.T1.2 impl_ChainBorder.B1 = true := by kernel_rfl
set_option maxHeartbeats 8000000 in
set_option maxRecDepth 100000 in
theorem impl_ChainBorder.calls (k : Nat) (a0_0 : Int) (a0_1 : Int) (a0_2 : Int) (a0_3 : Int) (a0_4 : Int) (a0_5 : Int) (A1 : Option Addr) (c1 : Nat) (l1 : List Int) (A2 : Option Addr) (c2 : Nat) (l2 : List (List Int)) (r : List Int) (w : World) (hr1 : Kd.C (Kd.int .u8) w A1 l1.length l1) (hc1 : l1.length ≤ c1) (hr2 : Kd.C (Kd.slice 5 (Kd.int .u8)) w A2 l2.length l2) (hc2 : l2.length ≤ c2) (h : impl_ChainBorder.f k a0_0 a0_1 a0_2 a0_3 a0_4 a0_5 l1 l2 = some r) :
    Calls Try.prog 16 #[.agg #[.int .i64 a0_0, .int .i64 a0_1, .int .i64 a0_2, .int .u64 a0_3, .int .u64 a0_4, .int .u64 a0_5], .slice A1 l1.length c1, .slice A2 l2.length c2] w fun e w' => ∃ v0_ : Value, e = .returned (v0_) ∧ Kd.V (Kd.int .u8) 5 w' w.heap.size (fun k_ => (w.heap.size ≤ k_)) v0_ r ∧ Below w.heap.size w w' := by
  have hu29 := Try.underlying29
  have hu52 := Try.underlying52
  have HR1 := Aside0.mk hr1
  have HC1 := Aside0.mk hc1
  clear hr1 hc1
  have HR2 := Aside0.mk hr2
  have HC2 := Aside0.mk hc2
  clear hr2 hc2
  have HB := Aside0.mk (Below.refl w.heap.size w)
  have H : ((some (([] : List Int) : List Int)).bind fun y224 => (if y224.length + l1.length < 140737488355328 then ((impl_texts.f k l2).bind fun t230 => ((proof_DoorBorder.f k a0_0 a0_1 a0_2 a0_3 a0_4 a0_5 (y224 ++ l1) t230).bind fun t233 => (some t233))) else (none))) = some r := h
  clear h
  obtain ⟨y224, hy224⟩ : ∃ y_ : List Int, y_ = (([] : List Int)) := ⟨_, rfl⟩
  replace H : (if y224.length + l1.length < 140737488355328 then ((impl_texts.f k l2).bind fun t230 => ((proof_DoorBorder.f k a0_0 a0_1 a0_2 a0_3 a0_4 a0_5 (y224 ++ l1) t230).bind fun t233 => (some t233))) else (none)) = some r := by first | (rw [hy224]; with_reducible exact H) | (have H2_ := (Option.bind_some _ _).symm.trans H; rw [hy224]; with_reducible exact H2_) | (have H2_ := (Option.bind_some _ _).symm.trans H; with_reducible exact H2_) | with_reducible exact H | (rw [hy224]; exact H) | exact H
  have Ny224 := Aside0.mk hy224
  clear hy224
  by_cases c4 : y224.length + l1.length < 140737488355328
  · rw [if_pos c4] at H
    have LMc4 := Aside0.mk c4
    clear c4
    obtain ⟨y227, hy227⟩ : ∃ y_ : List Int, y_ = (y224 ++ l1) := ⟨_, rfl⟩
    replace H : ((impl_texts.f k l2).bind fun t230 => ((proof_DoorBorder.f k a0_0 a0_1 a0_2 a0_3 a0_4 a0_5 y227 t230).bind fun t233 => (some t233))) = some r := by first | (rw [hy227]; with_reducible exact H) | (have H2_ := (Option.bind_some _ _).symm.trans H; rw [hy227]; with_reducible exact H2_) | (have H2_ := (Option.bind_some _ _).symm.trans H; with_reducible exact H2_) | with_reducible exact H | (rw [hy227]; exact H) | exact H
    have Ny227 := Aside0.mk hy227
    clear hy227
    replace H := Option.bind_eq_some_iff.mp H
    obtain ⟨t230, A50, H⟩ := H
    replace H : ((proof_DoorBorder.f k a0_0 a0_1 a0_2 a0_3 a0_4 a0_5 y227 t230).bind fun t233 => (some t233)) = some r := H
    have A5 := Aside0.mk A50
    clear A50
    replace H := Option.bind_eq_some_iff.mp H
    obtain ⟨t233, A60, H⟩ := H
    replace H : (some t233) = some r := H
    have A6 := Aside0.mk A60
    clear A60
    obtain rfl := Option.some.inj H
    go_enter Try.func16, Try.ntmps16
    try go_wp2_with (first | ((with_reducible refine gate_dst (N := 3) rfl ?_); refine box_event ?hg (N := 3) ?hd (cs := #[.int .i64 a0_0, .int .i64 a0_1, .int .i64 a0_2, .int .u64 a0_3, .int .u64 a0_4, .int .u64 a0_5]) (t := 29) ?hr ?_; (case hd => rfl); (case hg => rfl); (case hr => first | (go_simp; done) | (go_simp; rfl)); intro gb223 hg w7 hbox hb; have n0_ := Aside0.mk (below_step (by repeat (first | (with_reducible first | exact HB.out | apply below_alloc | apply pw_below_drewN | apply below_drew1) | exact HB.out)) hb); have n1_ := Aside0.mk (hbox); have n2_ := Aside0.mk ((by rw [hg]; exact (below_size (by repeat (first | (with_reducible first | exact HB.out | apply below_alloc | apply pw_below_drewN | apply below_drew1) | exact HB.out))) : w.heap.size ≤ gb223)); have n3_ := Aside0.mk ((by rw [hg]; exact (below_size (by repeat (first | (with_reducible first | exact HB.out | apply below_alloc | apply pw_below_drewN | apply below_drew1) | exact HB.out))) : w.heap.size ≤ gb223)); clear HB; have HB := n0_; have BK223 := n1_; have GW223 := n2_; have GE223 := n3_; clear n0_ n1_ n2_ n3_; clear hb hbox hg))
    have n0_ := Aside0.mk (blk_drew BK223.out)
    have n1_ := Aside0.mk (below_drew1 HB.out)
    clear BK223
    clear HB
    have BK223 := n0_
    have HB := n1_
    clear n0_ n1_
    refine start_ (n := 10) (S := fun w' => w'.cell? ⟨gb223, 0, none⟩ = some (.int .i64 a0_0) ∧ w'.cell? ⟨gb223, 1, none⟩ = some (.int .i64 a0_1) ∧ w'.cell? ⟨gb223, 2, none⟩ = some (.int .i64 a0_2) ∧ w'.cell? ⟨gb223, 3, none⟩ = some (.int .u64 a0_3) ∧ w'.cell? ⟨gb223, 4, none⟩ = some (.int .u64 a0_4) ∧ w'.cell? ⟨gb223, 5, none⟩ = some (.int .u64 a0_5)) (ds := []) #[false, false, false, false, false, false, false, false, false, false] (by kernel_rfl) rfl rfl ⟨(blk_cell BK223.out 0).trans rfl, (blk_cell BK223.out 1).trans rfl, (blk_cell BK223.out 2).trans rfl, (blk_cell BK223.out 3).trans rfl, (blk_cell BK223.out 4).trans rfl, (blk_cell BK223.out 5).trans rfl⟩ (fun hHeld => ?_); refine with_tabW impl_ChainBorder.tab1 impl_ChainBorder.bits1 (fun HT_ HW_ => ?_)
    generalize w7.drew = w8 at BK223 HB hHeld ⊢
    refine pure_ (i := 4) (N := some 11) (v := ?_) (a' := ?_) #[false, false, false, false, true, false, false, false, false, false] rfl rfl (any_of HT_.out (by kernel_rfl)) (fun _ _ _ h => h) (Or.inl ⟨by rfl, ?_⟩) ?_ ?_
    rotate_left
    · intro w'
      go_simp
      with_reducible rfl
    rotate_left
    · simp only [Act.put, List.setIfInBounds_toArray, List.set_cons_zero, List.set_cons_succ, i64_w, i32_w]
      rfl
    refine pure_ (i := 6) (N := some 13) (v := ?_) (a' := ?_) #[false, false, false, false, true, false, true, false, false, false] rfl rfl (any_of HT_.out (by kernel_rfl)) (fun _ _ _ h => h) (Or.inl ⟨by rfl, ?_⟩) ?_ ?_
    rotate_left
    · intro w'
      go_simp
      with_reducible rfl
    rotate_left
    · simp only [Act.put, List.setIfInBounds_toArray, List.set_cons_zero, List.set_cons_succ, i64_w, i32_w]
      rfl
    refine take_ (i := 0) (N := some 7) (v := ?_) (a' := ?_) #[true, false, false, false, true, false, true, false, false, false] rfl rfl (take_ofW HT_.out HW_.out (by kernel_rfl)) (fun _ _ _ h => h) (Or.inl ⟨by rfl, ?_⟩) hHeld ?_ ?_
    rotate_left
    · rintro w' ⟨s0, s1, s2, s3, s4, s5⟩
      go_simp
      with_reducible rfl
    rotate_left
    · simp only [Act.put, List.setIfInBounds_toArray, List.set_cons_zero, List.set_cons_succ, i64_w, i32_w]
      rfl
    refine pure_ (i := 1) (N := some 8) (v := ?_) (a' := ?_) #[true, true, false, false, true, false, true, false, false, false] rfl rfl (any_of HT_.out (by kernel_rfl)) (fun _ _ _ h => h) (Or.inl ⟨by rfl, ?_⟩) ?_ ?_
    rotate_left
    · intro w'
      go_simp
      with_reducible rfl
    rotate_left
    · simp only [Act.put, List.setIfInBounds_toArray, List.set_cons_zero, List.set_cons_succ, i64_w, i32_w]
      rfl
    refine pure_ (i := 2) (N := some 9) (v := ?_) (a' := ?_) #[true, true, true, false, true, false, true, false, false, false] rfl rfl (any_of HT_.out (by kernel_rfl)) (fun _ _ _ h => h) (Or.inl ⟨by rfl, ?_⟩) ?_ ?_
    rotate_left
    · intro w'
      go_simp
      with_reducible rfl
    rotate_left
    · simp only [Act.put, List.setIfInBounds_toArray, List.set_cons_zero, List.set_cons_succ, i64_w, i32_w]
      rfl
    refine one_ (i := 3) (N := some 10) #[true, true, true, true, true, false, true, false, false, false] rfl rfl (one_of HT_.out (by kernel_rfl)) (by decide) (fun K hK => ?_)
    refine Kd.R_lit_step (Kd.int .u8) _ 5 ?hg (N := 10) ?hd (xs := ([] : List Int)) (inner := []) (ok := fun _ => True) (okp := fun _ => True) ?hr ?hp (fun _ hk => hk) trivial (Below.refl _ _) (Nat.le_refl _) (by simp) ?_; (case hd => rfl); (case hg => rfl); (case hr => first | (go_simp; done) | (go_simp; rfl)); (case hp => exact (Reps.none _ _))
    intro v225 w9 ho10 hb hg_ hnew_
    clear hg_ hnew_
    (first | rw [← Ny224.out] at ho10 | (simp only [Int.reduceToNat] at ho10; rw [← Ny224.out] at ho10))
    have n0_ := Aside0.mk (Kd.R_lower (Kd.R_newM (M := fun k_ => (w.heap.size ≤ k_)) ho10 (below_size (by repeat (first | (with_reducible first | exact HB.out | apply below_alloc | apply pw_below_drewN | apply below_drew1 | refine below_set ?_ GE223.out) | exact HB.out))) (fun k_ h_ => h_)) (below_size (by repeat (first | (with_reducible first | exact HB.out | apply below_alloc | apply pw_below_drewN | apply below_drew1 | refine below_set ?_ GE223.out) | exact HB.out))))
    have n1_ := Aside0.mk (blk_below (g := gb223) (o := .cells #[.int .i64 a0_0, .int .i64 a0_1, .int .i64 a0_2, .int .u64 a0_3, .int .u64 a0_4, .int .u64 a0_5] 29 (0, 0)) (by (with_reducible repeat (first | refine blk_drewN ?_ _ | refine blk_drew ?_ | refine blk_alloc ?_ _)); exact BK223.out) hb)
    have n2_ := Aside0.mk (below_step (by repeat (first | (with_reducible first | exact HB.out | apply below_alloc | apply pw_below_drewN | apply below_drew1 | refine below_set ?_ GE223.out) | exact HB.out)) hb)
    clear BK223
    clear HB
    have HO226 := n0_
    have BK223 := n1_
    have HB := n2_
    clear n0_ n1_ n2_
    clear hb ho10
    refine hK.out _ _ ⟨(blk_cell BK223.out 0).trans rfl, (blk_cell BK223.out 1).trans rfl, (blk_cell BK223.out 2).trans rfl, (blk_cell BK223.out 3).trans rfl, (blk_cell BK223.out 4).trans rfl, (blk_cell BK223.out 5).trans rfl⟩ (fun hHeld => ?_)
    clear hK K
    refine norm_ (a' := ?_) ?_ ?_
    rotate_left
    · show Act.put _ (some 10) _ = _
      simp only [Act.put, List.setIfInBounds_toArray, List.set_cons_zero, List.set_cons_succ, i64_w, i32_w]
      rfl
    refine one_ (i := 5) (N := some 12) #[true, true, true, true, true, true, true, false, false, false] rfl rfl (one_of HT_.out (by kernel_rfl)) (by decide) (fun K hK => ?_)
    refine Kd.R_append_rows_step (Kd.int .u8) (w0 := w) w.heap.size (by rfl) (.tmp 10) (.tmp 11) 30 5 (.int .u8 0) 1 rfl Try.underlying30 info5 rfl (by decide) (by omega) v225 y224 l1 _ _ _ (fun k_ => (w.heap.size ≤ k_)) (fun _ => False) rfl rfl ?aO ?aR (fun _ _ h => h) (fun _ h => h.elim) ?aF ?aB ?aS ?aL ?_
    (case aR => repeat (first | exact (Kd.C_below HR1.out HB.out) | (with_reducible refine Kd.C_alloc ?_ _) | (with_reducible refine Kd.C_drewN ?_ _) | (with_reducible refine Kd.C_drew ?_)))
    (case aB => exact (by repeat (first | (with_reducible first | exact HB.out | apply below_alloc | apply pw_below_drewN | apply below_drew1 | refine below_set ?_ GE223.out) | exact HB.out)))
    (case aF => exact (fun k_ hk => (Nat.le_trans (below_size (by repeat (first | (with_reducible first | exact HB.out | apply below_alloc | apply pw_below_drewN | apply below_drew1 | refine below_set ?_ GE223.out) | exact HB.out))) hk)))
    (case aO => exact (by (with_reducible repeat (first | apply Kd.R_alloc | apply Kd.R_drewN | apply Kd.R_drew)); exact Kd.R_mono HO226.out (fun _ hk => hk.1)))
    (case aS => exact (below_size (by repeat (first | (with_reducible first | exact HB.out | apply below_alloc | apply pw_below_drewN | apply below_drew1 | refine below_set ?_ GE223.out) | exact HB.out))))
    (case aL => have := LMc4.out; omega)
    intro v228 w11 ho hb hg hat
    rw [← Ny227.out] at ho
    have n0_ := Aside0.mk (blk_grown (g := gb223) (o := .cells #[.int .i64 a0_0, .int .i64 a0_1, .int .i64 a0_2, .int .u64 a0_3, .int .u64 a0_4, .int .u64 a0_5] 29 (0, 0)) (by (with_reducible repeat (first | refine blk_drewN ?_ _ | refine blk_drew ?_ | refine blk_alloc ?_ _)); exact BK223.out) hg (Kd.R_ne HO226.out BK223.out (by decide)))
    have n1_ := Aside0.mk (hb)
    have n2_ := Aside0.mk (ho)
    clear BK223
    clear HB
    clear HO226
    have BK223 := n0_
    have HB := n1_
    have HO229 := n2_
    clear n0_ n1_ n2_
    clear ho hb hg hat
    refine hK.out _ _ ⟨(blk_cell BK223.out 0).trans rfl, (blk_cell BK223.out 1).trans rfl, (blk_cell BK223.out 2).trans rfl, (blk_cell BK223.out 3).trans rfl, (blk_cell BK223.out 4).trans rfl, (blk_cell BK223.out 5).trans rfl⟩ (fun hHeld => ?_)
    clear hK K
    refine norm_ (a' := ?_) ?_ ?_
    rotate_left
    · show Act.put _ (some 12) _ = _
      simp only [Act.put, List.setIfInBounds_toArray, List.set_cons_zero, List.set_cons_succ, i64_w, i32_w]
      rfl
    refine one_ (i := 7) (N := some 14) #[true, true, true, true, true, true, true, true, false, false] rfl rfl (one_of HT_.out (by kernel_rfl)) (by decide) (fun K hK => ?_)
    refine goes_ Try.func23 (by kernel_rfl) rfl #[.slice A2 l2.length c2] (by rfl) rfl rfl (by (try simp only [List.map_toArray, List.map_cons, List.map_nil]); first | done | rfl | (simp only [List.length_drop, List.length_take]; rfl)) ?_
    with_reducible refine (impl_texts.calls k _ _ l2 t230 _ ?side1 ?side2 A5.out).mono ?_
    (case side1 => repeat (first | exact (Kd.C_below HR2.out HB.out) | (with_reducible refine Kd.C_alloc ?_ _) | (with_reducible refine Kd.C_drewN ?_ _) | (with_reducible refine Kd.C_drew ?_)))
    (case side2 => exact HC2.out)
    rintro e w12 ⟨v231, rfl, ho0, hb⟩
    refine ⟨_, rfl, ?_⟩
    have n0_ := Aside0.mk (Kd.R_below (by (with_reducible repeat (first | apply Kd.R_alloc | apply Kd.R_drewN | apply Kd.R_drew)); exact HO229.out) hb)
    have n1_ := Aside0.mk (Kd.S_lower (Kd.S_new' (Kd.S_newM (M := fun k_ => (w.heap.size ≤ k_)) ho0 (below_size (by repeat (first | (with_reducible first | exact HB.out | apply below_alloc | apply pw_below_drewN | apply below_drew1 | refine below_set ?_ GE223.out) | exact HB.out))) (fun k_ h_ => h_)) (Kd.R_lt (by (with_reducible repeat (first | apply Kd.R_alloc | apply Kd.R_drewN | apply Kd.R_drew)); exact HO229.out))) (below_size (by repeat (first | (with_reducible first | exact HB.out | apply below_alloc | apply pw_below_drewN | apply below_drew1 | refine below_set ?_ GE223.out) | exact HB.out))))
    have n2_ := Aside0.mk (blk_below (g := gb223) (o := .cells #[.int .i64 a0_0, .int .i64 a0_1, .int .i64 a0_2, .int .u64 a0_3, .int .u64 a0_4, .int .u64 a0_5] 29 (0, 0)) (by (with_reducible repeat (first | refine blk_drewN ?_ _ | refine blk_drew ?_ | refine blk_alloc ?_ _)); exact BK223.out) hb)
    have n3_ := Aside0.mk (below_step (by repeat (first | (with_reducible first | exact HB.out | apply below_alloc | apply pw_below_drewN | apply below_drew1 | refine below_set ?_ GE223.out) | exact HB.out)) hb)
    clear HO229
    clear BK223
    clear HB
    have HO229 := n0_
    have HO232 := n1_
    have BK223 := n2_
    have HB := n3_
    clear n0_ n1_ n2_ n3_
    (try clear hb)
    (try clear hb2)
    (try clear hk)
    (try clear hi)
    (try clear ho0)
    obtain ⟨Ao13, co13, eo13⟩ := Kd.R_slice HO229.out
    (first | subst eo13 | (injection eo13 with f1_ f2_ f3_; have f4_ := f1_.symm; have f5_ := f3_.symm; clear f1_ f2_ f3_; subst f4_; subst f5_))
    obtain ⟨Ao14, co14, eo14⟩ := Kd.S_slice HO232.out
    (first | subst eo14 | (injection eo14 with f1_ f2_ f3_; have f4_ := f1_.symm; have f5_ := f3_.symm; clear f1_ f2_ f3_; subst f4_; subst f5_))
    refine hK.out _ _ ⟨(blk_cell BK223.out 0).trans rfl, (blk_cell BK223.out 1).trans rfl, (blk_cell BK223.out 2).trans rfl, (blk_cell BK223.out 3).trans rfl, (blk_cell BK223.out 4).trans rfl, (blk_cell BK223.out 5).trans rfl⟩ (fun hHeld => ?_)
    clear hK K
    refine norm_ (a' := ?_) ?_ ?_
    rotate_left
    · show Act.put _ (some 14) _ = _
      simp only [Act.put, List.setIfInBounds_toArray, List.set_cons_zero, List.set_cons_succ, i64_w, i32_w]
      rfl
    refine one_ (i := 8) (N := some 15) #[true, true, true, true, true, true, true, true, true, false] rfl rfl (one_of HT_.out (by kernel_rfl)) (by decide) (fun K hK => ?_)
    refine goes_ Try.func29 (by kernel_rfl) rfl #[.iface 52 (.agg #[.int .i64 a0_0, .int .i64 a0_1, .int .i64 a0_2, .int .u64 a0_3, .int .u64 a0_4, .int .u64 a0_5]), .slice Ao13 y227.length co13, .slice Ao14 t230.length co14] (by rfl) rfl rfl (by (try simp only [List.map_toArray, List.map_cons, List.map_nil]); first | done | rfl | (simp only [List.length_drop, List.length_take]; rfl)) ?_
    with_reducible refine (proof_DoorBorder.calls k a0_0 a0_1 a0_2 a0_3 a0_4 a0_5 (fun k_ => some k_ = (.slice Ao13 y227.length co13 : Value).ownBlock) _ _ y227 _ _ t230 t233 _ ?side1 ?side2 ?side3 A6.out).mono ?_
    (case side1 => first | exact Kd.R_V (Kd.R_tight rfl (Kd.R_types (Kd.R_apart' (HO229.out) (Kd.S_typed HO232.out) (by decide)) BK223.out (by decide))) | exact Kd.V_mono Kd.R_V (Kd.R_tight rfl (Kd.R_types (Kd.R_apart' (HO229.out) (Kd.S_typed HO232.out) (by decide)) BK223.out (by decide))) (fun k_ h_ => by simp only [and_assoc] at h_ ⊢; exact h_))
    (case side2 => repeat (first | exact (Kd.S_reads' HO232.out).2.2 | (with_reducible refine Kd.C_alloc ?_ _) | (with_reducible refine Kd.C_drewN ?_ _) | (with_reducible refine Kd.C_drew ?_)))
    (case side3 => exact (Kd.S_reads' HO232.out).2.1)
    rintro e w15 ⟨v234, rfl, ho0, hb⟩
    refine ⟨_, rfl, ?_⟩
    have n0_ := Aside0.mk (Kd.R_below (by (with_reducible repeat (first | apply Kd.R_alloc | apply Kd.R_drewN | apply Kd.R_drew)); exact HO229.out) hb)
    have n1_ := Aside0.mk (Kd.S_below (by (with_reducible repeat (first | apply Kd.S_alloc | apply Kd.S_drewN | apply Kd.S_drew)); exact HO232.out) hb)
    have n2_ := Aside0.mk (Kd.V_lower (Kd.V_mono (ok' := fun k_ => (w.heap.size ≤ k_) ∧ some k_ ≠ (.slice Ao14 t230.length co14 : Value).ownBlock ∧ k_ ≠ gb223) ho0 (fun k_ hk_ => ⟨Or.elim hk_ (fun hs_ => ((Kd.R_types (Kd.R_apart' (HO229.out) (Kd.S_typed HO232.out) (by decide)) BK223.out (by decide)).1 k_ hs_.symm).1.1) (fun hn_ => (Nat.le_trans (below_size (by repeat (first | (with_reducible first | exact HB.out | apply below_alloc | apply pw_below_drewN | apply below_drew1 | refine below_set ?_ GE223.out) | exact HB.out))) hn_)), Or.elim hk_ (fun hs_ => ((Kd.R_types (Kd.R_apart' (HO229.out) (Kd.S_typed HO232.out) (by decide)) BK223.out (by decide)).1 k_ hs_.symm).1.2) (fun hn_ => (Kd.fresh' (Kd.S_lt (by (with_reducible repeat (first | apply Kd.S_alloc | apply Kd.S_drewN | apply Kd.S_drew)); exact HO232.out)) k_ hn_)), Or.elim hk_ (fun hs_ => ((Kd.R_types (Kd.R_apart' (HO229.out) (Kd.S_typed HO232.out) (by decide)) BK223.out (by decide)).1 k_ hs_.symm).2) (fun hn_ => (Kd.freshB (g := gb223) (o := .cells #[.int .i64 a0_0, .int .i64 a0_1, .int .i64 a0_2, .int .u64 a0_3, .int .u64 a0_4, .int .u64 a0_5] 29 (0, 0)) (by (with_reducible repeat (first | refine blk_drewN ?_ _ | refine blk_drew ?_ | refine blk_alloc ?_ _)); exact BK223.out) k_ hn_))⟩)) (below_size (by repeat (first | (with_reducible first | exact HB.out | apply below_alloc | apply pw_below_drewN | apply below_drew1 | refine below_set ?_ GE223.out) | exact HB.out))))
    have n3_ := Aside0.mk (blk_below (g := gb223) (o := .cells #[.int .i64 a0_0, .int .i64 a0_1, .int .i64 a0_2, .int .u64 a0_3, .int .u64 a0_4, .int .u64 a0_5] 29 (0, 0)) (by (with_reducible repeat (first | refine blk_drewN ?_ _ | refine blk_drew ?_ | refine blk_alloc ?_ _)); exact BK223.out) hb)
    have n4_ := Aside0.mk (below_step (by repeat (first | (with_reducible first | exact HB.out | apply below_alloc | apply pw_below_drewN | apply below_drew1 | refine below_set ?_ GE223.out) | exact HB.out)) hb)
    clear HO229
    clear HO232
    clear BK223
    clear HB
    have HO229 := n0_
    have HO232 := n1_
    have HO235 := n2_
    have BK223 := n3_
    have HB := n4_
    clear n0_ n1_ n2_ n3_ n4_
    (try clear hb)
    (try clear hb2)
    (try clear hk)
    (try clear hi)
    (try clear ho0)
    refine hK.out _ _ ⟨(blk_cell BK223.out 0).trans rfl, (blk_cell BK223.out 1).trans rfl, (blk_cell BK223.out 2).trans rfl, (blk_cell BK223.out 3).trans rfl, (blk_cell BK223.out 4).trans rfl, (blk_cell BK223.out 5).trans rfl⟩ (fun hHeld => ?_)
    clear hK K
    refine norm_ (a' := ?_) ?_ ?_
    rotate_left
    · show Act.put _ (some 15) _ = _
      simp only [Act.put, List.setIfInBounds_toArray, List.set_cons_zero, List.set_cons_succ, i64_w, i32_w]
      rfl
    refine pure_ (i := 9) (N := some 6) (v := ?_) (a' := ?_) #[true, true, true, true, true, true, true, true, true, true] rfl rfl (any_of HT_.out (by kernel_rfl)) (fun _ _ _ h => h) (Or.inl ⟨by rfl, ?_⟩) ?_ ?_
    rotate_left
    · intro w'
      go_simp
      with_reducible rfl
    rotate_left
    · simp only [Act.put, List.setIfInBounds_toArray, List.set_cons_zero, List.set_cons_succ, i64_w, i32_w]
      rfl
    refine done_ (done_of HT_.out (by kernel_rfl)) ?_
    try go_wp2
    go_ret
    exact ⟨_, by first | rfl | (simp [errW_none, errW_some] <;> rfl) | (simp [*, errW_none, errW_some] <;> rfl), by (with_reducible repeat (first | apply Kd.V_alloc | apply Kd.V_drewN | apply Kd.V_drew)); exact Kd.V_mono HO235.out (fun _ hk => hk.1), by repeat (first | (with_reducible first | exact HB.out | apply below_alloc | apply pw_below_drewN | apply below_drew1 | refine below_set ?_ GE223.out) | exact HB.out)⟩
  · rw [if_neg c4] at H
    exact absurd H (by simp)

end Go.Proofs.Ytkmdkmlgahfcpaa.M

namespace Go.Proofs.Ytkmdkmlgahfcpaa.M
open Go.RowKit Go.Proofs.YtkmdkmlgahfcpaaW.PrintWords Go.Proofs.YtkmdkmlgahfcpaaW.PrintLast Go.Proofs.YtkmdkmlgahfcpaaW.PrintMore
attribute [local go_sem] max2_int min2_int max_two min_two max_three min_three max_four min_four   -- for this text's walks alone
set_option linter.unusedVariables false
set_option linter.unusedSimpArgs false

/-! ### proof_DoorInner: function 30 -/
def proof_DoorInner.f (k : Nat) (a0_0 : Int) (a0_1 : Int) (a0_2 : Int) (a0_3 : Int) (a0_4 : Int) (a0_5 : Int) (l1 : List Int) (l2 : List (List Int)) (a3 : Int) : Option (List Int) := (proof_chainInner.f k a0_0 a0_1 a0_2 a0_3 a0_4 a0_5 l1 l2 a3).bind fun t236 => (some t236)
theorem proof_DoorInner.mono : ∀ a0 a1 a2 a3 a4 a5 a6 a7 a8 k, LeO (proof_DoorInner.f k a0 a1 a2 a3 a4 a5 a6 a7 a8) (proof_DoorInner.f (k + 1) a0 a1 a2 a3 a4 a5 a6 a7 a8) := by
  intro a0 a1 a2 a3 a4 a5 a6 a7 a8 k
  unfold proof_DoorInner.f
  repeat' first
      | (with_reducible exact proof_chainInner.mono _ _ _ _ _ _ _ _ _ _)
      | (with_reducible exact LeO.refl _)
      | (with_reducible exact LeO.none _)
      | (with_reducible refine LeO.ite ?_ ?_)
      | (with_reducible refine LeO.bind ?_ (fun _ => ?_))
      | exact proof_chainInner.mono _ _ _ _ _ _ _ _ _ _
      | exact LeO.none _
      | refine LeO.ite ?_ ?_
      | refine LeO.bind ?_ (fun _ => ?_)
set_option maxHeartbeats 8000000 in
set_option maxRecDepth 100000 in
theorem proof_DoorInner.calls (k : Nat) (a0_0 : Int) (a0_1 : Int) (a0_2 : Int) (a0_3 : Int) (a0_4 : Int) (a0_5 : Int) (P1_ : Nat → Prop) (A1 : Option Addr) (c1 : Nat) (l1 : List Int) (A2 : Option Addr) (c2 : Nat) (l2 : List (List Int)) (a3 : Int) (r : List Int) (w : World) (hs1 : Kd.V (Kd.int .u8) 5 w w.heap.size (fun k_ => P1_ k_) (.slice A1 l1.length c1) l1) (hr2 : Kd.C (Kd.slice 5 (Kd.int .u8)) w A2 l2.length l2) (hc2 : l2.length ≤ c2) (h : proof_DoorInner.f k a0_0 a0_1 a0_2 a0_3 a0_4 a0_5 l1 l2 a3 = some r) :
    Calls Try.prog 30 #[.iface 52 (.agg #[.int .i64 a0_0, .int .i64 a0_1, .int .i64 a0_2, .int .u64 a0_3, .int .u64 a0_4, .int .u64 a0_5]), .slice A1 l1.length c1, .slice A2 l2.length c2, .int .u64 a3] w fun e w' => ∃ v0_ : Value, e = .returned (v0_) ∧ Kd.V (Kd.int .u8) 5 w' w.heap.size (fun k_ => (P1_ k_ ∨ w.heap.size ≤ k_)) v0_ r ∧ Below w.heap.size w w' := by
  have HO1 := Aside0.mk (show Kd.V (Kd.int .u8) 5 w w.heap.size (fun k_ => (P1_ k_ ∨ w.heap.size ≤ k_)) (.slice A1 l1.length c1) l1 from Kd.V_mono hs1 (fun k_ hk => .inl hk))
  have HR2 := Aside0.mk hr2
  have HC2 := Aside0.mk hc2
  clear hr2 hc2
  have HB := Aside0.mk (Below.refl w.heap.size w)
  have H : ((proof_chainInner.f k a0_0 a0_1 a0_2 a0_3 a0_4 a0_5 l1 l2 a3).bind fun t236 => (some t236)) = some r := h
  clear h
  replace H := Option.bind_eq_some_iff.mp H
  obtain ⟨t236, A50, H⟩ := H
  replace H : (some t236) = some r := H
  have A5 := Aside0.mk A50
  clear A50
  obtain rfl := Option.some.inj H
  go_enter Try.func30, Try.ntmps30
  go_wp2_with (first | ((with_reducible refine gate_callee (f := 41) rfl ?_); refine goesL_ (some 13) rfl rfl Try.func41 (by kernel_rfl) rfl #[.iface 52 (.agg #[.int .i64 a0_0, .int .i64 a0_1, .int .i64 a0_2, .int .u64 a0_3, .int .u64 a0_4, .int .u64 a0_5]), .slice A1 l1.length c1, .slice A2 l2.length c2, .int .u64 a3] rfl (by (try simp only [List.map_toArray, List.map_cons, List.map_nil]); first | done | rfl | (simp only [List.length_drop, List.length_take]; rfl)) ?_; (with_reducible refine (proof_chainInner.calls k a0_0 a0_1 a0_2 a0_3 a0_4 a0_5 (fun k_ => (P1_ k_ ∨ w.heap.size ≤ k_)) _ _ l1 _ _ l2 a3 t236 _ ?side1 ?side2 ?side3 A5.out).mono ?_); (case side1 => first | exact HO1.out | exact Kd.V_mono HO1.out (fun k_ h_ => by simp only [and_assoc] at h_ ⊢; exact h_)); (case side2 => repeat (first | exact HR2.out | (with_reducible refine Kd.C_alloc ?_ _) | (with_reducible refine Kd.C_drewN ?_ _) | (with_reducible refine Kd.C_drew ?_))); (case side3 => exact HC2.out); rintro e w6 ⟨v237, rfl, ho0, hb⟩; refine ⟨_, rfl, ?_⟩; have n0_ := Aside0.mk (Kd.V_below (by (with_reducible repeat (first | apply Kd.V_alloc | apply Kd.V_drewN | apply Kd.V_drew)); exact HO1.out) hb); have n1_ := Aside0.mk (Kd.V_lower (Kd.V_mono (ok' := fun k_ => (P1_ k_ ∨ w.heap.size ≤ k_)) ho0 (fun k_ hk_ => Or.elim hk_ (fun hs_ => hs_) (fun hn_ => (.inr (Nat.le_trans (below_size (by repeat (first | (with_reducible first | exact HB.out | apply below_alloc | apply pw_below_drewN | apply below_drew1) | exact HB.out))) hn_))))) (below_size (by repeat (first | (with_reducible first | exact HB.out | apply below_alloc | apply pw_below_drewN | apply below_drew1) | exact HB.out)))); have n2_ := Aside0.mk (below_step (by repeat (first | (with_reducible first | exact HB.out | apply below_alloc | apply pw_below_drewN | apply below_drew1) | exact HB.out)) hb); clear HO1; clear HB; have HO1 := n0_; have HO238 := n1_; have HB := n2_; clear n0_ n1_ n2_; (try clear hb); (try clear hb2); (try clear hk); (try clear hi); (try clear ho0)))
  go_ret
  exact ⟨_, by first | rfl | (simp [errW_none, errW_some] <;> rfl) | (simp [*, errW_none, errW_some] <;> rfl), by (with_reducible repeat (first | apply Kd.V_alloc | apply Kd.V_drewN | apply Kd.V_drew)); exact HO238.out, by repeat (first | (with_reducible first | exact HB.out | apply below_alloc | apply pw_below_drewN | apply below_drew1) | exact HB.out)⟩

end Go.Proofs.Ytkmdkmlgahfcpaa.M

namespace Go.Proofs.Ytkmdkmlgahfcpaa.M
open Go.RowKit Go.Proofs.YtkmdkmlgahfcpaaW.PrintWords Go.Proofs.YtkmdkmlgahfcpaaW.PrintLast Go.Proofs.YtkmdkmlgahfcpaaW.PrintMore
attribute [local go_sem] max2_int min2_int max_two min_two max_three min_three max_four min_four   -- for this text's walks alone
set_option linter.unusedVariables false
set_option linter.unusedSimpArgs false

/-! ### impl_ChainInner: function 17 -/
def impl_ChainInner.f (k : Nat) (a0_0 : Int) (a0_1 : Int) (a0_2 : Int) (a0_3 : Int) (a0_4 : Int) (a0_5 : Int) (l1 : List Int) (l2 : List (List Int)) (a3 : Int) : Option (List Int) := (some (([] : List Int) : List Int)).bind fun y240 => (if y240.length + l1.length < 140737488355328 then ((impl_texts.f k l2).bind fun t246 => ((proof_DoorInner.f k a0_0 a0_1 a0_2 a0_3 a0_4 a0_5 (y240 ++ l1) t246 a3).bind fun t249 => (some t249))) else (none))
theorem impl_ChainInner.mono : ∀ a0 a1 a2 a3 a4 a5 a6 a7 a8 k, LeO (impl_ChainInner.f k a0 a1 a2 a3 a4 a5 a6 a7 a8) (impl_ChainInner.f (k + 1) a0 a1 a2 a3 a4 a5 a6 a7 a8) := by
  intro a0 a1 a2 a3 a4 a5 a6 a7 a8 k
  unfold impl_ChainInner.f
  repeat' first
      | (with_reducible exact impl_texts.mono _ _)
      | (with_reducible exact proof_DoorInner.mono _ _ _ _ _ _ _ _ _ _)
      | (with_reducible exact LeO.refl _)
      | (with_reducible exact LeO.none _)
      | (with_reducible refine LeO.ite ?_ ?_)
      | (with_reducible refine LeO.bind ?_ (fun _ => ?_))
      | exact impl_texts.mono _ _
      | exact proof_DoorInner.mono _ _ _ _ _ _ _ _ _ _
      | exact LeO.none _
      | refine LeO.ite ?_ ?_
      | refine LeO.bind ?_ (fun _ => ?_)
def impl_ChainInner.T1 : Bool × List (List Nat × List Nat) := (true, [([], []), ([0], [0]), ([1], [1]), ([], []), ([], []), ([3, 4], [3, 4]), ([], []), ([6, 5], [6]), ([], []), ([2, 5, 7, 8, 7], [2, 5, 7, 8]), ([9, 9, 0, 1, 2, 3, 4, 5, 6, 7, 8, 9], [9])])
def impl_ChainInner.B1 : List Nat := [0, 1, 3, 0, 0, 24, 0, 120, 0, 511, 1023]
theorem impl_ChainInner.tab1 : rtab .any (opsOf Try.f17 1) = impl_ChainInner.T1 := by kernel_rfl
theorem impl_ChainInner.bits1 : waitsOk impl_ChainInner.T1.2 impl_ChainInner.B1 = true := by kernel_rfl
set_option maxHeartbeats 8000000 in
set_option maxRecDepth 100000 in
theorem impl_ChainInner.calls (k : Nat) (a0_0 : Int) (a0_1 : Int) (a0_2 : Int) (a0_3 : Int) (a0_4 : Int) (a0_5 : Int) (A1 : Option Addr) (c1 : Nat) (l1 : List Int) (A2 : Option Addr) (c2 : Nat) (l2 : List (List Int)) (a3 : Int) (r : List Int) (w : World) (hr1 : Kd.C (Kd.int .u8) w A1 l1.length l1) (hc1 : l1.length ≤ c1) (hr2 : Kd.C (Kd.slice 5 (Kd.int .u8)) w A2 l2.length l2) (hc2 : l2.length ≤ c2) (h : impl_ChainInner.f k a0_0 a0_1 a0_2 a0_3 a0_4 a0_5 l1 l2 a3 = some r) :
    Calls Try.prog 17 #[.agg #[.int .i64 a0_0, .int .i64 a0_1, .int .i64 a0_2, .int .u64 a0_3, .int .u64 a0_4, .int .u64 a0_5], .slice A1 l1.length c1, .slice A2 l2.length c2, .int .u64 a3] w fun e w' => ∃ v0_ : Value, e = .returned (v0_) ∧ Kd.V (Kd.int .u8) 5 w' w.heap.size (fun k_ => (w.heap.size ≤ k_)) v0_ r ∧ Below w.heap.size w w' := by
  have hu29 := Try.underlying29
  have hu52 := Try.underlying52
  have HR1 := Aside0.mk hr1
  have HC1 := Aside0.mk hc1
  clear hr1 hc1
  have HR2 := Aside0.mk hr2
  have HC2 := Aside0.mk hc2
  clear hr2 hc2
  have HB := Aside0.mk (Below.refl w.heap.size w)
  have H : ((some (([] : List Int) : List Int)).bind fun y240 => (if y240.length + l1.length < 140737488355328 then ((impl_texts.f k l2).bind fun t246 => ((proof_DoorInner.f k a0_0 a0_1 a0_2 a0_3 a0_4 a0_5 (y240 ++ l1) t246 a3).bind fun t249 => (some t249))) else (none))) = some r := h
  clear h
  obtain ⟨y240, hy240⟩ : ∃ y_ : List Int, y_ = (([] : List Int)) := ⟨_, rfl⟩
  replace H : (if y240.length + l1.length < 140737488355328 then ((impl_texts.f k l2).bind fun t246 => ((proof_DoorInner.f k a0_0 a0_1 a0_2 a0_3 a0_4 a0_5 (y240 ++ l1) t246 a3).bind fun t249 => (some t249))) else (none)) = some r := by first | (rw [hy240]; with_reducible exact H) | (have H2_ := (Option.bind_some _ _).symm.trans H; rw [hy240]; with_reducible exact H2_) | (have H2_ := (Option.bind_some _ _).symm.trans H; with_reducible exact H2_) | with_reducible exact H | (rw [hy240]; exact H) | exact H
  have Ny240 := Aside0.mk hy240
  clear hy240
  by_cases c5 : y240.length + l1.length < 140737488355328
  · rw [if_pos c5] at H
    have LMc5 := Aside0.mk c5
    clear c5
    obtain ⟨y243, hy243⟩ : ∃ y_ : List Int, y_ = (y240 ++ l1) := ⟨_, rfl⟩
    replace H : ((impl_texts.f k l2).bind fun t246 => ((proof_DoorInner.f k a0_0 a0_1 a0_2 a0_3 a0_4 a0_5 y243 t246 a3).bind fun t249 => (some t249))) = some r := by first | (rw [hy243]; with_reducible exact H) | (have H2_ := (Option.bind_some _ _).symm.trans H; rw [hy243]; with_reducible exact H2_) | (have H2_ := (Option.bind_some _ _).symm.trans H; with_reducible exact H2_) | with_reducible exact H | (rw [hy243]; exact H) | exact H
    have Ny243 := Aside0.mk hy243
    clear hy243
    replace H := Option.bind_eq_some_iff.mp H
    obtain ⟨t246, A60, H⟩ := H
    replace H : ((proof_DoorInner.f k a0_0 a0_1 a0_2 a0_3 a0_4 a0_5 y243 t246 a3).bind fun t249 => (some t249)) = some r := H
    have A6 := Aside0.mk A60
    clear A60
    replace H := Option.bind_eq_some_iff.mp H
    obtain ⟨t249, A70, H⟩ := H
    replace H : (some t249) = some r := H
    have A7 := Aside0.mk A70
    clear A70
    obtain rfl := Option.some.inj H
    go_enter Try.func17, Try.ntmps17
    try go_wp2_with (first | ((with_reducible refine gate_dst (N := 4) rfl ?_); refine box_event ?hg (N := 4) ?hd (cs := #[.int .i64 a0_0, .int .i64 a0_1, .int .i64 a0_2, .int .u64 a0_3, .int .u64 a0_4, .int .u64 a0_5]) (t := 29) ?hr ?_; (case hd => rfl); (case hg => rfl); (case hr => first | (go_simp; done) | (go_simp; rfl)); intro gb239 hg w8 hbox hb; have n0_ := Aside0.mk (below_step (by repeat (first | (with_reducible first | exact HB.out | apply below_alloc | apply pw_below_drewN | apply below_drew1) | exact HB.out)) hb); have n1_ := Aside0.mk (hbox); have n2_ := Aside0.mk ((by rw [hg]; exact (below_size (by repeat (first | (with_reducible first | exact HB.out | apply below_alloc | apply pw_below_drewN | apply below_drew1) | exact HB.out))) : w.heap.size ≤ gb239)); have n3_ := Aside0.mk ((by rw [hg]; exact (below_size (by repeat (first | (with_reducible first | exact HB.out | apply below_alloc | apply pw_below_drewN | apply below_drew1) | exact HB.out))) : w.heap.size ≤ gb239)); clear HB; have HB := n0_; have BK239 := n1_; have GW239 := n2_; have GE239 := n3_; clear n0_ n1_ n2_ n3_; clear hb hbox hg))
    have n0_ := Aside0.mk (blk_drew BK239.out)
    have n1_ := Aside0.mk (below_drew1 HB.out)
    clear BK239
    clear HB
    have BK239 := n0_
    have HB := n1_
    clear n0_ n1_
    refine start_ (n := 11) (S := fun w' => w'.cell? ⟨gb239, 0, none⟩ = some (.int .i64 a0_0) ∧ w'.cell? ⟨gb239, 1, none⟩ = some (.int .i64 a0_1) ∧ w'.cell? ⟨gb239, 2, none⟩ = some (.int .i64 a0_2) ∧ w'.cell? ⟨gb239, 3, none⟩ = some (.int .u64 a0_3) ∧ w'.cell? ⟨gb239, 4, none⟩ = some (.int .u64 a0_4) ∧ w'.cell? ⟨gb239, 5, none⟩ = some (.int .u64 a0_5)) (ds := []) #[false, false, false, false, false, false, false, false, false, false, false] (by kernel_rfl) rfl rfl ⟨(blk_cell BK239.out 0).trans rfl, (blk_cell BK239.out 1).trans rfl, (blk_cell BK239.out 2).trans rfl, (blk_cell BK239.out 3).trans rfl, (blk_cell BK239.out 4).trans rfl, (blk_cell BK239.out 5).trans rfl⟩ (fun hHeld => ?_); refine with_tabW impl_ChainInner.tab1 impl_ChainInner.bits1 (fun HT_ HW_ => ?_)
    generalize w8.drew = w9 at BK239 HB hHeld ⊢
    refine pure_ (i := 4) (N := some 13) (v := ?_) (a' := ?_) #[false, false, false, false, true, false, false, false, false, false, false] rfl rfl (any_of HT_.out (by kernel_rfl)) (fun _ _ _ h => h) (Or.inl ⟨by rfl, ?_⟩) ?_ ?_
    rotate_left
    · intro w'
      go_simp
      with_reducible rfl
    rotate_left
    · simp only [Act.put, List.setIfInBounds_toArray, List.set_cons_zero, List.set_cons_succ, i64_w, i32_w]
      rfl
    refine pure_ (i := 6) (N := some 15) (v := ?_) (a' := ?_) #[false, false, false, false, true, false, true, false, false, false, false] rfl rfl (any_of HT_.out (by kernel_rfl)) (fun _ _ _ h => h) (Or.inl ⟨by rfl, ?_⟩) ?_ ?_
    rotate_left
    · intro w'
      go_simp
      with_reducible rfl
    rotate_left
    · simp only [Act.put, List.setIfInBounds_toArray, List.set_cons_zero, List.set_cons_succ, i64_w, i32_w]
      rfl
    refine pure_ (i := 8) (N := some 17) (v := ?_) (a' := ?_) #[false, false, false, false, true, false, true, false, true, false, false] rfl rfl (any_of HT_.out (by kernel_rfl)) (fun _ _ _ h => h) (Or.inl ⟨by rfl, ?_⟩) ?_ ?_
    rotate_left
    · intro w'
      go_simp
      with_reducible rfl
    rotate_left
    · simp only [Act.put, List.setIfInBounds_toArray, List.set_cons_zero, List.set_cons_succ, i64_w, i32_w]
      rfl
    refine take_ (i := 0) (N := some 9) (v := ?_) (a' := ?_) #[true, false, false, false, true, false, true, false, true, false, false] rfl rfl (take_ofW HT_.out HW_.out (by kernel_rfl)) (fun _ _ _ h => h) (Or.inl ⟨by rfl, ?_⟩) hHeld ?_ ?_
    rotate_left
    · rintro w' ⟨s0, s1, s2, s3, s4, s5⟩
      go_simp
      with_reducible rfl
    rotate_left
    · simp only [Act.put, List.setIfInBounds_toArray, List.set_cons_zero, List.set_cons_succ, i64_w, i32_w]
      rfl
    refine pure_ (i := 1) (N := some 10) (v := ?_) (a' := ?_) #[true, true, false, false, true, false, true, false, true, false, false] rfl rfl (any_of HT_.out (by kernel_rfl)) (fun _ _ _ h => h) (Or.inl ⟨by rfl, ?_⟩) ?_ ?_
    rotate_left
    · intro w'
      go_simp
      with_reducible rfl
    rotate_left
    · simp only [Act.put, List.setIfInBounds_toArray, List.set_cons_zero, List.set_cons_succ, i64_w, i32_w]
      rfl
    refine pure_ (i := 2) (N := some 11) (v := ?_) (a' := ?_) #[true, true, true, false, true, false, true, false, true, false, false] rfl rfl (any_of HT_.out (by kernel_rfl)) (fun _ _ _ h => h) (Or.inl ⟨by rfl, ?_⟩) ?_ ?_
    rotate_left
    · intro w'
      go_simp
      with_reducible rfl
    rotate_left
    · simp only [Act.put, List.setIfInBounds_toArray, List.set_cons_zero, List.set_cons_succ, i64_w, i32_w]
      rfl
    refine one_ (i := 3) (N := some 12) #[true, true, true, true, true, false, true, false, true, false, false] rfl rfl (one_of HT_.out (by kernel_rfl)) (by decide) (fun K hK => ?_)
    refine Kd.R_lit_step (Kd.int .u8) _ 5 ?hg (N := 12) ?hd (xs := ([] : List Int)) (inner := []) (ok := fun _ => True) (okp := fun _ => True) ?hr ?hp (fun _ hk => hk) trivial (Below.refl _ _) (Nat.le_refl _) (by simp) ?_; (case hd => rfl); (case hg => rfl); (case hr => first | (go_simp; done) | (go_simp; rfl)); (case hp => exact (Reps.none _ _))
    intro v241 w10 ho11 hb hg_ hnew_
    clear hg_ hnew_
    (first | rw [← Ny240.out] at ho11 | (simp only [Int.reduceToNat] at ho11; rw [← Ny240.out] at ho11))
    have n0_ := Aside0.mk (Kd.R_lower (Kd.R_newM (M := fun k_ => (w.heap.size ≤ k_)) ho11 (below_size (by repeat (first | (with_reducible first | exact HB.out | apply below_alloc | apply pw_below_drewN | apply below_drew1 | refine below_set ?_ GE239.out) | exact HB.out))) (fun k_ h_ => h_)) (below_size (by repeat (first | (with_reducible first | exact HB.out | apply below_alloc | apply pw_below_drewN | apply below_drew1 | refine below_set ?_ GE239.out) | exact HB.out))))
    have n1_ := Aside0.mk (blk_below (g := gb239) (o := .cells #[.int .i64 a0_0, .int .i64 a0_1, .int .i64 a0_2, .int .u64 a0_3, .int .u64 a0_4, .int .u64 a0_5] 29 (0, 0)) (by (with_reducible repeat (first | refine blk_drewN ?_ _ | refine blk_drew ?_ | refine blk_alloc ?_ _)); exact BK239.out) hb)
    have n2_ := Aside0.mk (below_step (by repeat (first | (with_reducible first | exact HB.out | apply below_alloc | apply pw_below_drewN | apply below_drew1 | refine below_set ?_ GE239.out) | exact HB.out)) hb)
    clear BK239
    clear HB
    have HO242 := n0_
    have BK239 := n1_
    have HB := n2_
    clear n0_ n1_ n2_
    clear hb ho11
    refine hK.out _ _ ⟨(blk_cell BK239.out 0).trans rfl, (blk_cell BK239.out 1).trans rfl, (blk_cell BK239.out 2).trans rfl, (blk_cell BK239.out 3).trans rfl, (blk_cell BK239.out 4).trans rfl, (blk_cell BK239.out 5).trans rfl⟩ (fun hHeld => ?_)
    clear hK K
    refine norm_ (a' := ?_) ?_ ?_
    rotate_left
    · show Act.put _ (some 12) _ = _
      simp only [Act.put, List.setIfInBounds_toArray, List.set_cons_zero, List.set_cons_succ, i64_w, i32_w]
      rfl
    refine one_ (i := 5) (N := some 14) #[true, true, true, true, true, true, true, false, true, false, false] rfl rfl (one_of HT_.out (by kernel_rfl)) (by decide) (fun K hK => ?_)
    refine Kd.R_append_rows_step (Kd.int .u8) (w0 := w) w.heap.size (by rfl) (.tmp 12) (.tmp 13) 30 5 (.int .u8 0) 1 rfl Try.underlying30 info5 rfl (by decide) (by omega) v241 y240 l1 _ _ _ (fun k_ => (w.heap.size ≤ k_)) (fun _ => False) rfl rfl ?aO ?aR (fun _ _ h => h) (fun _ h => h.elim) ?aF ?aB ?aS ?aL ?_
    (case aR => repeat (first | exact (Kd.C_below HR1.out HB.out) | (with_reducible refine Kd.C_alloc ?_ _) | (with_reducible refine Kd.C_drewN ?_ _) | (with_reducible refine Kd.C_drew ?_)))
    (case aB => exact (by repeat (first | (with_reducible first | exact HB.out | apply below_alloc | apply pw_below_drewN | apply below_drew1 | refine below_set ?_ GE239.out) | exact HB.out)))
    (case aF => exact (fun k_ hk => (Nat.le_trans (below_size (by repeat (first | (with_reducible first | exact HB.out | apply below_alloc | apply pw_below_drewN | apply below_drew1 | refine below_set ?_ GE239.out) | exact HB.out))) hk)))
    (case aO => exact (by (with_reducible repeat (first | apply Kd.R_alloc | apply Kd.R_drewN | apply Kd.R_drew)); exact Kd.R_mono HO242.out (fun _ hk => hk.1)))
    (case aS => exact (below_size (by repeat (first | (with_reducible first | exact HB.out | apply below_alloc | apply pw_below_drewN | apply below_drew1 | refine below_set ?_ GE239.out) | exact HB.out))))
    (case aL => have := LMc5.out; omega)
    intro v244 w12 ho hb hg hat
    rw [← Ny243.out] at ho
    have n0_ := Aside0.mk (blk_grown (g := gb239) (o := .cells #[.int .i64 a0_0, .int .i64 a0_1, .int .i64 a0_2, .int .u64 a0_3, .int .u64 a0_4, .int .u64 a0_5] 29 (0, 0)) (by (with_reducible repeat (first | refine blk_drewN ?_ _ | refine blk_drew ?_ | refine blk_alloc ?_ _)); exact BK239.out) hg (Kd.R_ne HO242.out BK239.out (by decide)))
    have n1_ := Aside0.mk (hb)
    have n2_ := Aside0.mk (ho)
    clear BK239
    clear HB
    clear HO242
    have BK239 := n0_
    have HB := n1_
    have HO245 := n2_
    clear n0_ n1_ n2_
    clear ho hb hg hat
    refine hK.out _ _ ⟨(blk_cell BK239.out 0).trans rfl, (blk_cell BK239.out 1).trans rfl, (blk_cell BK239.out 2).trans rfl, (blk_cell BK239.out 3).trans rfl, (blk_cell BK239.out 4).trans rfl, (blk_cell BK239.out 5).trans rfl⟩ (fun hHeld => ?_)
    clear hK K
    refine norm_ (a' := ?_) ?_ ?_
    rotate_left
    · show Act.put _ (some 14) _ = _
      simp only [Act.put, List.setIfInBounds_toArray, List.set_cons_zero, List.set_cons_succ, i64_w, i32_w]
      rfl
    refine one_ (i := 7) (N := some 16) #[true, true, true, true, true, true, true, true, true, false, false] rfl rfl (one_of HT_.out (by kernel_rfl)) (by decide) (fun K hK => ?_)
    refine goes_ Try.func23 (by kernel_rfl) rfl #[.slice A2 l2.length c2] (by rfl) rfl rfl (by (try simp only [List.map_toArray, List.map_cons, List.map_nil]); first | done | rfl | (simp only [List.length_drop, List.length_take]; rfl)) ?_
    with_reducible refine (impl_texts.calls k _ _ l2 t246 _ ?side1 ?side2 A6.out).mono ?_
    (case side1 => repeat (first | exact (Kd.C_below HR2.out HB.out) | (with_reducible refine Kd.C_alloc ?_ _) | (with_reducible refine Kd.C_drewN ?_ _) | (with_reducible refine Kd.C_drew ?_)))
    (case side2 => exact HC2.out)
    rintro e w13 ⟨v247, rfl, ho0, hb⟩
    refine ⟨_, rfl, ?_⟩
    have n0_ := Aside0.mk (Kd.R_below (by (with_reducible repeat (first | apply Kd.R_alloc | apply Kd.R_drewN | apply Kd.R_drew)); exact HO245.out) hb)
    have n1_ := Aside0.mk (Kd.S_lower (Kd.S_new' (Kd.S_newM (M := fun k_ => (w.heap.size ≤ k_)) ho0 (below_size (by repeat (first | (with_reducible first | exact HB.out | apply below_alloc | apply pw_below_drewN | apply below_drew1 | refine below_set ?_ GE239.out) | exact HB.out))) (fun k_ h_ => h_)) (Kd.R_lt (by (with_reducible repeat (first | apply Kd.R_alloc | apply Kd.R_drewN | apply Kd.R_drew)); exact HO245.out))) (below_size (by repeat (first | (with_reducible first | exact HB.out | apply below_alloc | apply pw_below_drewN | apply below_drew1 | refine below_set ?_ GE239.out) | exact HB.out))))
    have n2_ := Aside0.mk (blk_below (g := gb239) (o := .cells #[.int .i64 a0_0, .int .i64 a0_1, .int .i64 a0_2, .int .u64 a0_3, .int .u64 a0_4, .int .u64 a0_5] 29 (0, 0)) (by (with_reducible repeat (first | refine blk_drewN ?_ _ | refine blk_drew ?_ | refine blk_alloc ?_ _)); exact BK239.out) hb)
    have n3_ := Aside0.mk (below_step (by repeat (first | (with_reducible first | exact HB.out | apply below_alloc | apply pw_below_drewN | apply below_drew1 | refine below_set ?_ GE239.out) | exact HB.out)) hb)
    clear HO245
    clear BK239
    clear HB
    have HO245 := n0_
    have HO248 := n1_
    have BK239 := n2_
    have HB := n3_
    clear n0_ n1_ n2_ n3_
    (try clear hb)
    (try clear hb2)
    (try clear hk)
    (try clear hi)
    (try clear ho0)
    obtain ⟨Ao14, co14, eo14⟩ := Kd.R_slice HO245.out
    (first | subst eo14 | (injection eo14 with f1_ f2_ f3_; have f4_ := f1_.symm; have f5_ := f3_.symm; clear f1_ f2_ f3_; subst f4_; subst f5_))
    obtain ⟨Ao15, co15, eo15⟩ := Kd.S_slice HO248.out
    (first | subst eo15 | (injection eo15 with f1_ f2_ f3_; have f4_ := f1_.symm; have f5_ := f3_.symm; clear f1_ f2_ f3_; subst f4_; subst f5_))
    refine hK.out _ _ ⟨(blk_cell BK239.out 0).trans rfl, (blk_cell BK239.out 1).trans rfl, (blk_cell BK239.out 2).trans rfl, (blk_cell BK239.out 3).trans rfl, (blk_cell BK239.out 4).trans rfl, (blk_cell BK239.out 5).trans rfl⟩ (fun hHeld => ?_)
    clear hK K
    refine norm_ (a' := ?_) ?_ ?_
    rotate_left
    · show Act.put _ (some 16) _ = _
      simp only [Act.put, List.setIfInBounds_toArray, List.set_cons_zero, List.set_cons_succ, i64_w, i32_w]
      rfl
    refine one_ (i := 9) (N := some 18) #[true, true, true, true, true, true, true, true, true, true, false] rfl rfl (one_of HT_.out (by kernel_rfl)) (by decide) (fun K hK => ?_)
    refine goes_ Try.func30 (by kernel_rfl) rfl #[.iface 52 (.agg #[.int .i64 a0_0, .int .i64 a0_1, .int .i64 a0_2, .int .u64 a0_3, .int .u64 a0_4, .int .u64 a0_5]), .slice Ao14 y243.length co14, .slice Ao15 t246.length co15, .int .u64 a3] (by rfl) rfl rfl (by (try simp only [List.map_toArray, List.map_cons, List.map_nil]); first | done | rfl | (simp only [List.length_drop, List.length_take]; rfl)) ?_
    with_reducible refine (proof_DoorInner.calls k a0_0 a0_1 a0_2 a0_3 a0_4 a0_5 (fun k_ => some k_ = (.slice Ao14 y243.length co14 : Value).ownBlock) _ _ y243 _ _ t246 a3 t249 _ ?side1 ?side2 ?side3 A7.out).mono ?_
    (case side1 => first | exact Kd.R_V (Kd.R_tight rfl (Kd.R_types (Kd.R_apart' (HO245.out) (Kd.S_typed HO248.out) (by decide)) BK239.out (by decide))) | exact Kd.V_mono Kd.R_V (Kd.R_tight rfl (Kd.R_types (Kd.R_apart' (HO245.out) (Kd.S_typed HO248.out) (by decide)) BK239.out (by decide))) (fun k_ h_ => by simp only [and_assoc] at h_ ⊢; exact h_))
    (case side2 => repeat (first | exact (Kd.S_reads' HO248.out).2.2 | (with_reducible refine Kd.C_alloc ?_ _) | (with_reducible refine Kd.C_drewN ?_ _) | (with_reducible refine Kd.C_drew ?_)))
    (case side3 => exact (Kd.S_reads' HO248.out).2.1)
    rintro e w16 ⟨v250, rfl, ho0, hb⟩
    refine ⟨_, rfl, ?_⟩
    have n0_ := Aside0.mk (Kd.R_below (by (with_reducible repeat (first | apply Kd.R_alloc | apply Kd.R_drewN | apply Kd.R_drew)); exact HO245.out) hb)
    have n1_ := Aside0.mk (Kd.S_below (by (with_reducible repeat (first | apply Kd.S_alloc | apply Kd.S_drewN | apply Kd.S_drew)); exact HO248.out) hb)
    have n2_ := Aside0.mk (Kd.V_lower (Kd.V_mono (ok' := fun k_ => (w.heap.size ≤ k_) ∧ some k_ ≠ (.slice Ao15 t246.length co15 : Value).ownBlock ∧ k_ ≠ gb239) ho0 (fun k_ hk_ => ⟨Or.elim hk_ (fun hs_ => ((Kd.R_types (Kd.R_apart' (HO245.out) (Kd.S_typed HO248.out) (by decide)) BK239.out (by decide)).1 k_ hs_.symm).1.1) (fun hn_ => (Nat.le_trans (below_size (by repeat (first | (with_reducible first | exact HB.out | apply below_alloc | apply pw_below_drewN | apply below_drew1 | refine below_set ?_ GE239.out) | exact HB.out))) hn_)), Or.elim hk_ (fun hs_ => ((Kd.R_types (Kd.R_apart' (HO245.out) (Kd.S_typed HO248.out) (by decide)) BK239.out (by decide)).1 k_ hs_.symm).1.2) (fun hn_ => (Kd.fresh' (Kd.S_lt (by (with_reducible repeat (first | apply Kd.S_alloc | apply Kd.S_drewN | apply Kd.S_drew)); exact HO248.out)) k_ hn_)), Or.elim hk_ (fun hs_ => ((Kd.R_types (Kd.R_apart' (HO245.out) (Kd.S_typed HO248.out) (by decide)) BK239.out (by decide)).1 k_ hs_.symm).2) (fun hn_ => (Kd.freshB (g := gb239) (o := .cells #[.int .i64 a0_0, .int .i64 a0_1, .int .i64 a0_2, .int .u64 a0_3, .int .u64 a0_4, .int .u64 a0_5] 29 (0, 0)) (by (with_reducible repeat (first | refine blk_drewN ?_ _ | refine blk_drew ?_ | refine blk_alloc ?_ _)); exact BK239.out) k_ hn_))⟩)) (below_size (by repeat (first | (with_reducible first | exact HB.out | apply below_alloc | apply pw_below_drewN | apply below_drew1 | refine below_set ?_ GE239.out) | exact HB.out))))
    have n3_ := Aside0.mk (blk_below (g := gb239) (o := .cells #[.int .i64 a0_0, .int .i64 a0_1, .int .i64 a0_2, .int .u64 a0_3, .int .u64 a0_4, .int .u64 a0_5] 29 (0, 0)) (by (with_reducible repeat (first | refine blk_drewN ?_ _ | refine blk_drew ?_ | refine blk_alloc ?_ _)); exact BK239.out) hb)
    have n4_ := Aside0.mk (below_step (by repeat (first | (with_reducible first | exact HB.out | apply below_alloc | apply pw_below_drewN | apply below_drew1 | refine below_set ?_ GE239.out) | exact HB.out)) hb)
    clear HO245
    clear HO248
    clear BK239
    clear HB
    have HO245 := n0_
    have HO248 := n1_
    have HO251 := n2_
    have BK239 := n3_
    have HB := n4_
    clear n0_ n1_ n2_ n3_ n4_
    (try clear hb)
    (try clear hb2)
    (try clear hk)
    (try clear hi)
    (try clear ho0)
    refine hK.out _ _ ⟨(blk_cell BK239.out 0).trans rfl, (blk_cell BK239.out 1).trans rfl, (blk_cell BK239.out 2).trans rfl, (blk_cell BK239.out 3).trans rfl, (blk_cell BK239.out 4).trans rfl, (blk_cell BK239.out 5).trans rfl⟩ (fun hHeld => ?_)
    clear hK K
    refine norm_ (a' := ?_) ?_ ?_
    rotate_left
    · show Act.put _ (some 18) _ = _
      simp only [Act.put, List.setIfInBounds_toArray, List.set_cons_zero, List.set_cons_succ, i64_w, i32_w]
      rfl
    refine pure_ (i := 10) (N := some 8) (v := ?_) (a' := ?_) #[true, true, true, true, true, true, true, true, true, true, true] rfl rfl (any_of HT_.out (by kernel_rfl)) (fun _ _ _ h => h) (Or.inl ⟨by rfl, ?_⟩) ?_ ?_
    rotate_left
    · intro w'
      go_simp
      with_reducible rfl
    rotate_left
    · simp only [Act.put, List.setIfInBounds_toArray, List.set_cons_zero, List.set_cons_succ, i64_w, i32_w]
      rfl
    refine done_ (done_of HT_.out (by kernel_rfl)) ?_
    try go_wp2
    go_ret
    exact ⟨_, by first | rfl | (simp [errW_none, errW_some] <;> rfl) | (simp [*, errW_none, errW_some] <;> rfl), by (with_reducible repeat (first | apply Kd.V_alloc | apply Kd.V_drewN | apply Kd.V_drew)); exact Kd.V_mono HO251.out (fun _ hk => hk.1), by repeat (first | (with_reducible first | exact HB.out | apply below_alloc | apply pw_below_drewN | apply below_drew1 | refine below_set ?_ GE239.out) | exact HB.out)⟩
  · rw [if_neg c5] at H
    exact absurd H (by simp)

end Go.Proofs.Ytkmdkmlgahfcpaa.M

namespace Go.Proofs.Ytkmdkmlgahfcpaa.M
open Go.RowKit Go.Proofs.YtkmdkmlgahfcpaaW.PrintWords Go.Proofs.YtkmdkmlgahfcpaaW.PrintLast Go.Proofs.YtkmdkmlgahfcpaaW.PrintMore
attribute [local go_sem] max2_int min2_int max_two min_two max_three min_three max_four min_four   -- for this text's walks alone
set_option linter.unusedVariables false
set_option linter.unusedSimpArgs false

/-! ### spec_Terms: function 50 -/
def spec_Terms.f (a0_0 : Int) (a0_1 : Int) (a0_2 : Int) (a0_3 : Int) (a0_4 : Int) (a0_5 : Int) : Option (Bool) := some (a0_0 != 1)
set_option maxHeartbeats 8000000 in
set_option maxRecDepth 100000 in
theorem spec_Terms.calls (a0_0 : Int) (a0_1 : Int) (a0_2 : Int) (a0_3 : Int) (a0_4 : Int) (a0_5 : Int) (r : Bool) (w : World) (h : spec_Terms.f a0_0 a0_1 a0_2 a0_3 a0_4 a0_5 = some r) :
    Calls Try.prog 50 #[.agg #[.int .i64 a0_0, .int .i64 a0_1, .int .i64 a0_2, .int .u64 a0_3, .int .u64 a0_4, .int .u64 a0_5]] w fun e w' => e = .returned (.bool r) ∧ Below w.heap.size w w' := by
  have hu29 := Try.underlying29
  have HB := Aside0.mk (Below.refl w.heap.size w)
  have H : (some (a0_0 != 1)) = some r := h
  clear h
  obtain rfl := Option.some.inj H
  go_enter Try.func50, Try.ntmps50
  go_wp2_with (first | ((with_reducible refine gate_dst (N := 1) rfl ?_); refine box_event ?hg (N := 1) ?hd (cs := #[.int .i64 a0_0, .int .i64 a0_1, .int .i64 a0_2, .int .u64 a0_3, .int .u64 a0_4, .int .u64 a0_5]) (t := 29) ?hr ?_; (case hd => rfl); (case hg => rfl); (case hr => first | (go_simp; done) | (go_simp; rfl)); intro gb303 hg w2 hbox hb; have n0_ := Aside0.mk (below_step (by repeat (first | (with_reducible first | exact HB.out | apply below_alloc | apply pw_below_drewN | apply below_drew1) | exact HB.out)) hb); have n1_ := Aside0.mk (hbox); have n2_ := Aside0.mk ((by rw [hg]; exact (below_size (by repeat (first | (with_reducible first | exact HB.out | apply below_alloc | apply pw_below_drewN | apply below_drew1) | exact HB.out))) : w.heap.size ≤ gb303)); have n3_ := Aside0.mk ((by rw [hg]; exact (below_size (by repeat (first | (with_reducible first | exact HB.out | apply below_alloc | apply pw_below_drewN | apply below_drew1) | exact HB.out))) : w.heap.size ≤ gb303)); clear HB; have HB := n0_; have BK303 := n1_; have GW303 := n2_; have GE303 := n3_; clear n0_ n1_ n2_ n3_; clear hb hbox hg; have hcz3_0 : w2.cell? ⟨gb303, 0, none⟩ = some (.int .i64 a0_0) := (blk_cell BK303.out 0).trans rfl; have hcz3_1 : w2.cell? ⟨gb303, 1, none⟩ = some (.int .i64 a0_1) := (blk_cell BK303.out 1).trans rfl; have hcz3_2 : w2.cell? ⟨gb303, 2, none⟩ = some (.int .i64 a0_2) := (blk_cell BK303.out 2).trans rfl; have hcz3_3 : w2.cell? ⟨gb303, 3, none⟩ = some (.int .u64 a0_3) := (blk_cell BK303.out 3).trans rfl; have hcz3_4 : w2.cell? ⟨gb303, 4, none⟩ = some (.int .u64 a0_4) := (blk_cell BK303.out 4).trans rfl; have hcz3_5 : w2.cell? ⟨gb303, 5, none⟩ = some (.int .u64 a0_5) := (blk_cell BK303.out 5).trans rfl; have hfz3_0 := blk_frozen BK303.out 0; have hfz3_1 := blk_frozen BK303.out 1; have hfz3_2 := blk_frozen BK303.out 2; have hfz3_3 := blk_frozen BK303.out 3; have hfz3_4 := blk_frozen BK303.out 4; have hfz3_5 := blk_frozen BK303.out 5))
  go_ret
  exact ⟨by first | rfl | (simp [errW_none, errW_some] <;> rfl) | (simp [*, errW_none, errW_some] <;> rfl), by repeat (first | (with_reducible first | exact HB.out | apply below_alloc | apply pw_below_drewN | apply below_drew1 | refine below_set ?_ GE303.out) | exact HB.out)⟩

end Go.Proofs.Ytkmdkmlgahfcpaa.M

namespace Go.Proofs.Ytkmdkmlgahfcpaa.M
open Go.RowKit Go.Proofs.YtkmdkmlgahfcpaaW.PrintWords Go.Proofs.YtkmdkmlgahfcpaaW.PrintLast Go.Proofs.YtkmdkmlgahfcpaaW.PrintMore
attribute [local go_sem] max2_int min2_int max_two min_two max_three min_three max_four min_four   -- for this text's walks alone
set_option linter.unusedVariables false
set_option linter.unusedSimpArgs false

/-! ### spec_word: function 51 -/
mutual
def spec_word.l0 : Nat → Int → List Int → Int → Int → Int → Int → Int → Int → Int → Int → Option (List Int)
  | 0, _, _, _, _, _, _, _, _, _, _ => none
  | k + 1, x1, x12, x13, x14, x305000, x305001, x305002, x305003, x305004, x305005 => if x14 < x13 then (if 0 ≤ x14 then (if x14 < (x12.length : Int) then (spec_word.l0 k (IntKind.u64.wrap ((Go.bits .xor .u64 x1 (IntKind.u64.wrap (rd x12 x14))) * 1099511628211)) x12 x13 (wrap64 (x14 + 1)) x305000 x305001 x305002 x305003 x305004 x305005) else (none)) else (none)) else (if x305002 < 1 then (spec_word.j1 k x1 x305002 true) else (spec_word.j1 k x1 x305002 (decide (x305002 > 8))))
def spec_word.j1 : Nat → Int → Int → Bool → Option (List Int)
  | 0, _, _, _ => none
  | k + 1, x1, x9, x31 => if x31 = true then (spec_word.j2 k x1 8) else (spec_word.j2 k x1 x9)
def spec_word.j2 : Nat → Int → Int → Option (List Int)
  | 0, _, _ => none
  | k + 1, x1, x9 => spec_word.l1 k x1 ([] : List Int) (wrap64 (x9 - 1))
def spec_word.l1 : Nat → Int → List Int → Int → Option (List Int)
  | 0, _, _, _ => none
  | k + 1, x1, x10, x11 => if x11 ≥ 0 then (if 0 ≤ (wrap64 (8 * x11)) then (if x10.length < 140737488355328 then (spec_word.l1 k x1 (x10 ++ [(shr .u64 x1 (wrap64 (8 * x11))) % 256]) (wrap64 (x11 - 1))) else (none)) else (none)) else (some x10)
end
def spec_word.f (k : Nat) (a0_0 : Int) (a0_1 : Int) (a0_2 : Int) (a0_3 : Int) (a0_4 : Int) (a0_5 : Int) (a1 : Int) (l2 : List Int) : Option (List Int) := spec_word.l0 k a1 l2 (l2.length : Int) 0 a0_0 a0_1 a0_2 a0_3 a0_4 a0_5
theorem spec_word.mono_l : ∀ k, (∀ y0 y1 y2 y3 y4 y5 y6 y7 y8 y9, LeO (spec_word.l0 k y0 y1 y2 y3 y4 y5 y6 y7 y8 y9) (spec_word.l0 (k + 1) y0 y1 y2 y3 y4 y5 y6 y7 y8 y9)) ∧ (∀ y0 y1 y2, LeO (spec_word.j1 k y0 y1 y2) (spec_word.j1 (k + 1) y0 y1 y2)) ∧ (∀ y0 y1, LeO (spec_word.j2 k y0 y1) (spec_word.j2 (k + 1) y0 y1)) ∧ (∀ y0 y1 y2, LeO (spec_word.l1 k y0 y1 y2) (spec_word.l1 (k + 1) y0 y1 y2))
  | 0 => ⟨fun _ _ _ _ _ _ _ _ _ _ r h => by simp [spec_word.l0] at h, fun _ _ _ r h => by simp [spec_word.j1] at h, fun _ _ r h => by simp [spec_word.j2] at h, fun _ _ _ r h => by simp [spec_word.l1] at h⟩
  | k + 1 => by
    obtain ⟨ih0, ih1, ih2, ih3⟩ := spec_word.mono_l k
    refine ⟨?_, ?_, ?_, ?_⟩
    · intro y0 y1 y2 y3 y4 y5 y6 y7 y8 y9
      unfold spec_word.l0
      repeat' first
      | (with_reducible exact ih0 _ _ _ _ _ _ _ _ _ _)
      | (with_reducible exact ih1 _ _ _)
      | (with_reducible exact ih2 _ _)
      | (with_reducible exact ih3 _ _ _)
      | (with_reducible exact LeO.refl _)
      | (with_reducible exact LeO.none _)
      | (with_reducible refine LeO.ite ?_ ?_)
      | (with_reducible refine LeO.bind ?_ (fun _ => ?_))
      | exact ih0 _ _ _ _ _ _ _ _ _ _
      | exact ih1 _ _ _
      | exact ih2 _ _
      | exact ih3 _ _ _
      | exact LeO.none _
      | refine LeO.ite ?_ ?_
      | refine LeO.bind ?_ (fun _ => ?_)
    · intro y0 y1 y2
      unfold spec_word.j1
      repeat' first
      | (with_reducible exact ih0 _ _ _ _ _ _ _ _ _ _)
      | (with_reducible exact ih1 _ _ _)
      | (with_reducible exact ih2 _ _)
      | (with_reducible exact ih3 _ _ _)
      | (with_reducible exact LeO.refl _)
      | (with_reducible exact LeO.none _)
      | (with_reducible refine LeO.ite ?_ ?_)
      | (with_reducible refine LeO.bind ?_ (fun _ => ?_))
      | exact ih0 _ _ _ _ _ _ _ _ _ _
      | exact ih1 _ _ _
      | exact ih2 _ _
      | exact ih3 _ _ _
      | exact LeO.none _
      | refine LeO.ite ?_ ?_
      | refine LeO.bind ?_ (fun _ => ?_)
    · intro y0 y1
      unfold spec_word.j2
      repeat' first
      | (with_reducible exact ih0 _ _ _ _ _ _ _ _ _ _)
      | (with_reducible exact ih1 _ _ _)
      | (with_reducible exact ih2 _ _)
      | (with_reducible exact ih3 _ _ _)
      | (with_reducible exact LeO.refl _)
      | (with_reducible exact LeO.none _)
      | (with_reducible refine LeO.ite ?_ ?_)
      | (with_reducible refine LeO.bind ?_ (fun _ => ?_))
      | exact ih0 _ _ _ _ _ _ _ _ _ _
      | exact ih1 _ _ _
      | exact ih2 _ _
      | exact ih3 _ _ _
      | exact LeO.none _
      | refine LeO.ite ?_ ?_
      | refine LeO.bind ?_ (fun _ => ?_)
    · intro y0 y1 y2
      unfold spec_word.l1
      repeat' first
      | (with_reducible exact ih0 _ _ _ _ _ _ _ _ _ _)
      | (with_reducible exact ih1 _ _ _)
      | (with_reducible exact ih2 _ _)
      | (with_reducible exact ih3 _ _ _)
      | (with_reducible exact LeO.refl _)
      | (with_reducible exact LeO.none _)
      | (with_reducible refine LeO.ite ?_ ?_)
      | (with_reducible refine LeO.bind ?_ (fun _ => ?_))
      | exact ih0 _ _ _ _ _ _ _ _ _ _
      | exact ih1 _ _ _
      | exact ih2 _ _
      | exact ih3 _ _ _
      | exact LeO.none _
      | refine LeO.ite ?_ ?_
      | refine LeO.bind ?_ (fun _ => ?_)
theorem spec_word.mono : ∀ a0 a1 a2 a3 a4 a5 a6 a7 k, LeO (spec_word.f k a0 a1 a2 a3 a4 a5 a6 a7) (spec_word.f (k + 1) a0 a1 a2 a3 a4 a5 a6 a7) := by
  intro a0 a1 a2 a3 a4 a5 a6 a7 k
  obtain ⟨ih0, ih1, ih2, ih3⟩ := spec_word.mono_l k
  unfold spec_word.f
  repeat' first
      | (with_reducible exact ih0 _ _ _ _ _ _ _ _ _ _)
      | (with_reducible exact ih1 _ _ _)
      | (with_reducible exact ih2 _ _)
      | (with_reducible exact ih3 _ _ _)
      | (with_reducible exact LeO.refl _)
      | (with_reducible exact LeO.none _)
      | (with_reducible refine LeO.ite ?_ ?_)
      | (with_reducible refine LeO.bind ?_ (fun _ => ?_))
      | exact ih0 _ _ _ _ _ _ _ _ _ _
      | exact ih1 _ _ _
      | exact ih2 _ _
      | exact ih3 _ _ _
      | exact LeO.none _
      | refine LeO.ite ?_ ?_
      | refine LeO.bind ?_ (fun _ => ?_)
set_option maxHeartbeats 8000000 in
set_option maxRecDepth 100000 in
theorem spec_word.calls (k : Nat) (a0_0 : Int) (a0_1 : Int) (a0_2 : Int) (a0_3 : Int) (a0_4 : Int) (a0_5 : Int) (a1 : Int) (A2 : Option Addr) (c2 : Nat) (l2 : List Int) (r : List Int) (w : World) (hr2 : Kd.C (Kd.int .u8) w A2 l2.length l2) (hc2 : l2.length ≤ c2) (h : spec_word.f k a0_0 a0_1 a0_2 a0_3 a0_4 a0_5 a1 l2 = some r) :
    Calls Try.prog 51 #[.agg #[.int .i64 a0_0, .int .i64 a0_1, .int .i64 a0_2, .int .u64 a0_3, .int .u64 a0_4, .int .u64 a0_5], .int .u64 a1, .slice A2 l2.length c2] w fun e w' => ∃ v0_ : Value, e = .returned (v0_) ∧ Kd.R (Kd.int .u8) 5 w' w.heap.size (fun _ => True) v0_ r ∧ Below w.heap.size w w' := by
  have hu29 := Try.underlying29
  have HR2 := Aside0.mk hr2
  have HC2 := Aside0.mk hc2
  clear hr2 hc2
  have HB := Aside0.mk (Below.refl w.heap.size w)
  have H : (spec_word.l0 k a1 l2 (l2.length : Int) 0 a0_0 a0_1 a0_2 a0_3 a0_4 a0_5) = some r := h
  clear h
  have H' := Aside0.mk H
  clear H
  go_enter Try.func51, Try.ntmps51
  go_wp2_with (first | ((with_reducible refine gate_dst (N := 3) rfl ?_); refine box_event ?hg (N := 3) ?hd (cs := #[.int .i64 a0_0, .int .i64 a0_1, .int .i64 a0_2, .int .u64 a0_3, .int .u64 a0_4, .int .u64 a0_5]) (t := 29) ?hr ?_; (case hd => rfl); (case hg => rfl); (case hr => first | (go_simp; done) | (go_simp; rfl)); intro gb304 hg w4 hbox hb; have n0_ := Aside0.mk (below_step (by repeat (first | (with_reducible first | exact HB.out | apply below_alloc | apply pw_below_drewN | apply below_drew1) | exact HB.out)) hb); have n1_ := Aside0.mk (hbox); have n2_ := Aside0.mk ((by rw [hg]; exact (below_size (by repeat (first | (with_reducible first | exact HB.out | apply below_alloc | apply pw_below_drewN | apply below_drew1) | exact HB.out))) : w.heap.size ≤ gb304)); have n3_ := Aside0.mk ((by rw [hg]; exact (below_size (by repeat (first | (with_reducible first | exact HB.out | apply below_alloc | apply pw_below_drewN | apply below_drew1) | exact HB.out))) : w.heap.size ≤ gb304)); clear HB; have HB := n0_; have BK304 := n1_; have GW304 := n2_; have GE304 := n3_; clear n0_ n1_ n2_ n3_; clear hb hbox hg))
  go_loopg [1, 14] k (fun kq v1 v14 w' => ∃ (x1_1 : Int) (x14_1 : Int), v1 = .int .u64 x1_1 ∧ v14 = .int .i64 x14_1 ∧ Aside0 (spec_word.l0 kq x1_1 l2 (l2.length : Int) x14_1 a0_0 a0_1 a0_2 a0_3 a0_4 a0_5 = some r) ∧ Aside0 (kq ≤ k) ∧ Aside0 (w'.heap[gb304]? = some (.cells #[.int .i64 a0_0, .int .i64 a0_1, .int .i64 a0_2, .int .u64 a0_3, .int .u64 a0_4, .int .u64 a0_5] 29 (0, 0))) ∧ Aside0 (Below w.heap.size w w'))
  case atStart => exact ⟨(a1), (0), (by first | rfl | (simp; done) | (simp [*]; done)), (by first | rfl | (simp; done) | (simp [*]; done)), H', ⟨Nat.le_refl _⟩, ⟨by (with_reducible repeat (first | refine blk_drewN ?_ _ | refine blk_drew ?_ | refine blk_alloc ?_ _)); exact BK304.out⟩, ⟨by repeat (first | (with_reducible first | exact HB.out | apply below_alloc | apply pw_below_drewN | apply below_drew1 | refine below_set ?_ GE304.out) | exact HB.out)⟩⟩
  case round =>
    clear H'
    try clear c2
    try clear p2
    obtain ⟨x1_1, x14_1, rfl, rfl, HA, HK1, BK304, HB⟩ := hrel
    cases gk with
    | zero => exact absurd HA.out (by simp [spec_word.l0])
    | succ k1 =>
      have H := HA.out
      clear HA
      simp only [spec_word.l0] at H
      by_cases c5 : x14_1 < (l2.length : Int)
      · rw [if_pos c5] at H
        have c5b0 : decide (x14_1 < (l2.length : Int)) = true := decide_eq_true c5
        clear c5
        by_cases c6 : 0 ≤ x14_1
        · rw [if_pos c6] at H
          have c6b0 : decide (0 ≤ x14_1) = true := decide_eq_true c6
          clear c6
          by_cases c7 : x14_1 < (l2.length : Int)
          · rw [if_pos c7] at H
            have c7b0 : decide (x14_1 < (l2.length : Int)) = true := decide_eq_true c7
            clear c7
            have H' := Aside0.mk H
            clear H
            have p305 : 0 ≤ (x14_1 : Int) := of_decide_eq_true (by first | (with_reducible assumption) | assumption)
            have q305 : x14_1 < (l2.length : Int) := of_decide_eq_true (by first | (with_reducible assumption) | assumption)
            obtain ⟨ad305, e305, hx305_0⟩ := Kd.at_int HR2.out x14_1 p305 q305
            cases e305
            replace hx305_0 := (HB.out.cell (World.block_lt_of_cell? w _ hx305_0)).trans hx305_0
            replace p305 := eq_true p305
            replace q305 := eq_true q305
            go_wp2
            go_roundg k1
            case measure => have := HK1.out; omega
            case rel => exact ⟨(IntKind.u64.wrap ((Go.bits .xor .u64 x1_1 (IntKind.u64.wrap (rd l2 x14_1))) * 1099511628211)), (wrap64 (x14_1 + 1)), (by first | rfl | (simp; done) | (simp [*]; done)), (by first | rfl | (simp; done) | (simp [*]; done)), H', ⟨by have := HK1.out; omega⟩, ⟨by (with_reducible repeat (first | refine blk_drewN ?_ _ | refine blk_drew ?_ | refine blk_alloc ?_ _)); exact BK304.out⟩, ⟨by repeat (first | (with_reducible first | exact HB.out | apply below_alloc | apply pw_below_drewN | apply below_drew1 | refine below_set ?_ GE304.out) | exact HB.out)⟩⟩
          · rw [if_neg c7] at H
            exact absurd H (by simp)
        · rw [if_neg c6] at H
          exact absurd H (by simp)
      · rw [if_neg c5] at H
        have c5b0 : decide (x14_1 < (l2.length : Int)) = false := decide_eq_false c5
        clear c5
        have HC8 := Aside0.mk H
        clear H
        have hcz9_0 : wr.cell? ⟨gb304, 0, none⟩ = some (.int .i64 a0_0) := (blk_cell BK304.out 0).trans rfl
        have hcz9_1 : wr.cell? ⟨gb304, 1, none⟩ = some (.int .i64 a0_1) := (blk_cell BK304.out 1).trans rfl
        have hcz9_2 : wr.cell? ⟨gb304, 2, none⟩ = some (.int .i64 a0_2) := (blk_cell BK304.out 2).trans rfl
        have hcz9_3 : wr.cell? ⟨gb304, 3, none⟩ = some (.int .u64 a0_3) := (blk_cell BK304.out 3).trans rfl
        have hcz9_4 : wr.cell? ⟨gb304, 4, none⟩ = some (.int .u64 a0_4) := (blk_cell BK304.out 4).trans rfl
        have hcz9_5 : wr.cell? ⟨gb304, 5, none⟩ = some (.int .u64 a0_5) := (blk_cell BK304.out 5).trans rfl
        have hfz9_0 := blk_frozen BK304.out 0
        have hfz9_1 := blk_frozen BK304.out 1
        have hfz9_2 := blk_frozen BK304.out 2
        have hfz9_3 := blk_frozen BK304.out 3
        have hfz9_4 := blk_frozen BK304.out 4
        have hfz9_5 := blk_frozen BK304.out 5
        go_upto_region 7 with (fail)
        go_cut [31] (fun v31 wc => ∃ (kq : Nat) (x31_7 : Bool), v31 = .bool x31_7 ∧ Aside0 (spec_word.j1 kq x1_1 a0_2 x31_7 = some r) ∧ Aside0 (kq ≤ k1) ∧ Aside0 (wc.heap[gb304]? = some (.cells #[.int .i64 a0_0, .int .i64 a0_1, .int .i64 a0_2, .int .u64 a0_3, .int .u64 a0_4, .int .u64 a0_5] 29 (0, 0))) ∧ Aside0 (Below w.heap.size w wc))
        case first =>
          have H := HC8.out
          clear HC8
          by_cases c10 : a0_2 < 1
          · rw [if_pos c10] at H
            have c10b0 : decide (a0_2 < 1) = true := decide_eq_true c10
            clear c10
            (first | rw [c10b0] | (simp only [i64_w, i32_w]; rw [c10b0]) | skip)
            have H' := Aside0.mk H
            clear H
            go_wp2
            go_meet
            case rel => exact ⟨_, (true), (by first | rfl | (simp; done) | (simp [*]; done)), H', ⟨by have := HK1.out; first | omega | exact Nat.le_refl _⟩, ⟨by (with_reducible repeat (first | refine blk_drewN ?_ _ | refine blk_drew ?_ | refine blk_alloc ?_ _)); exact BK304.out⟩, ⟨by repeat (first | (with_reducible first | exact HB.out | apply below_alloc | apply pw_below_drewN | apply below_drew1 | refine below_set ?_ GE304.out) | exact HB.out)⟩⟩
          · rw [if_neg c10] at H
            have c10b0 : decide (a0_2 < 1) = false := decide_eq_false c10
            clear c10
            (first | rw [c10b0] | (simp only [i64_w, i32_w]; rw [c10b0]) | skip)
            have H' := Aside0.mk H
            clear H
            go_wp2
            go_meet
            case rel => exact ⟨_, (decide (a0_2 > 8)), (by first | rfl | (simp; done) | (simp [*]; done)), H', ⟨by have := HK1.out; first | omega | exact Nat.le_refl _⟩, ⟨by (with_reducible repeat (first | refine blk_drewN ?_ _ | refine blk_drew ?_ | refine blk_alloc ?_ _)); exact BK304.out⟩, ⟨by repeat (first | (with_reducible first | exact HB.out | apply below_alloc | apply pw_below_drewN | apply below_drew1 | refine below_set ?_ GE304.out) | exact HB.out)⟩⟩
        case rest =>
          clear HC8
          try clear c1
          try clear c2
          try clear p2
          try clear p3
          try clear q3
          try clear hx3
          try clear c5
          try clear c5b0
          try clear c6
          try clear c6b0
          try clear p6
          try clear c7
          try clear c7b0
          try clear c10
          try clear c10b0
          try clear hcz9_0
          try clear hcz9_1
          try clear hcz9_2
          try clear hcz9_3
          try clear hcz9_4
          try clear hcz9_5
          try clear hfz9_0
          try clear hfz9_1
          try clear hfz9_2
          try clear hfz9_3
          try clear hfz9_4
          try clear hfz9_5
          try clear hx305_0
          try clear p2
          try clear p305
          try clear q305
          obtain ⟨kq, x31_7, rfl, HA, HJ7, BK304, HB⟩ := hcut
          cases kq with
          | zero => exact absurd HA.out (by simp [spec_word.j1])
          | succ kj7 =>
            have H := HA.out
            clear HA
            simp only [spec_word.j1] at H
            have HC11 := Aside0.mk H
            clear H
            go_upto_if 31 with (fail)
            go_cut [9] (fun v9 wc => ∃ (kq : Nat) (x9_10 : Int), v9 = .int .i64 x9_10 ∧ Aside0 (spec_word.j2 kq x1_1 x9_10 = some r) ∧ Aside0 (kq ≤ kj7) ∧ Aside0 (wc.heap[gb304]? = some (.cells #[.int .i64 a0_0, .int .i64 a0_1, .int .i64 a0_2, .int .u64 a0_3, .int .u64 a0_4, .int .u64 a0_5] 29 (0, 0))) ∧ Aside0 (Below w.heap.size w wc))
            case first =>
              have H := HC11.out
              clear HC11
              by_cases c12 : x31_7 = true
              · subst c12
                have H1 : (spec_word.j2 kj7 x1_1 8) = some r := by rw [if_pos rfl] at H; exact H
                clear H
                have H := H1
                clear H1
                have H' := Aside0.mk H
                clear H
                go_wp2
                go_meet
                case rel => exact ⟨_, (8), (by first | rfl | (simp; done) | (simp [*]; done)), H', ⟨by have := HK1.out; have := HJ7.out; first | omega | exact Nat.le_refl _⟩, ⟨by (with_reducible repeat (first | refine blk_drewN ?_ _ | refine blk_drew ?_ | refine blk_alloc ?_ _)); exact BK304.out⟩, ⟨by repeat (first | (with_reducible first | exact HB.out | apply below_alloc | apply pw_below_drewN | apply below_drew1 | refine below_set ?_ GE304.out) | exact HB.out)⟩⟩
              · replace c12 := Bool.eq_false_iff.mpr c12
                subst c12
                have H1 : (spec_word.j2 kj7 x1_1 a0_2) = some r := by rw [if_neg (show ¬ (false = true) by decide)] at H; exact H
                clear H
                have H := H1
                clear H1
                have H' := Aside0.mk H
                clear H
                go_wp2
                go_meet
                case rel => exact ⟨_, (a0_2), (by first | rfl | (simp; done) | (simp [*]; done)), H', ⟨by have := HK1.out; have := HJ7.out; first | omega | exact Nat.le_refl _⟩, ⟨by (with_reducible repeat (first | refine blk_drewN ?_ _ | refine blk_drew ?_ | refine blk_alloc ?_ _)); exact BK304.out⟩, ⟨by repeat (first | (with_reducible first | exact HB.out | apply below_alloc | apply pw_below_drewN | apply below_drew1 | refine below_set ?_ GE304.out) | exact HB.out)⟩⟩
            case rest =>
              clear HC11
              try clear c1
              try clear c2
              try clear p2
              try clear p3
              try clear q3
              try clear hx3
              try clear c5
              try clear c5b0
              try clear c6
              try clear c6b0
              try clear p6
              try clear c7
              try clear c7b0
              try clear c10
              try clear c10b0
              try clear c12
              try clear hcz9_0
              try clear hcz9_1
              try clear hcz9_2
              try clear hcz9_3
              try clear hcz9_4
              try clear hcz9_5
              try clear hfz9_0
              try clear hfz9_1
              try clear hfz9_2
              try clear hfz9_3
              try clear hfz9_4
              try clear hfz9_5
              try clear hx305_0
              try clear p2
              try clear p3
              try clear p305
              try clear p6
              try clear q3
              try clear q305
              obtain ⟨kq, x9_10, rfl, HA, HJ10, BK304, HB⟩ := hcut
              cases kq with
              | zero => exact absurd HA.out (by simp [spec_word.j2])
              | succ kj10 =>
                have H := HA.out
                clear HA
                simp only [spec_word.j2] at H
                have H' := Aside0.mk H
                clear H
                go_wp2
                go_loopg [10, 11] kj10 (fun kq v10 v11 w' => ∃ (x10_4 : List Int) (x11_4 : Int), v11 = .int .i64 x11_4 ∧ Aside0 (spec_word.l1 kq x1_1 x10_4 x11_4 = some r) ∧ Aside0 (kq ≤ kj10) ∧ Aside0 (Kd.R (Kd.int .u8) 5 w' w.heap.size (fun _ => True) v10 x10_4) ∧ Aside0 (w'.heap[gb304]? = some (.cells #[.int .i64 a0_0, .int .i64 a0_1, .int .i64 a0_2, .int .u64 a0_3, .int .u64 a0_4, .int .u64 a0_5] 29 (0, 0))) ∧ Aside0 (Below w.heap.size w w'))
                case atStart => exact ⟨(([] : List Int)), (wrap64 (x9_10 - 1)), (by first | rfl | (simp; done) | (simp [*]; done)), H', ⟨Nat.le_refl _⟩, ⟨by first | exact Kd.R_nil _ _ _ _ _ | exact Kd.N_nil _ _ _ _ _ | exact Kd.V_nil _ _ _ _ _ | exact Kd.Q_nil _ _ _ _ _ | exact Kd.S_nil _ _ _ _ _⟩, ⟨by (with_reducible repeat (first | refine blk_drewN ?_ _ | refine blk_drew ?_ | refine blk_alloc ?_ _)); exact BK304.out⟩, ⟨by repeat (first | (with_reducible first | exact HB.out | apply below_alloc | apply pw_below_drewN | apply below_drew1 | refine below_set ?_ GE304.out) | exact HB.out)⟩⟩
                case round =>
                  clear H'
                  try clear c1
                  try clear c2
                  try clear p2
                  try clear p3
                  try clear q3
                  try clear hx3
                  try clear c5
                  try clear c5b0
                  try clear c6
                  try clear c6b0
                  try clear p6
                  try clear c7
                  try clear c7b0
                  try clear c10
                  try clear c10b0
                  try clear c12
                  try clear hcz9_0
                  try clear hcz9_1
                  try clear hcz9_2
                  try clear hcz9_3
                  try clear hcz9_4
                  try clear hcz9_5
                  try clear hfz9_0
                  try clear hfz9_1
                  try clear hfz9_2
                  try clear hfz9_3
                  try clear hfz9_4
                  try clear hfz9_5
                  try clear hx305_0
                  try clear p2
                  try clear p3
                  try clear p305
                  try clear p6
                  try clear q3
                  try clear q305
                  obtain ⟨x10_4, x11_4, rfl, HA, HK4, HO_10, BK304, HB⟩ := hrel
                  cases gk with
                  | zero => exact absurd HA.out (by simp [spec_word.l1])
                  | succ k4 =>
                    have H := HA.out
                    clear HA
                    simp only [spec_word.l1] at H
                    by_cases c13 : x11_4 ≥ 0
                    · rw [if_pos c13] at H
                      have c13b0 : decide (0 ≤ x11_4) = true := decide_eq_true c13
                      clear c13
                      obtain ⟨ji14, hji14⟩ : ∃ j_ : Int, (wrap64 (8 * x11_4)) = j_ := ⟨_, rfl⟩
                      replace H : (if 0 ≤ (ji14) then (if x10_4.length < 140737488355328 then (spec_word.l1 k4 x1_1 (x10_4 ++ [(shr .u64 x1_1 (ji14)) % 256]) (wrap64 (x11_4 - 1))) else (none)) else (none)) = some r := by first | (rw [hji14] at H; exact H) | (simp only [hji14] at H ⊢; exact H)
                      have hji14w : (IntKind.i64.wrap (8 * x11_4)) = ji14 := (i64_w _).trans hji14
                      by_cases c15 : 0 ≤ (ji14)
                      · rw [if_pos c15] at H
                        have c15b0 := eq_true c15
                        have c15b1 : decide (0 ≤ (ji14)) = true := decide_eq_true c15
                        clear c15
                        obtain ⟨ji16, hji16⟩ : ∃ j_ : Int, (shr .u64 x1_1 (ji14)) = j_ := ⟨_, rfl⟩
                        replace H : (if x10_4.length < 140737488355328 then (spec_word.l1 k4 x1_1 (x10_4 ++ [(ji16) % 256]) (wrap64 (x11_4 - 1))) else (none)) = some r := by first | (rw [hji16] at H; exact H) | (simp only [hji16] at H ⊢; exact H)
                        have hji16_ : (x1_1 / 2 ^ min (ji14).toNat 64) = ji16 := hji16
                        have hji16z : (ji14) ≤ 64 → (x1_1 / 2 ^ (ji14).toNat) = ji16 := shr_small hji16
                        by_cases c17 : x10_4.length < 140737488355328
                        · rw [if_pos c17] at H
                          have LMc17 := Aside0.mk c17
                          clear c17
                          obtain ⟨y306, hy306⟩ : ∃ y_ : List Int, y_ = (x10_4 ++ [(ji16) % 256]) := ⟨_, rfl⟩
                          replace H : (spec_word.l1 k4 x1_1 y306 (wrap64 (x11_4 - 1))) = some r := by first | (rw [hy306]; with_reducible exact H) | (have H2_ := (Option.bind_some _ _).symm.trans H; rw [hy306]; with_reducible exact H2_) | (have H2_ := (Option.bind_some _ _).symm.trans H; with_reducible exact H2_) | with_reducible exact H | (rw [hy306]; exact H) | exact H
                          have Ny306 := Aside0.mk hy306
                          clear hy306
                          have H' := Aside0.mk H
                          clear H
                          go_wp2_with (first | ((with_reducible refine gate_builtin (b := .append) (xs := #[.tmp 38, .tmp 44]) rfl ?_); at_builtin; refine Kd.R_append (Kd.int .u8) (w0 := w) w.heap.size rfl (.tmp 38) (.tmp 44) 30 5 (.int .u8 0) 1 rfl Try.underlying30 info5 rfl (by decide) (by omega) u10 x10_4 ((ji16) % 256) [.int .u8 ((ji16) % 256)] (fun _ => True) (fun _ => False) rfl rfl ?aP (fun _ hk => hk.elim) ?aF ?aO ?aB ?aS ?aL ?_; (case aP => exact rfl); (case aB => exact (by repeat (first | (with_reducible first | exact HB.out | apply below_alloc | apply pw_below_drewN | apply below_drew1 | refine below_set ?_ GE304.out) | exact HB.out))); (case aF => exact (fun _ _ => trivial)); (case aO => exact (by (with_reducible repeat (first | apply Kd.R_alloc | apply Kd.R_drewN | apply Kd.R_drew)); exact HO_10.out)); (case aS => exact (below_size (by repeat (first | (with_reducible first | exact HB.out | apply below_alloc | apply pw_below_drewN | apply below_drew1 | refine below_set ?_ GE304.out) | exact HB.out)))); (case aL => have := LMc17.out; omega); intro v307 w18 ho hb hg hat; rw [← Ny306.out] at ho; have n0_ := Aside0.mk (blk_grown (g := gb304) (o := .cells #[.int .i64 a0_0, .int .i64 a0_1, .int .i64 a0_2, .int .u64 a0_3, .int .u64 a0_4, .int .u64 a0_5] 29 (0, 0)) (by (with_reducible repeat (first | refine blk_drewN ?_ _ | refine blk_drew ?_ | refine blk_alloc ?_ _)); exact BK304.out) hg (Kd.R_ne HO_10.out BK304.out (by decide))); have n1_ := Aside0.mk (hb); have n2_ := Aside0.mk (ho); clear BK304; clear HB; clear HO_10; have BK304 := n0_; have HB := n1_; have HO308 := n2_; clear n0_ n1_ n2_; clear ho hb hg hat))
                          go_roundg k4
                          case measure => have := HK1.out; have := HJ7.out; have := HJ10.out; have := HK4.out; omega
                          case rel => exact ⟨(y306), (wrap64 (x11_4 - 1)), (by first | rfl | (simp; done) | (simp [*]; done)), H', ⟨by have := HK1.out; have := HJ7.out; have := HJ10.out; have := HK4.out; omega⟩, ⟨by (with_reducible repeat (first | apply Kd.R_alloc | apply Kd.R_drewN | apply Kd.R_drew)); exact HO308.out⟩, ⟨by (with_reducible repeat (first | refine blk_drewN ?_ _ | refine blk_drew ?_ | refine blk_alloc ?_ _)); exact BK304.out⟩, ⟨by repeat (first | (with_reducible first | exact HB.out | apply below_alloc | apply pw_below_drewN | apply below_drew1 | refine below_set ?_ GE304.out) | exact HB.out)⟩⟩
                        · rw [if_neg c17] at H
                          exact absurd H (by simp)
                      · rw [if_neg c15] at H
                        exact absurd H (by simp)
                    · rw [if_neg c13] at H
                      have c13b0 : decide (0 ≤ x11_4) = false := decide_eq_false c13
                      clear c13
                      obtain rfl := Option.some.inj H
                      go_wp2
                      go_ret
                      exact ⟨_, by first | rfl | (simp [errW_none, errW_some] <;> rfl) | (simp [*, errW_none, errW_some] <;> rfl), by (with_reducible repeat (first | apply Kd.R_alloc | apply Kd.R_drewN | apply Kd.R_drew)); exact HO_10.out, by repeat (first | (with_reducible first | exact HB.out | apply below_alloc | apply pw_below_drewN | apply below_drew1 | refine below_set ?_ GE304.out) | exact HB.out)⟩

end Go.Proofs.Ytkmdkmlgahfcpaa.M

