-- Written by a program of ours (wip/xp) out of the translation; Lean checks it.
import Derived.Test.YtkmdkmlgahfcpaaMm1
namespace Go.Proofs.Ytkmdkmlgahfcpaa.M
open Go.RowKit Go.Proofs.YtkmdkmlgahfcpaaW.PrintWords Go.Proofs.YtkmdkmlgahfcpaaW.PrintLast Go.Proofs.YtkmdkmlgahfcpaaW.PrintMore
attribute [local go_sem] max2_int min2_int max_two min_two max_three min_three max_four min_four   -- for this text's walks alone
set_option linter.unusedVariables false
set_option linter.unusedSimpArgs false

/-! ### proof_RootFromInclusionProof: function 28 -/
def proof_RootFromInclusionProof.f (k : Nat) (a0_0 : Int) (a0_1 : Int) (a0_2 : Int) (a0_3 : Int) (a0_4 : Int) (a0_5 : Int) (a1 : Int) (a2 : Int) (l3 : List Int) (l4 : List (List Int)) : Option (List Int × Option Int) := if a1 ≥ a2 then ((errors_New.f (⟨#[105, 110, 100, 101, 120, 32, 105, 115, 32, 98, 101, 121, 111, 110, 100, 32, 115, 105, 122, 101, 32, 62]⟩ : ByteArray)).bind fun t158 => (some (([] : List Int), t158))) else ((impl_toy_Size.f a0_0 a0_1 a0_2 a0_3 a0_4 a0_5).bind fun t159 => (if (l3.length : Int) = t159 then ((proof_decompInclProof.f a1 a2).bind fun bt161 => (if (l4.length : Int) = (wrap64 (bt161.1 + bt161.2)) then (if 0 ≤ bt161.1 then (if bt161.1 ≤ (l4.length : Int) then ((proof_chainInner.f k a0_0 a0_1 a0_2 a0_3 a0_4 a0_5 l3 (l4.take (bt161.1 : Int).toNat) a1).bind fun t167 => ((proof_chainBorderRight.f k a0_0 a0_1 a0_2 a0_3 a0_4 a0_5 t167 (l4.drop (bt161.1 : Int).toNat)).bind fun t174 => (some (t174, none)))) else (none)) else (none)) else ((errors_New.f (⟨#[119, 114, 111, 110, 103, 32, 112, 114, 111, 111, 102, 32, 115, 105, 122, 101, 44, 32, 119, 97, 110, 116]⟩ : ByteArray)).bind fun t177 => (some (([] : List Int), t177))))) else ((errors_New.f (⟨#[108, 101, 97, 102, 72, 97, 115, 104, 32, 104, 97, 115, 32, 117, 110, 101, 120, 112, 101, 99, 116, 101, 100, 32, 115, 105, 122, 101, 44, 32, 119, 97, 110, 116]⟩ : ByteArray)).bind fun t160 => (some (([] : List Int), t160)))))
theorem proof_RootFromInclusionProof.mono : ∀ a0 a1 a2 a3 a4 a5 a6 a7 a8 a9 k, LeO (proof_RootFromInclusionProof.f k a0 a1 a2 a3 a4 a5 a6 a7 a8 a9) (proof_RootFromInclusionProof.f (k + 1) a0 a1 a2 a3 a4 a5 a6 a7 a8 a9) := by
  intro a0 a1 a2 a3 a4 a5 a6 a7 a8 a9 k
  unfold proof_RootFromInclusionProof.f
  repeat' first
      | (with_reducible exact proof_chainBorderRight.mono _ _ _ _ _ _ _ _ _)
      | (with_reducible exact proof_chainInner.mono _ _ _ _ _ _ _ _ _ _)
      | (with_reducible exact LeO.refl _)
      | (with_reducible exact LeO.none _)
      | (with_reducible refine LeO.ite ?_ ?_)
      | (with_reducible refine LeO.bind ?_ (fun _ => ?_))
      | exact proof_chainBorderRight.mono _ _ _ _ _ _ _ _ _
      | exact proof_chainInner.mono _ _ _ _ _ _ _ _ _ _
      | exact LeO.none _
      | refine LeO.ite ?_ ?_
      | refine LeO.bind ?_ (fun _ => ?_)
set_option maxHeartbeats 8000000 in
set_option maxRecDepth 100000 in
theorem proof_RootFromInclusionProof.calls (k : Nat) (a0_0 : Int) (a0_1 : Int) (a0_2 : Int) (a0_3 : Int) (a0_4 : Int) (a0_5 : Int) (a1 : Int) (a2 : Int) (P3_ : Nat → Prop) (A3 : Option Addr) (c3 : Nat) (l3 : List Int) (A4 : Option Addr) (c4 : Nat) (l4 : List (List Int)) (r1 : List Int) (r2 : Option Int) (w : World) (hs3 : Kd.V (Kd.int .u8) 5 w w.heap.size (fun k_ => P3_ k_) (.slice A3 l3.length c3) l3) (hr4 : Kd.C (Kd.slice 5 (Kd.int .u8)) w A4 l4.length l4) (hc4 : l4.length ≤ c4) (h : proof_RootFromInclusionProof.f k a0_0 a0_1 a0_2 a0_3 a0_4 a0_5 a1 a2 l3 l4 = some (r1, r2)) :
    Calls Try.prog 28 #[.iface 52 (.agg #[.int .i64 a0_0, .int .i64 a0_1, .int .i64 a0_2, .int .u64 a0_3, .int .u64 a0_4, .int .u64 a0_5]), .int .u64 a1, .int .u64 a2, .slice A3 l3.length c3, .slice A4 l4.length c4] w fun e w' => ∃ (T_ : Int → TypeId) (X_ : Int → Value), ∃ v0_ : Value, e = .returned (.tuple #[v0_, errW T_ X_ r2]) ∧ Kd.V (Kd.int .u8) 5 w' w.heap.size (fun k_ => (P3_ k_ ∨ w.heap.size ≤ k_)) v0_ r1 ∧ Below w.heap.size w w' := by
  have HO3 := Aside0.mk (show Kd.V (Kd.int .u8) 5 w w.heap.size (fun k_ => (P3_ k_ ∨ w.heap.size ≤ k_)) (.slice A3 l3.length c3) l3 from Kd.V_mono hs3 (fun k_ hk => .inl hk))
  have HR4 := Aside0.mk hr4
  have HC4 := Aside0.mk hc4
  clear hr4 hc4
  have HB := Aside0.mk (Below.refl w.heap.size w)
  have H : (if a1 ≥ a2 then ((errors_New.f (⟨#[105, 110, 100, 101, 120, 32, 105, 115, 32, 98, 101, 121, 111, 110, 100, 32, 115, 105, 122, 101, 32, 62]⟩ : ByteArray)).bind fun t158 => (some (([] : List Int), t158))) else ((impl_toy_Size.f a0_0 a0_1 a0_2 a0_3 a0_4 a0_5).bind fun t159 => (if (l3.length : Int) = t159 then ((proof_decompInclProof.f a1 a2).bind fun bt161 => (if (l4.length : Int) = (wrap64 (bt161.1 + bt161.2)) then (if 0 ≤ bt161.1 then (if bt161.1 ≤ (l4.length : Int) then ((proof_chainInner.f k a0_0 a0_1 a0_2 a0_3 a0_4 a0_5 l3 (l4.take (bt161.1 : Int).toNat) a1).bind fun t167 => ((proof_chainBorderRight.f k a0_0 a0_1 a0_2 a0_3 a0_4 a0_5 t167 (l4.drop (bt161.1 : Int).toNat)).bind fun t174 => (some (t174, none)))) else (none)) else (none)) else ((errors_New.f (⟨#[119, 114, 111, 110, 103, 32, 112, 114, 111, 111, 102, 32, 115, 105, 122, 101, 44, 32, 119, 97, 110, 116]⟩ : ByteArray)).bind fun t177 => (some (([] : List Int), t177))))) else ((errors_New.f (⟨#[108, 101, 97, 102, 72, 97, 115, 104, 32, 104, 97, 115, 32, 117, 110, 101, 120, 112, 101, 99, 116, 101, 100, 32, 115, 105, 122, 101, 44, 32, 119, 97, 110, 116]⟩ : ByteArray)).bind fun t160 => (some (([] : List Int), t160)))))) = some (r1, r2) := h
  clear h
  by_cases c6 : a1 ≥ a2
  · rw [if_pos c6] at H
    have c6b0 : decide (a2 ≤ a1) = true := decide_eq_true c6
    clear c6
    replace H := Option.bind_eq_some_iff.mp H
    obtain ⟨t158, A70, H⟩ := H
    replace H : (some (([] : List Int), t158)) = some (r1, r2) := H
    have A7 := Aside0.mk A70
    clear A70
    simp only [Option.some.injEq, Prod.mk.injEq] at H
    obtain ⟨rfl, rfl⟩ := H
    go_enter Try.func28, Try.ntmps28
    go_wp2_with (first | ((with_reducible refine gate_callee (f := 36) rfl ?_); refine goesL_ (some 22) rfl rfl Try.func36 (by kernel_rfl) rfl #[.string (⟨#[105, 110, 100, 101, 120, 32, 105, 115, 32, 98, 101, 121, 111, 110, 100, 32, 115, 105, 122, 101, 32, 62]⟩ : ByteArray)] rfl (by (try simp only [List.map_toArray, List.map_cons, List.map_nil]); first | done | rfl | (simp only [List.length_drop, List.length_take]; rfl)) ?_; (with_reducible refine (errors_New.calls (⟨#[105, 110, 100, 101, 120, 32, 105, 115, 32, 98, 101, 121, 111, 110, 100, 32, 115, 105, 122, 101, 32, 62]⟩ : ByteArray) t158 _ A7.out).mono ?_); rintro e w8 ⟨Tt158, Xt158, rfl, hb⟩; refine ⟨_, rfl, ?_⟩; have n0_ := Aside0.mk (Kd.V_below (by (with_reducible repeat (first | apply Kd.V_alloc | apply Kd.V_drewN | apply Kd.V_drew)); exact HO3.out) hb); have n1_ := Aside0.mk (below_step (by repeat (first | (with_reducible first | exact HB.out | apply below_alloc | apply pw_below_drewN | apply below_drew1) | exact HB.out)) hb); clear HO3; clear HB; have HO3 := n0_; have HB := n1_; clear n0_ n1_; (try clear hb); (try clear hb2); (try clear hk); (try clear hi); (try simp only [errW_none, errW_some])))
    go_ret2
    exact ⟨Tt158, Xt158, (.slice none 0 0), by first | rfl | (simp [errW_none, errW_some] <;> rfl) | (simp [*, errW_none, errW_some] <;> rfl), by first | exact Kd.V_nil _ _ _ _ _ | exact Kd.R_nil _ _ _ _ _ | exact Kd.S_nil _ _ _ _ _ | exact Kd.N_nil _ _ _ _ _ | exact Kd.Q_nil _ _ _ _ _, by repeat (first | (with_reducible first | exact HB.out | apply below_alloc | apply pw_below_drewN | apply below_drew1) | exact HB.out)⟩
  · rw [if_neg c6] at H
    have c6b0 : decide (a2 ≤ a1) = false := decide_eq_false c6
    clear c6
    replace H := Option.bind_eq_some_iff.mp H
    obtain ⟨t159, A90, H⟩ := H
    replace H : (if (l3.length : Int) = t159 then ((proof_decompInclProof.f a1 a2).bind fun bt161 => (if (l4.length : Int) = (wrap64 (bt161.1 + bt161.2)) then (if 0 ≤ bt161.1 then (if bt161.1 ≤ (l4.length : Int) then ((proof_chainInner.f k a0_0 a0_1 a0_2 a0_3 a0_4 a0_5 l3 (l4.take (bt161.1 : Int).toNat) a1).bind fun t167 => ((proof_chainBorderRight.f k a0_0 a0_1 a0_2 a0_3 a0_4 a0_5 t167 (l4.drop (bt161.1 : Int).toNat)).bind fun t174 => (some (t174, none)))) else (none)) else (none)) else ((errors_New.f (⟨#[119, 114, 111, 110, 103, 32, 112, 114, 111, 111, 102, 32, 115, 105, 122, 101, 44, 32, 119, 97, 110, 116]⟩ : ByteArray)).bind fun t177 => (some (([] : List Int), t177))))) else ((errors_New.f (⟨#[108, 101, 97, 102, 72, 97, 115, 104, 32, 104, 97, 115, 32, 117, 110, 101, 120, 112, 101, 99, 116, 101, 100, 32, 115, 105, 122, 101, 44, 32, 119, 97, 110, 116]⟩ : ByteArray)).bind fun t160 => (some (([] : List Int), t160)))) = some (r1, r2) := H
    have A9 := Aside0.mk A90
    clear A90
    by_cases c10 : (l3.length : Int) = t159
    · rw [if_pos c10] at H
      have c10b0 : ((l3.length : Int) == t159) = true := beq_iff_eq.mpr c10
      have c10b1 : ((l3.length : Int) != t159) = false := bne_eq_false_iff_eq.mpr c10
      clear c10
      replace H := Option.bind_eq_some_iff.mp H
      obtain ⟨⟨t161, t162⟩, A110, H⟩ := H
      replace H : (if (l4.length : Int) = (wrap64 (t161 + t162)) then (if 0 ≤ t161 then (if t161 ≤ (l4.length : Int) then ((proof_chainInner.f k a0_0 a0_1 a0_2 a0_3 a0_4 a0_5 l3 (l4.take (t161 : Int).toNat) a1).bind fun t167 => ((proof_chainBorderRight.f k a0_0 a0_1 a0_2 a0_3 a0_4 a0_5 t167 (l4.drop (t161 : Int).toNat)).bind fun t174 => (some (t174, none)))) else (none)) else (none)) else ((errors_New.f (⟨#[119, 114, 111, 110, 103, 32, 112, 114, 111, 111, 102, 32, 115, 105, 122, 101, 44, 32, 119, 97, 110, 116]⟩ : ByteArray)).bind fun t177 => (some (([] : List Int), t177)))) = some (r1, r2) := H
      have A11 := Aside0.mk A110
      clear A110
      by_cases c12 : (l4.length : Int) = (wrap64 (t161 + t162))
      · rw [if_pos c12] at H
        have c12b0 : ((l4.length : Int) == (wrap64 (t161 + t162))) = true := beq_iff_eq.mpr c12
        have c12b1 : ((l4.length : Int) != (wrap64 (t161 + t162))) = false := bne_eq_false_iff_eq.mpr c12
        clear c12
        by_cases c13 : 0 ≤ t161
        · rw [if_pos c13] at H
          have c13b0 := eq_true c13
          have c13b1 : decide (0 ≤ t161) = true := decide_eq_true c13
          clear c13
          by_cases c14 : t161 ≤ (l4.length : Int)
          · rw [if_pos c14] at H
            have c14b0 := eq_true c14
            have c14b1 : decide (t161 ≤ (l4.length : Int)) = true := decide_eq_true c14
            clear c14
            obtain ⟨y163, hy163⟩ : ∃ y_ : List (List Int), y_ = (l4.take (t161 : Int).toNat) := ⟨_, rfl⟩
            replace H : ((proof_chainInner.f k a0_0 a0_1 a0_2 a0_3 a0_4 a0_5 l3 y163 a1).bind fun t167 => ((proof_chainBorderRight.f k a0_0 a0_1 a0_2 a0_3 a0_4 a0_5 t167 (l4.drop (t161 : Int).toNat)).bind fun t174 => (some (t174, none)))) = some (r1, r2) := by first | (rw [hy163]; with_reducible exact H) | (have H2_ := (Option.bind_some _ _).symm.trans H; rw [hy163]; with_reducible exact H2_) | (have H2_ := (Option.bind_some _ _).symm.trans H; with_reducible exact H2_) | with_reducible exact H | (rw [hy163]; exact H) | exact H
            have Ny163 := Aside0.mk hy163
            clear hy163
            replace H := Option.bind_eq_some_iff.mp H
            obtain ⟨t167, A150, H⟩ := H
            replace H : ((proof_chainBorderRight.f k a0_0 a0_1 a0_2 a0_3 a0_4 a0_5 t167 (l4.drop (t161 : Int).toNat)).bind fun t174 => (some (t174, none))) = some (r1, r2) := H
            have A15 := Aside0.mk A150
            clear A150
            have c16b0 := eq_true (of_decide_eq_true (by first | (with_reducible assumption) | assumption) : 0 ≤ t161)
            have c17b0 := eq_true (of_decide_eq_true (by first | (with_reducible assumption) | assumption) : t161 ≤ (l4.length : Int))
            obtain ⟨y170, hy170⟩ : ∃ y_ : List (List Int), y_ = (l4.drop (t161 : Int).toNat) := ⟨_, rfl⟩
            replace H : ((proof_chainBorderRight.f k a0_0 a0_1 a0_2 a0_3 a0_4 a0_5 t167 y170).bind fun t174 => (some (t174, none))) = some (r1, r2) := by first | (rw [hy170]; with_reducible exact H) | (have H2_ := (Option.bind_some _ _).symm.trans H; rw [hy170]; with_reducible exact H2_) | (have H2_ := (Option.bind_some _ _).symm.trans H; with_reducible exact H2_) | with_reducible exact H | (rw [hy170]; exact H) | exact H
            have Ny170 := Aside0.mk hy170
            clear hy170
            replace H := Option.bind_eq_some_iff.mp H
            obtain ⟨t174, A180, H⟩ := H
            replace H : (some (t174, none)) = some (r1, r2) := H
            have A18 := Aside0.mk A180
            clear A180
            simp only [Option.some.injEq, Prod.mk.injEq] at H
            obtain ⟨rfl, rfl⟩ := H
            go_enter Try.func28, Try.ntmps28
            go_wp2_with (first | ((with_reducible refine gate_invoke (m := "Size") rfl ?_); refine invokesL_ (some 26) rfl rfl Try.func69 (by kernel_rfl) rfl 52 (.agg #[.int .i64 a0_0, .int .i64 a0_1, .int .i64 a0_2, .int .u64 a0_3, .int .u64 a0_4, .int .u64 a0_5]) #[] #[.agg #[.int .i64 a0_0, .int .i64 a0_1, .int .i64 a0_2, .int .u64 a0_3, .int .u64 a0_4, .int .u64 a0_5]] rfl rfl (by first | rfl | (simp only [Act.eval]; rfl)) (by (try simp only [List.map_toArray, List.map_cons, List.map_nil]); first | done | rfl | (simp only [List.length_drop, List.length_take]; rfl)) (fun _ => by kernel_rfl) ?_; (with_reducible refine (impl_toy_Size.calls a0_0 a0_1 a0_2 a0_3 a0_4 a0_5 t159 _ A9.out).mono ?_); rintro e w19 ⟨rfl, hb⟩; refine ⟨_, rfl, ?_⟩; have n0_ := Aside0.mk (Kd.V_below (by (with_reducible repeat (first | apply Kd.V_alloc | apply Kd.V_drewN | apply Kd.V_drew)); exact HO3.out) hb); have n1_ := Aside0.mk (below_step (by repeat (first | (with_reducible first | exact HB.out | apply below_alloc | apply pw_below_drewN | apply below_drew1) | exact HB.out)) hb); clear HO3; clear HB; have HO3 := n0_; have HB := n1_; clear n0_ n1_; (try clear hb); (try clear hb2); (try clear hk); (try clear hi)) | ((with_reducible refine gate_callee (f := 40) rfl ?_); refine goesL_ (some 34) rfl rfl Try.func40 (by kernel_rfl) rfl #[.int .u64 a1, .int .u64 a2] rfl (by (try simp only [List.map_toArray, List.map_cons, List.map_nil]); first | done | rfl | (simp only [List.length_drop, List.length_take]; rfl)) ?_; (with_reducible refine (proof_decompInclProof.calls a1 a2 t161 t162 _ A11.out).mono ?_); rintro e w' ⟨rfl, ⟨nd, rfl⟩⟩; refine ⟨_, rfl, ?_⟩; have q20 : (t161 : Int) ≤ ((l4.length : Int) : Int) := of_decide_eq_true (by first | (with_reducible assumption) | assumption); obtain ⟨i020, hi020, _, hsz20, _⟩ := info_parts info30; have hroom20 : l4.length ≤ c4 := HC4.out; have hC20 : Kd.C (Kd.slice 5 (Kd.int .u8)) _ A4 l4.length l4 := HR4.out; have hcut20 := cut_to (P := Try.prog) 23 30 .i64 Try.underlying23 hi020 A4 l4.length c4 t161 (of_decide_eq_true (by first | (with_reducible assumption) | assumption)) q20 hroom20; have hr20 := Kd.C_take (m := (t161 : Int).toNat) hC20 (by omega); have hy20 : y163.length = (t161 : Int).toNat := (by rw [Ny163.out, List.length_take]; omega); rw [← Ny163.out] at hr20; rw [← hy20] at hcut20; have HR166 := Aside0.mk hr20; have HC166 := Aside0.mk (show y163.length ≤ c4 from by omega); clear hr20 hC20 hroom20 hi020 hsz20; have KY20 := Aside0.mk hy20; clear hy20; replace q20 := eq_true q20) | ((with_reducible refine gate_callee (f := 41) rfl ?_); refine goesL_ (some 52) rfl rfl Try.func41 (by kernel_rfl) rfl #[.iface 52 (.agg #[.int .i64 a0_0, .int .i64 a0_1, .int .i64 a0_2, .int .u64 a0_3, .int .u64 a0_4, .int .u64 a0_5]), .slice A3 l3.length c3, .slice A4 y163.length c4, .int .u64 a1] rfl (by (try simp only [List.map_toArray, List.map_cons, List.map_nil]); first | done | rfl | (simp only [List.length_drop, List.length_take]; rfl)) ?_; (with_reducible refine (proof_chainInner.calls k a0_0 a0_1 a0_2 a0_3 a0_4 a0_5 (fun k_ => (P3_ k_ ∨ w.heap.size ≤ k_)) _ _ l3 _ _ y163 a1 t167 _ ?side1 ?side2 ?side3 A15.out).mono ?_); (case side1 => first | exact HO3.out | exact Kd.V_mono HO3.out (fun k_ h_ => by simp only [and_assoc] at h_ ⊢; exact h_)); (case side2 => repeat (first | exact (Kd.C_below HR166.out (by repeat (first | (with_reducible first | exact HB.out | apply below_alloc | apply pw_below_drewN | apply below_drew1) | exact HB.out))) | (with_reducible refine Kd.C_alloc ?_ _) | (with_reducible refine Kd.C_drewN ?_ _) | (with_reducible refine Kd.C_drew ?_))); (case side3 => exact HC166.out); rintro e w21 ⟨v168, rfl, ho0, hb⟩; refine ⟨_, rfl, ?_⟩; have n0_ := Aside0.mk (Kd.V_below (by (with_reducible repeat (first | apply Kd.V_alloc | apply Kd.V_drewN | apply Kd.V_drew)); exact HO3.out) hb); have n1_ := Aside0.mk (Kd.V_lower (Kd.V_mono (ok' := fun k_ => (P3_ k_ ∨ w.heap.size ≤ k_)) ho0 (fun k_ hk_ => Or.elim hk_ (fun hs_ => hs_) (fun hn_ => (.inr (Nat.le_trans (below_size (by repeat (first | (with_reducible first | exact HB.out | apply below_alloc | apply pw_below_drewN | apply below_drew1) | exact HB.out))) hn_))))) (below_size (by repeat (first | (with_reducible first | exact HB.out | apply below_alloc | apply pw_below_drewN | apply below_drew1) | exact HB.out)))); have n2_ := Aside0.mk (below_step (by repeat (first | (with_reducible first | exact HB.out | apply below_alloc | apply pw_below_drewN | apply below_drew1) | exact HB.out)) hb); clear HO3; clear HB; have HO3 := n0_; have HO169 := n1_; have HB := n2_; clear n0_ n1_ n2_; (try clear hb); (try clear hb2); (try clear hk); (try clear hi); (try clear ho0); have q22 : (t161 : Int) ≤ ((l4.length : Int) : Int) := of_decide_eq_true (by first | (with_reducible assumption) | assumption); obtain ⟨i022, hi022, _, hsz22, _⟩ := info_parts info30; have hroom22 : l4.length ≤ c4 := HC4.out; have hC22 : Kd.C (Kd.slice 5 (Kd.int .u8)) _ A4 l4.length l4 := HR4.out; have q022 : (0 : Int) ≤ (t161 : Int) := of_decide_eq_true (by first | (with_reducible assumption) | assumption); have hcut22 := cut_from (P := Try.prog) 23 30 .i64 Try.underlying23 hi022 1 hsz22 A4 l4.length c4 t161 q022 q22; have hr22 := Kd.C_drop (m := (t161 : Int).toNat) (c := c4) hC22 (by omega) hroom22; obtain ⟨A22, hA22⟩ : ∃ A1, A1 = (if c4 = (t161 : Int).toNat then A4 else (A4 : Option Addr).map (·.add ((t161 : Int).toNat * 1))) := ⟨_, rfl⟩; obtain ⟨c22, hc22⟩ : ∃ c1, c1 = c4 - (t161 : Int).toNat := ⟨_, rfl⟩; have hy22 : y170.length = l4.length - (t161 : Int).toNat := (by rw [Ny170.out, List.length_drop] <;> omega); rw [show (l4).drop (t161 : Int).toNat = y170 from Ny170.out.symm] at hr22; replace hr22 : Kd.C (Kd.slice 5 (Kd.int .u8)) _ A22 y170.length y170 := (by rw [hA22]; exact hr22); rw [← hy22, ← hA22, ← hc22] at hcut22; have HR173 := Aside0.mk hr22; have HC173 := Aside0.mk (show y170.length ≤ c22 from by rw [hy22, hc22]; exact Nat.sub_le_sub_right hroom22 _); clear hr22 hC22 hroom22 hi022 hsz22 hc22; have KY22 := Aside0.mk hy22; have KA22 := Aside0.mk hA22; clear hy22 hA22; replace q22 := eq_true q22; obtain ⟨Ao23, co23, eo23⟩ := Kd.V_slice HO169.out; subst eo23) | ((with_reducible refine gate_callee (f := 42) rfl ?_); refine goesL_ (some 58) rfl rfl Try.func42 (by kernel_rfl) rfl #[.iface 52 (.agg #[.int .i64 a0_0, .int .i64 a0_1, .int .i64 a0_2, .int .u64 a0_3, .int .u64 a0_4, .int .u64 a0_5]), .slice Ao23 t167.length co23, .slice A22 y170.length c22] rfl (by (try simp only [List.map_toArray, List.map_cons, List.map_nil]); first | done | rfl | (simp only [List.length_drop, List.length_take]; rfl)) ?_; (with_reducible refine (proof_chainBorderRight.calls k a0_0 a0_1 a0_2 a0_3 a0_4 a0_5 (fun k_ => (P3_ k_ ∨ w.heap.size ≤ k_)) _ _ t167 _ _ y170 t174 _ ?side1 ?side2 ?side3 A18.out).mono ?_); (case side1 => first | exact HO169.out | exact Kd.V_mono HO169.out (fun k_ h_ => by simp only [and_assoc] at h_ ⊢; exact h_)); (case side2 => repeat (first | exact (Kd.C_below HR173.out HB.out) | (with_reducible refine Kd.C_alloc ?_ _) | (with_reducible refine Kd.C_drewN ?_ _) | (with_reducible refine Kd.C_drew ?_))); (case side3 => exact HC173.out); rintro e w24 ⟨v175, rfl, ho0, hb⟩; refine ⟨_, rfl, ?_⟩; have n0_ := Aside0.mk (Kd.V_below (by (with_reducible repeat (first | apply Kd.V_alloc | apply Kd.V_drewN | apply Kd.V_drew)); exact HO3.out) hb); have n1_ := Aside0.mk (Kd.V_below (by (with_reducible repeat (first | apply Kd.V_alloc | apply Kd.V_drewN | apply Kd.V_drew)); exact HO169.out) hb); have n2_ := Aside0.mk (Kd.V_lower (Kd.V_mono (ok' := fun k_ => (P3_ k_ ∨ w.heap.size ≤ k_)) ho0 (fun k_ hk_ => Or.elim hk_ (fun hs_ => hs_) (fun hn_ => (.inr (Nat.le_trans (below_size (by repeat (first | (with_reducible first | exact HB.out | apply below_alloc | apply pw_below_drewN | apply below_drew1) | exact HB.out))) hn_))))) (below_size (by repeat (first | (with_reducible first | exact HB.out | apply below_alloc | apply pw_below_drewN | apply below_drew1) | exact HB.out)))); have n3_ := Aside0.mk (below_step (by repeat (first | (with_reducible first | exact HB.out | apply below_alloc | apply pw_below_drewN | apply below_drew1) | exact HB.out)) hb); clear HO3; clear HO169; clear HB; have HO3 := n0_; have HO169 := n1_; have HO176 := n2_; have HB := n3_; clear n0_ n1_ n2_ n3_; (try clear hb); (try clear hb2); (try clear hk); (try clear hi); (try clear ho0)))
            go_ret2
            exact ⟨(fun _ => 0), (fun _ => .nilIface), _, by first | rfl | (simp [errW_none, errW_some] <;> rfl) | (simp [*, errW_none, errW_some] <;> rfl), by (with_reducible repeat (first | apply Kd.V_alloc | apply Kd.V_drewN | apply Kd.V_drew)); exact HO176.out, by repeat (first | (with_reducible first | exact HB.out | apply below_alloc | apply pw_below_drewN | apply below_drew1) | exact HB.out)⟩
          · rw [if_neg c14] at H
            exact absurd H (by simp)
        · rw [if_neg c13] at H
          exact absurd H (by simp)
      · rw [if_neg c12] at H
        have c12b0 : ((l4.length : Int) == (wrap64 (t161 + t162))) = false := beq_eq_false_iff_ne.mpr c12
        have c12b1 : ((l4.length : Int) != (wrap64 (t161 + t162))) = true := bne_iff_ne.mpr c12
        replace H := Option.bind_eq_some_iff.mp H
        obtain ⟨t177, A250, H⟩ := H
        replace H : (some (([] : List Int), t177)) = some (r1, r2) := H
        have A25 := Aside0.mk A250
        clear A250
        simp only [Option.some.injEq, Prod.mk.injEq] at H
        obtain ⟨rfl, rfl⟩ := H
        go_enter Try.func28, Try.ntmps28
        go_wp2_with (first | ((with_reducible refine gate_invoke (m := "Size") rfl ?_); refine invokesL_ (some 26) rfl rfl Try.func69 (by kernel_rfl) rfl 52 (.agg #[.int .i64 a0_0, .int .i64 a0_1, .int .i64 a0_2, .int .u64 a0_3, .int .u64 a0_4, .int .u64 a0_5]) #[] #[.agg #[.int .i64 a0_0, .int .i64 a0_1, .int .i64 a0_2, .int .u64 a0_3, .int .u64 a0_4, .int .u64 a0_5]] rfl rfl (by first | rfl | (simp only [Act.eval]; rfl)) (by (try simp only [List.map_toArray, List.map_cons, List.map_nil]); first | done | rfl | (simp only [List.length_drop, List.length_take]; rfl)) (fun _ => by kernel_rfl) ?_; (with_reducible refine (impl_toy_Size.calls a0_0 a0_1 a0_2 a0_3 a0_4 a0_5 t159 _ A9.out).mono ?_); rintro e w26 ⟨rfl, hb⟩; refine ⟨_, rfl, ?_⟩; have n0_ := Aside0.mk (Kd.V_below (by (with_reducible repeat (first | apply Kd.V_alloc | apply Kd.V_drewN | apply Kd.V_drew)); exact HO3.out) hb); have n1_ := Aside0.mk (below_step (by repeat (first | (with_reducible first | exact HB.out | apply below_alloc | apply pw_below_drewN | apply below_drew1) | exact HB.out)) hb); clear HO3; clear HB; have HO3 := n0_; have HB := n1_; clear n0_ n1_; (try clear hb); (try clear hb2); (try clear hk); (try clear hi)) | ((with_reducible refine gate_callee (f := 40) rfl ?_); refine goesL_ (some 34) rfl rfl Try.func40 (by kernel_rfl) rfl #[.int .u64 a1, .int .u64 a2] rfl (by (try simp only [List.map_toArray, List.map_cons, List.map_nil]); first | done | rfl | (simp only [List.length_drop, List.length_take]; rfl)) ?_; (with_reducible refine (proof_decompInclProof.calls a1 a2 t161 t162 _ A11.out).mono ?_); rintro e w' ⟨rfl, ⟨nd, rfl⟩⟩; refine ⟨_, rfl, ?_⟩) | ((with_reducible refine gate_callee (f := 36) rfl ?_); refine goesL_ (some 45) rfl rfl Try.func36 (by kernel_rfl) rfl #[.string (⟨#[119, 114, 111, 110, 103, 32, 112, 114, 111, 111, 102, 32, 115, 105, 122, 101, 44, 32, 119, 97, 110, 116]⟩ : ByteArray)] rfl (by (try simp only [List.map_toArray, List.map_cons, List.map_nil]); first | done | rfl | (simp only [List.length_drop, List.length_take]; rfl)) ?_; (with_reducible refine (errors_New.calls (⟨#[119, 114, 111, 110, 103, 32, 112, 114, 111, 111, 102, 32, 115, 105, 122, 101, 44, 32, 119, 97, 110, 116]⟩ : ByteArray) t177 _ A25.out).mono ?_); rintro e w27 ⟨Tt177, Xt177, rfl, hb⟩; refine ⟨_, rfl, ?_⟩; have n0_ := Aside0.mk (Kd.V_below (by (with_reducible repeat (first | apply Kd.V_alloc | apply Kd.V_drewN | apply Kd.V_drew)); exact HO3.out) hb); have n1_ := Aside0.mk (below_step (by repeat (first | (with_reducible first | exact HB.out | apply below_alloc | apply pw_below_drewN | apply below_drew1) | exact HB.out)) hb); clear HO3; clear HB; have HO3 := n0_; have HB := n1_; clear n0_ n1_; (try clear hb); (try clear hb2); (try clear hk); (try clear hi); (try simp only [errW_none, errW_some])))
        go_ret2
        exact ⟨Tt177, Xt177, (.slice none 0 0), by first | rfl | (simp [errW_none, errW_some] <;> rfl) | (simp [*, errW_none, errW_some] <;> rfl), by first | exact Kd.V_nil _ _ _ _ _ | exact Kd.R_nil _ _ _ _ _ | exact Kd.S_nil _ _ _ _ _ | exact Kd.N_nil _ _ _ _ _ | exact Kd.Q_nil _ _ _ _ _, by repeat (first | (with_reducible first | exact HB.out | apply below_alloc | apply pw_below_drewN | apply below_drew1) | exact HB.out)⟩
    · rw [if_neg c10] at H
      have c10b0 : ((l3.length : Int) == t159) = false := beq_eq_false_iff_ne.mpr c10
      have c10b1 : ((l3.length : Int) != t159) = true := bne_iff_ne.mpr c10
      replace H := Option.bind_eq_some_iff.mp H
      obtain ⟨t160, A280, H⟩ := H
      replace H : (some (([] : List Int), t160)) = some (r1, r2) := H
      have A28 := Aside0.mk A280
      clear A280
      simp only [Option.some.injEq, Prod.mk.injEq] at H
      obtain ⟨rfl, rfl⟩ := H
      go_enter Try.func28, Try.ntmps28
      go_wp2_with (first | ((with_reducible refine gate_invoke (m := "Size") rfl ?_); refine invokesL_ (some 26) rfl rfl Try.func69 (by kernel_rfl) rfl 52 (.agg #[.int .i64 a0_0, .int .i64 a0_1, .int .i64 a0_2, .int .u64 a0_3, .int .u64 a0_4, .int .u64 a0_5]) #[] #[.agg #[.int .i64 a0_0, .int .i64 a0_1, .int .i64 a0_2, .int .u64 a0_3, .int .u64 a0_4, .int .u64 a0_5]] rfl rfl (by first | rfl | (simp only [Act.eval]; rfl)) (by (try simp only [List.map_toArray, List.map_cons, List.map_nil]); first | done | rfl | (simp only [List.length_drop, List.length_take]; rfl)) (fun _ => by kernel_rfl) ?_; (with_reducible refine (impl_toy_Size.calls a0_0 a0_1 a0_2 a0_3 a0_4 a0_5 t159 _ A9.out).mono ?_); rintro e w29 ⟨rfl, hb⟩; refine ⟨_, rfl, ?_⟩; have n0_ := Aside0.mk (Kd.V_below (by (with_reducible repeat (first | apply Kd.V_alloc | apply Kd.V_drewN | apply Kd.V_drew)); exact HO3.out) hb); have n1_ := Aside0.mk (below_step (by repeat (first | (with_reducible first | exact HB.out | apply below_alloc | apply pw_below_drewN | apply below_drew1) | exact HB.out)) hb); clear HO3; clear HB; have HO3 := n0_; have HB := n1_; clear n0_ n1_; (try clear hb); (try clear hb2); (try clear hk); (try clear hi)) | ((with_reducible refine gate_callee (f := 36) rfl ?_); refine goesL_ (some 30) rfl rfl Try.func36 (by kernel_rfl) rfl #[.string (⟨#[108, 101, 97, 102, 72, 97, 115, 104, 32, 104, 97, 115, 32, 117, 110, 101, 120, 112, 101, 99, 116, 101, 100, 32, 115, 105, 122, 101, 44, 32, 119, 97, 110, 116]⟩ : ByteArray)] rfl (by (try simp only [List.map_toArray, List.map_cons, List.map_nil]); first | done | rfl | (simp only [List.length_drop, List.length_take]; rfl)) ?_; (with_reducible refine (errors_New.calls (⟨#[108, 101, 97, 102, 72, 97, 115, 104, 32, 104, 97, 115, 32, 117, 110, 101, 120, 112, 101, 99, 116, 101, 100, 32, 115, 105, 122, 101, 44, 32, 119, 97, 110, 116]⟩ : ByteArray) t160 _ A28.out).mono ?_); rintro e w30 ⟨Tt160, Xt160, rfl, hb⟩; refine ⟨_, rfl, ?_⟩; have n0_ := Aside0.mk (Kd.V_below (by (with_reducible repeat (first | apply Kd.V_alloc | apply Kd.V_drewN | apply Kd.V_drew)); exact HO3.out) hb); have n1_ := Aside0.mk (below_step (by repeat (first | (with_reducible first | exact HB.out | apply below_alloc | apply pw_below_drewN | apply below_drew1) | exact HB.out)) hb); clear HO3; clear HB; have HO3 := n0_; have HB := n1_; clear n0_ n1_; (try clear hb); (try clear hb2); (try clear hk); (try clear hi); (try simp only [errW_none, errW_some])))
      go_ret2
      exact ⟨Tt160, Xt160, (.slice none 0 0), by first | rfl | (simp [errW_none, errW_some] <;> rfl) | (simp [*, errW_none, errW_some] <;> rfl), by first | exact Kd.V_nil _ _ _ _ _ | exact Kd.R_nil _ _ _ _ _ | exact Kd.S_nil _ _ _ _ _ | exact Kd.N_nil _ _ _ _ _ | exact Kd.Q_nil _ _ _ _ _, by repeat (first | (with_reducible first | exact HB.out | apply below_alloc | apply pw_below_drewN | apply below_drew1) | exact HB.out)⟩

end Go.Proofs.Ytkmdkmlgahfcpaa.M

namespace Go.Proofs.Ytkmdkmlgahfcpaa.M
open Go.RowKit Go.Proofs.YtkmdkmlgahfcpaaW.PrintWords Go.Proofs.YtkmdkmlgahfcpaaW.PrintLast Go.Proofs.YtkmdkmlgahfcpaaW.PrintMore
attribute [local go_sem] max2_int min2_int max_two min_two max_three min_three max_four min_four   -- for this text's walks alone
set_option linter.unusedVariables false
set_option linter.unusedSimpArgs false

/-! ### bytes_Equal: function 38 -/
def bytes_Equal.f (l0 : List Int) (l1 : List Int) : Option (Bool) := some ((strOfNums l0).toList == (strOfNums l1).toList)
set_option maxHeartbeats 8000000 in
set_option maxRecDepth 100000 in
theorem bytes_Equal.calls (A0 : Option Addr) (c0 : Nat) (l0 : List Int) (A1 : Option Addr) (c1 : Nat) (l1 : List Int) (r : Bool) (w : World) (hr0 : Kd.C (Kd.int .u8) w A0 l0.length l0) (hc0 : l0.length ≤ c0) (hr1 : Kd.C (Kd.int .u8) w A1 l1.length l1) (hc1 : l1.length ≤ c1) (h : bytes_Equal.f l0 l1 = some r) :
    Calls Try.prog 38 #[.slice A0 l0.length c0, .slice A1 l1.length c1] w fun e w' => e = .returned (.bool r) ∧ Drawn0 w w' := by
  have HR0 := Aside0.mk hr0
  have HC0 := Aside0.mk hc0
  clear hr0 hc0
  have HR1 := Aside0.mk hr1
  have HC1 := Aside0.mk hc1
  clear hr1 hc1
  have H : (some ((strOfNums l0).toList == (strOfNums l1).toList)) = some r := h
  clear h
  obtain rfl := Option.some.inj H
  have hcv3 := Kd.C_string (P := Try.prog) (A := A0) (c := c0) Try.underlying30 Try.underlying5 Try.underlying9 HR0.out
  have hcv3b := fun m_ : Nat => Kd.C_string (P := Try.prog) (A := A0) (c := c0) Try.underlying30 Try.underlying5 Try.underlying9 (Kd.C_drewN HR0.out m_)
  have hcv4 := Kd.C_string (P := Try.prog) (A := A1) (c := c1) Try.underlying30 Try.underlying5 Try.underlying9 HR1.out
  have hcv4b := fun m_ : Nat => Kd.C_string (P := Try.prog) (A := A1) (c := c1) Try.underlying30 Try.underlying5 Try.underlying9 (Kd.C_drewN HR1.out m_)
  go_enter Try.func38, Try.ntmps38
  go_wp2
  go_ret
  exact ⟨by first | rfl | (simp; done) | (simp [*]; done), by repeat (first | exact Drawn0.refl _ | apply Drawn0.step)⟩

end Go.Proofs.Ytkmdkmlgahfcpaa.M

namespace Go.Proofs.Ytkmdkmlgahfcpaa.M
open Go.RowKit Go.Proofs.YtkmdkmlgahfcpaaW.PrintWords Go.Proofs.YtkmdkmlgahfcpaaW.PrintLast Go.Proofs.YtkmdkmlgahfcpaaW.PrintMore
attribute [local go_sem] max2_int min2_int max_two min_two max_three min_three max_four min_four   -- for this text's walks alone
set_option linter.unusedVariables false
set_option linter.unusedSimpArgs false

/-! ### proof_verifyMatch: function 43 -/
def proof_verifyMatch.T_ : Nat := 0
theorem proof_verifyMatch.same (A0 : Option Addr) (c0 : Nat) (l0 : List Int) (A1 : Option Addr) (c1 : Nat) (l1 : List Int) (w : World) (hr0 : Kd.C (Kd.int .u8) w A0 l0.length l0) (hc0 : l0.length ≤ c0) (hr1 : Kd.C (Kd.int .u8) w A1 l1.length l1) (hc1 : l1.length ≤ c1) (h : bytes_Equal.f l0 l1 = some true) :
    Calls Try.prog 43 #[.slice A0 l0.length c0, .slice A1 l1.length c1] w fun e w' => e = .returned .nilIface ∧ Below w.heap.size w w' := by
  have HR0 := Aside0.mk hr0
  have HC0 := Aside0.mk hc0
  have HR1 := Aside0.mk hr1
  have HC1 := Aside0.mk hc1
  have H := Aside0.mk h
  clear hr0 hc0 hr1 hc1 h
  go_enter Try.func43, Try.ntmps43
  go_wp2_with (go_at_call 38; (with_reducible refine (bytes_Equal.calls _ _ l0 _ _ l1 true _ HR0.out HC0.out HR1.out HC1.out H.out).mono ?_); rintro e w' ⟨rfl, ⟨nd, rfl⟩⟩)
  go_ret
  exact ⟨rfl, pw_below_drewN (Below.refl _ _) _⟩
theorem proof_verifyMatch.diff (A0 : Option Addr) (c0 : Nat) (l0 : List Int) (A1 : Option Addr) (c1 : Nat) (l1 : List Int) (w : World) (hr0 : Kd.C (Kd.int .u8) w A0 l0.length l0) (hc0 : l0.length ≤ c0) (hr1 : Kd.C (Kd.int .u8) w A1 l1.length l1) (hc1 : l1.length ≤ c1) (h : bytes_Equal.f l0 l1 = some false) :
    Calls Try.prog 43 #[.slice A0 l0.length c0, .slice A1 l1.length c1] w fun e w' => e = .returned (.iface 86 (.agg #[.slice A1 l1.length c1, .slice A0 l0.length c0])) ∧ Below w.heap.size w w' := by
  have HR0 := Aside0.mk hr0
  have HC0 := Aside0.mk hc0
  have HR1 := Aside0.mk hr1
  have HC1 := Aside0.mk hc1
  have H := Aside0.mk h
  clear hr0 hc0 hr1 hc1 h
  go_enter Try.func43, Try.ntmps43
  go_wp2_with (go_at_call 38; (with_reducible refine (bytes_Equal.calls _ _ l0 _ _ l1 false _ HR0.out HC0.out HR1.out HC1.out H.out).mono ?_); rintro e w' ⟨rfl, ⟨nd, rfl⟩⟩)
  go_ret
  exact ⟨rfl, pw_below_drewN (Below.refl _ _) _⟩

end Go.Proofs.Ytkmdkmlgahfcpaa.M

namespace Go.Proofs.Ytkmdkmlgahfcpaa.M
open Go.RowKit Go.Proofs.YtkmdkmlgahfcpaaW.PrintWords Go.Proofs.YtkmdkmlgahfcpaaW.PrintLast Go.Proofs.YtkmdkmlgahfcpaaW.PrintMore
attribute [local go_sem] max2_int min2_int max_two min_two max_three min_three max_four min_four   -- for this text's walks alone
set_option linter.unusedVariables false
set_option linter.unusedSimpArgs false

/-! ### proof_VerifyInclusion: function 32 -/
def proof_VerifyInclusion.f (k : Nat) (a0_0 a0_1 a0_2 a0_3 a0_4 a0_5 : Int) (a1 a2 : Int) (l3 : List Int) (l4 : List (List Int)) (l5 : List Int) : Option (Int × List Int × List Int × List Int) :=
  (proof_RootFromInclusionProof.f k a0_0 a0_1 a0_2 a0_3 a0_4 a0_5 a1 a2 l3 l4).bind fun b => if b.2.isNone = true then ((bytes_Equal.f b.1 l5).bind fun t => if t = true then some (0, [], [], []) else some (1, [], l5, b.1)) else some (2, [], [], [])
theorem proof_VerifyInclusion.mono : ∀ a0_0 a0_1 a0_2 a0_3 a0_4 a0_5 a1 a2 l3 l4 l5 k, LeO (proof_VerifyInclusion.f k a0_0 a0_1 a0_2 a0_3 a0_4 a0_5 a1 a2 l3 l4 l5) (proof_VerifyInclusion.f (k + 1) a0_0 a0_1 a0_2 a0_3 a0_4 a0_5 a1 a2 l3 l4 l5) := by
  intro a0_0 a0_1 a0_2 a0_3 a0_4 a0_5 a1 a2 l3 l4 l5 k
  unfold proof_VerifyInclusion.f
  refine LeO.bind (proof_RootFromInclusionProof.mono _ _ _ _ _ _ _ _ _ _ _) (fun _ => LeO.refl _)
theorem V_dummy (d : Kd Int) (e : Nat) (W : World) (base : Nat) (ok : Nat → Prop) (p : Option Addr) : Kd.V d e W base ok (.slice p 0 0) [] := ⟨p, 0, rfl, Nat.le_refl _, fun W' _ => ⟨rfl, by decide, fun h => absurd h (Nat.lt_irrefl _)⟩⟩
set_option maxRecDepth 100000 in
set_option maxHeartbeats 1000000 in
theorem proof_VerifyInclusion.calls (k : Nat) (a0_0 a0_1 a0_2 a0_3 a0_4 a0_5 : Int) (a1 a2 : Int) (P3_ : Nat → Prop) (A3 : Option Addr) (c3 : Nat) (l3 : List Int) (A4 : Option Addr) (c4 : Nat) (l4 : List (List Int)) (P5_ : Nat → Prop) (A5 : Option Addr) (c5 : Nat) (l5 : List Int) (r1 : Int) (r2 r3 r4 : List Int) (w : World)
    (hs3 : Kd.V (Kd.int .u8) 5 w w.heap.size (fun k_ => P3_ k_) (.slice A3 l3.length c3) l3) (hr4 : Kd.C (Kd.slice 5 (Kd.int .u8)) w A4 l4.length l4) (hc4 : l4.length ≤ c4) (hs5 : Kd.V (Kd.int .u8) 5 w w.heap.size (fun k_ => P5_ k_) (.slice A5 l5.length c5) l5) (h : proof_VerifyInclusion.f k a0_0 a0_1 a0_2 a0_3 a0_4 a0_5 a1 a2 l3 l4 l5 = some (r1, r2, r3, r4)) :
    Calls Try.prog 32 #[.iface 52 (.agg #[.int .i64 a0_0, .int .i64 a0_1, .int .i64 a0_2, .int .u64 a0_3, .int .u64 a0_4, .int .u64 a0_5]), .int .u64 a1, .int .u64 a2, .slice A3 l3.length c3, .slice A4 l4.length c4, .slice A5 l5.length c5] w fun e w' => ∃ v0_ v1_ v2_ : Value, e = .returned (errVc #[.int .i64 r1, v0_, v1_, v2_]) ∧ Kd.V (Kd.int .u8) 5 w' w.heap.size (fun k_ => ((P3_ k_ ∨ P5_ k_) ∨ w.heap.size ≤ k_)) v0_ r2 ∧ Kd.V (Kd.int .u8) 5 w' w.heap.size (fun k_ => ((P3_ k_ ∨ P5_ k_) ∨ w.heap.size ≤ k_)) v1_ r3 ∧ Kd.V (Kd.int .u8) 5 w' w.heap.size (fun k_ => ((P3_ k_ ∨ P5_ k_) ∨ w.heap.size ≤ k_)) v2_ r4 ∧ Below w.heap.size w w' := by
  obtain ⟨⟨r, x⟩, hb, h⟩ := Option.bind_eq_some_iff.mp h
  have HS3 := Aside0.mk hs3
  have HR4 := Aside0.mk hr4
  have HC4 := Aside0.mk hc4
  have HS5 := Aside0.mk hs5
  have HBB := Aside0.mk hb
  clear hs3 hr4 hc4 hs5 hb
  cases x with
  | some q =>
    simp only [Option.isNone_some, Bool.false_eq_true, if_false, Option.some.injEq, Prod.mk.injEq] at h
    obtain ⟨rfl, rfl, rfl, rfl⟩ := h
    go_enter Try.func32, Try.ntmps32
    go_wp2_with (go_at_call 28; (with_reducible refine (proof_RootFromInclusionProof.calls k a0_0 a0_1 a0_2 a0_3 a0_4 a0_5 a1 a2 P3_ _ _ l3 _ _ l4 r (some q) _ HS3.out HR4.out HC4.out HBB.out).mono ?_); rintro e w1 ⟨T_, X_, v, rfl, ho, hB⟩; have HO := Aside0.mk ho; have HB := Aside0.mk hB; clear ho hB; simp only [errW_some])
    go_ret
    exact ⟨.slice (ptrOf (X_ q)) 0 0, .slice none 0 0, .slice none 0 0, rfl, V_dummy _ _ _ _ _ _, V_dummy _ _ _ _ _ _, V_dummy _ _ _ _ _ _, HB.out⟩
  | none =>
    simp only [Option.isNone_none, if_true] at h
    obtain ⟨t, ht, h⟩ := Option.bind_eq_some_iff.mp h
    have HTE := Aside0.mk ht
    clear ht
    cases t with
    | true =>
      simp only [if_true, Option.some.injEq, Prod.mk.injEq] at h
      obtain ⟨rfl, rfl, rfl, rfl⟩ := h
      go_enter Try.func32, Try.ntmps32
      go_wp2_with (first | (go_at_call 28; (with_reducible refine (proof_RootFromInclusionProof.calls k a0_0 a0_1 a0_2 a0_3 a0_4 a0_5 a1 a2 P3_ _ _ l3 _ _ l4 r none _ HS3.out HR4.out HC4.out HBB.out).mono ?_); rintro e w1 ⟨T_, X_, v, rfl, ho, hB⟩; obtain ⟨Ao, co, rfl⟩ := Kd.V_slice ho; have HO := Aside0.mk ho; have HB := Aside0.mk hB; clear ho hB; simp only [errW_none]) | (go_at_call 43; (with_reducible refine (proof_verifyMatch.same _ _ r _ _ l5 _ (Kd.V_reads' HO.out).2.2 (Kd.V_reads' HO.out).2.1 (Kd.V_reads' (Kd.V_below HS5.out HB.out)).2.2 (Kd.V_reads' HS5.out).2.1 HTE.out).mono ?_); rintro e w2 ⟨rfl, hB2⟩; have HB2 := Aside0.mk (below_step HB.out hB2); clear hB2))
      go_ret
      exact ⟨.slice none 0 0, .slice none 0 0, .slice none 0 0, rfl, V_dummy _ _ _ _ _ _, V_dummy _ _ _ _ _ _, V_dummy _ _ _ _ _ _, HB2.out⟩
    | false =>
      simp only [Bool.false_eq_true, if_false, Option.some.injEq, Prod.mk.injEq] at h
      obtain ⟨rfl, rfl, rfl, rfl⟩ := h
      go_enter Try.func32, Try.ntmps32
      go_wp2_with (first | (go_at_call 28; (with_reducible refine (proof_RootFromInclusionProof.calls k a0_0 a0_1 a0_2 a0_3 a0_4 a0_5 a1 a2 P3_ _ _ l3 _ _ l4 r none _ HS3.out HR4.out HC4.out HBB.out).mono ?_); rintro e w1 ⟨T_, X_, v, rfl, ho, hB⟩; obtain ⟨Ao, co, rfl⟩ := Kd.V_slice ho; have HO := Aside0.mk ho; have HB := Aside0.mk hB; clear ho hB; simp only [errW_none]) | (go_at_call 43; (with_reducible refine (proof_verifyMatch.diff _ _ r _ _ l5 _ (Kd.V_reads' HO.out).2.2 (Kd.V_reads' HO.out).2.1 (Kd.V_reads' (Kd.V_below HS5.out HB.out)).2.2 (Kd.V_reads' HS5.out).2.1 HTE.out).mono ?_); rintro e w2 ⟨rfl, hB2⟩; have HBL := Aside0.mk hB2; have HB2 := Aside0.mk (below_step HB.out hB2); clear hB2))
      go_ret
      exact ⟨.slice none 0 0, .slice A5 l5.length c5, .slice Ao r.length co, rfl, V_dummy _ _ _ _ _ _, Kd.V_mono (Kd.V_below HS5.out HB2.out) (fun k_ h_ => .inl (.inr h_)), Kd.V_mono (Kd.V_below HO.out HBL.out) (fun k_ h_ => Or.elim h_ (fun h_ => .inl (.inl h_)) .inr), HB2.out⟩

end Go.Proofs.Ytkmdkmlgahfcpaa.M

namespace Go.Proofs.Ytkmdkmlgahfcpaa.M
open Go.RowKit Go.Proofs.YtkmdkmlgahfcpaaW.PrintWords Go.Proofs.YtkmdkmlgahfcpaaW.PrintLast Go.Proofs.YtkmdkmlgahfcpaaW.PrintMore
attribute [local go_sem] max2_int min2_int max_two min_two max_three min_three max_four min_four   -- for this text's walks alone
set_option linter.unusedVariables false
set_option linter.unusedSimpArgs false

/-! ### impl_VerifyInclusion: function 18 -/
def impl_VerifyInclusion.f (k : Nat) (a0_0 : Int) (a0_1 : Int) (a0_2 : Int) (a0_3 : Int) (a0_4 : Int) (a0_5 : Int) (a1 : Int) (a2 : Int) (l3 : List Int) (l4 : List (List Int)) (l5 : List Int) : Option (Int × List Int) := (some (([] : List Int) : List Int)).bind fun y179 => (if y179.length + l3.length < 140737488355328 then ((impl_texts.f k l4).bind fun t185 => ((some (([] : List Int) : List Int)).bind fun y188 => (if y188.length + l5.length < 140737488355328 then ((proof_VerifyInclusion.f k a0_0 a0_1 a0_2 a0_3 a0_4 a0_5 a1 a2 (y179 ++ l3) t185 (y188 ++ l5)).bind fun bt194 => ((impl_verdict.f k bt194.1 bt194.2.1 bt194.2.2.1 bt194.2.2.2).bind fun bt204 => (some (bt204.1, bt204.2)))) else (none)))) else (none))
theorem impl_VerifyInclusion.mono : ∀ a0 a1 a2 a3 a4 a5 a6 a7 a8 a9 a10 k, LeO (impl_VerifyInclusion.f k a0 a1 a2 a3 a4 a5 a6 a7 a8 a9 a10) (impl_VerifyInclusion.f (k + 1) a0 a1 a2 a3 a4 a5 a6 a7 a8 a9 a10) := by
  intro a0 a1 a2 a3 a4 a5 a6 a7 a8 a9 a10 k
  unfold impl_VerifyInclusion.f
  repeat' first
      | (with_reducible exact impl_texts.mono _ _)
      | (with_reducible exact impl_verdict.mono _ _ _ _ _)
      | (with_reducible exact proof_VerifyInclusion.mono _ _ _ _ _ _ _ _ _ _ _ _)
      | (with_reducible exact LeO.refl _)
      | (with_reducible exact LeO.none _)
      | (with_reducible refine LeO.ite ?_ ?_)
      | (with_reducible refine LeO.bind ?_ (fun _ => ?_))
      | exact impl_texts.mono _ _
      | exact impl_verdict.mono _ _ _ _ _
      | exact proof_VerifyInclusion.mono _ _ _ _ _ _ _ _ _ _ _ _
      | exact LeO.none _
      | refine LeO.ite ?_ ?_
      | refine LeO.bind ?_ (fun _ => ?_)
def impl_VerifyInclusion.T1 : Bool × List (List Nat × List Nat) := (true, [([], []), ([0], [0]), ([1], [1]), ([], []), ([], []), ([], []), ([], []), ([5, 6], [5, 6]), ([], []), ([8, 7], [8]), ([], []), ([], []), ([10, 11, 9], [10, 11]), ([2, 3, 4, 7, 9, 12, 12], [2, 3, 4, 7, 9, 12]), ([13, 13], [13]), ([14], [14]), ([14], [14]), ([15, 14, 0, 1, 2, 3, 4, 5, 6, 7, 8, 9, 10, 11, 12, 13, 14, 15, 16], [15]), ([16, 17, 0, 1, 2, 3, 4, 5, 6, 7, 8, 9, 10, 11, 12, 13, 14, 15, 16, 17], [16])])
def impl_VerifyInclusion.B1 : List Nat := [0, 1, 3, 0, 0, 0, 0, 96, 0, 480, 0, 0, 4064, 8191, 16383, 32767, 32767, 131071, 262143]
theorem impl_VerifyInclusion.tab1 : rtab .any (opsOf Try.f18 1) = impl_VerifyInclusion.T1 := by kernel_rfl
theorem impl_VerifyInclusion.bits1 : waitsOk impl_VerifyInclusion.T1.2 impl_VerifyInclusion.B1 = true := by kernel_rfl
set_option maxHeartbeats 8000000 in
set_option maxRecDepth 100000 in
theorem impl_VerifyInclusion.calls (k : Nat) (a0_0 : Int) (a0_1 : Int) (a0_2 : Int) (a0_3 : Int) (a0_4 : Int) (a0_5 : Int) (a1 : Int) (a2 : Int) (A3 : Option Addr) (c3 : Nat) (l3 : List Int) (A4 : Option Addr) (c4 : Nat) (l4 : List (List Int)) (A5 : Option Addr) (c5 : Nat) (l5 : List Int) (r1 : Int) (r2 : List Int) (w : World) (hr3 : Kd.C (Kd.int .u8) w A3 l3.length l3) (hc3 : l3.length ≤ c3) (hr4 : Kd.C (Kd.slice 5 (Kd.int .u8)) w A4 l4.length l4) (hc4 : l4.length ≤ c4) (hr5 : Kd.C (Kd.int .u8) w A5 l5.length l5) (hc5 : l5.length ≤ c5) (h : impl_VerifyInclusion.f k a0_0 a0_1 a0_2 a0_3 a0_4 a0_5 a1 a2 l3 l4 l5 = some (r1, r2)) :
    Calls Try.prog 18 #[.agg #[.int .i64 a0_0, .int .i64 a0_1, .int .i64 a0_2, .int .u64 a0_3, .int .u64 a0_4, .int .u64 a0_5], .int .u64 a1, .int .u64 a2, .slice A3 l3.length c3, .slice A4 l4.length c4, .slice A5 l5.length c5] w fun e w' => ∃ v1_ : Value, e = .returned (.tuple #[.int .i64 r1, v1_]) ∧ Kd.R (Kd.int .u8) 5 w' w.heap.size (fun _ => True) v1_ r2 ∧ Below w.heap.size w w' := by
  have hu29 := Try.underlying29
  have hu52 := Try.underlying52
  have HR3 := Aside0.mk hr3
  have HC3 := Aside0.mk hc3
  clear hr3 hc3
  have HR4 := Aside0.mk hr4
  have HC4 := Aside0.mk hc4
  clear hr4 hc4
  have HR5 := Aside0.mk hr5
  have HC5 := Aside0.mk hc5
  clear hr5 hc5
  have HB := Aside0.mk (Below.refl w.heap.size w)
  have H : ((some (([] : List Int) : List Int)).bind fun y179 => (if y179.length + l3.length < 140737488355328 then ((impl_texts.f k l4).bind fun t185 => ((some (([] : List Int) : List Int)).bind fun y188 => (if y188.length + l5.length < 140737488355328 then ((proof_VerifyInclusion.f k a0_0 a0_1 a0_2 a0_3 a0_4 a0_5 a1 a2 (y179 ++ l3) t185 (y188 ++ l5)).bind fun bt194 => ((impl_verdict.f k bt194.1 bt194.2.1 bt194.2.2.1 bt194.2.2.2).bind fun bt204 => (some (bt204.1, bt204.2)))) else (none)))) else (none))) = some (r1, r2) := h
  clear h
  obtain ⟨y179, hy179⟩ : ∃ y_ : List Int, y_ = (([] : List Int)) := ⟨_, rfl⟩
  replace H : (if y179.length + l3.length < 140737488355328 then ((impl_texts.f k l4).bind fun t185 => ((some (([] : List Int) : List Int)).bind fun y188 => (if y188.length + l5.length < 140737488355328 then ((proof_VerifyInclusion.f k a0_0 a0_1 a0_2 a0_3 a0_4 a0_5 a1 a2 (y179 ++ l3) t185 (y188 ++ l5)).bind fun bt194 => ((impl_verdict.f k bt194.1 bt194.2.1 bt194.2.2.1 bt194.2.2.2).bind fun bt204 => (some (bt204.1, bt204.2)))) else (none)))) else (none)) = some (r1, r2) := by first | (rw [hy179]; with_reducible exact H) | (have H2_ := (Option.bind_some _ _).symm.trans H; rw [hy179]; with_reducible exact H2_) | (have H2_ := (Option.bind_some _ _).symm.trans H; with_reducible exact H2_) | with_reducible exact H | (rw [hy179]; exact H) | exact H
  have Ny179 := Aside0.mk hy179
  clear hy179
  by_cases c7 : y179.length + l3.length < 140737488355328
  · rw [if_pos c7] at H
    have LMc7 := Aside0.mk c7
    clear c7
    obtain ⟨y182, hy182⟩ : ∃ y_ : List Int, y_ = (y179 ++ l3) := ⟨_, rfl⟩
    replace H : ((impl_texts.f k l4).bind fun t185 => ((some (([] : List Int) : List Int)).bind fun y188 => (if y188.length + l5.length < 140737488355328 then ((proof_VerifyInclusion.f k a0_0 a0_1 a0_2 a0_3 a0_4 a0_5 a1 a2 y182 t185 (y188 ++ l5)).bind fun bt194 => ((impl_verdict.f k bt194.1 bt194.2.1 bt194.2.2.1 bt194.2.2.2).bind fun bt204 => (some (bt204.1, bt204.2)))) else (none)))) = some (r1, r2) := by first | (rw [hy182]; with_reducible exact H) | (have H2_ := (Option.bind_some _ _).symm.trans H; rw [hy182]; with_reducible exact H2_) | (have H2_ := (Option.bind_some _ _).symm.trans H; with_reducible exact H2_) | with_reducible exact H | (rw [hy182]; exact H) | exact H
    have Ny182 := Aside0.mk hy182
    clear hy182
    replace H := Option.bind_eq_some_iff.mp H
    obtain ⟨t185, A80, H⟩ := H
    replace H : ((some (([] : List Int) : List Int)).bind fun y188 => (if y188.length + l5.length < 140737488355328 then ((proof_VerifyInclusion.f k a0_0 a0_1 a0_2 a0_3 a0_4 a0_5 a1 a2 y182 t185 (y188 ++ l5)).bind fun bt194 => ((impl_verdict.f k bt194.1 bt194.2.1 bt194.2.2.1 bt194.2.2.2).bind fun bt204 => (some (bt204.1, bt204.2)))) else (none))) = some (r1, r2) := H
    have A8 := Aside0.mk A80
    clear A80
    obtain ⟨y188, hy188⟩ : ∃ y_ : List Int, y_ = (([] : List Int)) := ⟨_, rfl⟩
    replace H : (if y188.length + l5.length < 140737488355328 then ((proof_VerifyInclusion.f k a0_0 a0_1 a0_2 a0_3 a0_4 a0_5 a1 a2 y182 t185 (y188 ++ l5)).bind fun bt194 => ((impl_verdict.f k bt194.1 bt194.2.1 bt194.2.2.1 bt194.2.2.2).bind fun bt204 => (some (bt204.1, bt204.2)))) else (none)) = some (r1, r2) := by first | (rw [hy188]; with_reducible exact H) | (have H2_ := (Option.bind_some _ _).symm.trans H; rw [hy188]; with_reducible exact H2_) | (have H2_ := (Option.bind_some _ _).symm.trans H; with_reducible exact H2_) | with_reducible exact H | (rw [hy188]; exact H) | exact H
    have Ny188 := Aside0.mk hy188
    clear hy188
    by_cases c9 : y188.length + l5.length < 140737488355328
    · rw [if_pos c9] at H
      have LMc9 := Aside0.mk c9
      clear c9
      obtain ⟨y191, hy191⟩ : ∃ y_ : List Int, y_ = (y188 ++ l5) := ⟨_, rfl⟩
      replace H : ((proof_VerifyInclusion.f k a0_0 a0_1 a0_2 a0_3 a0_4 a0_5 a1 a2 y182 t185 y191).bind fun bt194 => ((impl_verdict.f k bt194.1 bt194.2.1 bt194.2.2.1 bt194.2.2.2).bind fun bt204 => (some (bt204.1, bt204.2)))) = some (r1, r2) := by first | (rw [hy191]; with_reducible exact H) | (have H2_ := (Option.bind_some _ _).symm.trans H; rw [hy191]; with_reducible exact H2_) | (have H2_ := (Option.bind_some _ _).symm.trans H; with_reducible exact H2_) | with_reducible exact H | (rw [hy191]; exact H) | exact H
      have Ny191 := Aside0.mk hy191
      clear hy191
      replace H := Option.bind_eq_some_iff.mp H
      obtain ⟨⟨t194, t195, t198, t201⟩, A100, H⟩ := H
      replace H : ((impl_verdict.f k t194 t195 t198 t201).bind fun bt204 => (some (bt204.1, bt204.2))) = some (r1, r2) := H
      have A10 := Aside0.mk A100
      clear A100
      replace H := Option.bind_eq_some_iff.mp H
      obtain ⟨⟨t204, t205⟩, A110, H⟩ := H
      replace H : (some (t204, t205)) = some (r1, r2) := H
      have A11 := Aside0.mk A110
      clear A110
      simp only [Option.some.injEq, Prod.mk.injEq] at H
      obtain ⟨rfl, rfl⟩ := H
      go_enter Try.func18, Try.ntmps18
      try go_wp2_with (first | ((with_reducible refine gate_dst (N := 6) rfl ?_); refine box_event ?hg (N := 6) ?hd (cs := #[.int .i64 a0_0, .int .i64 a0_1, .int .i64 a0_2, .int .u64 a0_3, .int .u64 a0_4, .int .u64 a0_5]) (t := 29) ?hr ?_; (case hd => rfl); (case hg => rfl); (case hr => first | (go_simp; done) | (go_simp; rfl)); intro gb178 hg w12 hbox hb; have n0_ := Aside0.mk (below_step (by repeat (first | (with_reducible first | exact HB.out | apply below_alloc | apply pw_below_drewN | apply below_drew1) | exact HB.out)) hb); have n1_ := Aside0.mk (hbox); have n2_ := Aside0.mk ((by rw [hg]; exact (below_size (by repeat (first | (with_reducible first | exact HB.out | apply below_alloc | apply pw_below_drewN | apply below_drew1) | exact HB.out))) : w.heap.size ≤ gb178)); have n3_ := Aside0.mk ((by rw [hg]; exact (below_size (by repeat (first | (with_reducible first | exact HB.out | apply below_alloc | apply pw_below_drewN | apply below_drew1) | exact HB.out))) : w.heap.size ≤ gb178)); clear HB; have HB := n0_; have BK178 := n1_; have GW178 := n2_; have GE178 := n3_; clear n0_ n1_ n2_ n3_; clear hb hbox hg))
      have n0_ := Aside0.mk (blk_drew BK178.out)
      have n1_ := Aside0.mk (below_drew1 HB.out)
      clear BK178
      clear HB
      have BK178 := n0_
      have HB := n1_
      clear n0_ n1_
      refine start_ (n := 19) (S := fun w' => w'.cell? ⟨gb178, 0, none⟩ = some (.int .i64 a0_0) ∧ w'.cell? ⟨gb178, 1, none⟩ = some (.int .i64 a0_1) ∧ w'.cell? ⟨gb178, 2, none⟩ = some (.int .i64 a0_2) ∧ w'.cell? ⟨gb178, 3, none⟩ = some (.int .u64 a0_3) ∧ w'.cell? ⟨gb178, 4, none⟩ = some (.int .u64 a0_4) ∧ w'.cell? ⟨gb178, 5, none⟩ = some (.int .u64 a0_5)) (ds := []) #[false, false, false, false, false, false, false, false, false, false, false, false, false, false, false, false, false, false, false] (by kernel_rfl) rfl rfl ⟨(blk_cell BK178.out 0).trans rfl, (blk_cell BK178.out 1).trans rfl, (blk_cell BK178.out 2).trans rfl, (blk_cell BK178.out 3).trans rfl, (blk_cell BK178.out 4).trans rfl, (blk_cell BK178.out 5).trans rfl⟩ (fun hHeld => ?_); refine with_tabW impl_VerifyInclusion.tab1 impl_VerifyInclusion.bits1 (fun HT_ HW_ => ?_)
      generalize w12.drew = w13 at BK178 HB hHeld ⊢
      refine pure_ (i := 3) (N := some 17) (v := ?_) (a' := ?_) #[false, false, false, true, false, false, false, false, false, false, false, false, false, false, false, false, false, false, false] rfl rfl (any_of HT_.out (by kernel_rfl)) (fun _ _ _ h => h) (Or.inl ⟨by rfl, ?_⟩) ?_ ?_
      rotate_left
      · intro w'
        go_simp
        with_reducible rfl
      rotate_left
      · simp only [Act.put, List.setIfInBounds_toArray, List.set_cons_zero, List.set_cons_succ, i64_w, i32_w]
        rfl
      refine pure_ (i := 4) (N := some 18) (v := ?_) (a' := ?_) #[false, false, false, true, true, false, false, false, false, false, false, false, false, false, false, false, false, false, false] rfl rfl (any_of HT_.out (by kernel_rfl)) (fun _ _ _ h => h) (Or.inl ⟨by rfl, ?_⟩) ?_ ?_
      rotate_left
      · intro w'
        go_simp
        with_reducible rfl
      rotate_left
      · simp only [Act.put, List.setIfInBounds_toArray, List.set_cons_zero, List.set_cons_succ, i64_w, i32_w]
        rfl
      refine pure_ (i := 6) (N := some 20) (v := ?_) (a' := ?_) #[false, false, false, true, true, false, true, false, false, false, false, false, false, false, false, false, false, false, false] rfl rfl (any_of HT_.out (by kernel_rfl)) (fun _ _ _ h => h) (Or.inl ⟨by rfl, ?_⟩) ?_ ?_
      rotate_left
      · intro w'
        go_simp
        with_reducible rfl
      rotate_left
      · simp only [Act.put, List.setIfInBounds_toArray, List.set_cons_zero, List.set_cons_succ, i64_w, i32_w]
        rfl
      refine pure_ (i := 8) (N := some 22) (v := ?_) (a' := ?_) #[false, false, false, true, true, false, true, false, true, false, false, false, false, false, false, false, false, false, false] rfl rfl (any_of HT_.out (by kernel_rfl)) (fun _ _ _ h => h) (Or.inl ⟨by rfl, ?_⟩) ?_ ?_
      rotate_left
      · intro w'
        go_simp
        with_reducible rfl
      rotate_left
      · simp only [Act.put, List.setIfInBounds_toArray, List.set_cons_zero, List.set_cons_succ, i64_w, i32_w]
        rfl
      refine pure_ (i := 11) (N := some 25) (v := ?_) (a' := ?_) #[false, false, false, true, true, false, true, false, true, false, false, true, false, false, false, false, false, false, false] rfl rfl (any_of HT_.out (by kernel_rfl)) (fun _ _ _ h => h) (Or.inl ⟨by rfl, ?_⟩) ?_ ?_
      rotate_left
      · intro w'
        go_simp
        with_reducible rfl
      rotate_left
      · simp only [Act.put, List.setIfInBounds_toArray, List.set_cons_zero, List.set_cons_succ, i64_w, i32_w]
        rfl
      refine take_ (i := 0) (N := some 14) (v := ?_) (a' := ?_) #[true, false, false, true, true, false, true, false, true, false, false, true, false, false, false, false, false, false, false] rfl rfl (take_ofW HT_.out HW_.out (by kernel_rfl)) (fun _ _ _ h => h) (Or.inl ⟨by rfl, ?_⟩) hHeld ?_ ?_
      rotate_left
      · rintro w' ⟨s0, s1, s2, s3, s4, s5⟩
        go_simp
        with_reducible rfl
      rotate_left
      · simp only [Act.put, List.setIfInBounds_toArray, List.set_cons_zero, List.set_cons_succ, i64_w, i32_w]
        rfl
      refine pure_ (i := 1) (N := some 15) (v := ?_) (a' := ?_) #[true, true, false, true, true, false, true, false, true, false, false, true, false, false, false, false, false, false, false] rfl rfl (any_of HT_.out (by kernel_rfl)) (fun _ _ _ h => h) (Or.inl ⟨by rfl, ?_⟩) ?_ ?_
      rotate_left
      · intro w'
        go_simp
        with_reducible rfl
      rotate_left
      · simp only [Act.put, List.setIfInBounds_toArray, List.set_cons_zero, List.set_cons_succ, i64_w, i32_w]
        rfl
      refine pure_ (i := 2) (N := some 16) (v := ?_) (a' := ?_) #[true, true, true, true, true, false, true, false, true, false, false, true, false, false, false, false, false, false, false] rfl rfl (any_of HT_.out (by kernel_rfl)) (fun _ _ _ h => h) (Or.inl ⟨by rfl, ?_⟩) ?_ ?_
      rotate_left
      · intro w'
        go_simp
        with_reducible rfl
      rotate_left
      · simp only [Act.put, List.setIfInBounds_toArray, List.set_cons_zero, List.set_cons_succ, i64_w, i32_w]
        rfl
      refine join_ (σ := Value × Value × Value × Value) 7 #[true, true, true, true, true, true, true, true, true, true, true, true, false, false, false, false, false, false, false] (fun s_ => [(19, s_.1), (21, s_.2.1), (23, s_.2.2.1), (24, s_.2.2.2)]) (fun s_ w' => (w'.cell? ⟨gb178, 0, none⟩ = some (.int .i64 a0_0) ∧ w'.cell? ⟨gb178, 1, none⟩ = some (.int .i64 a0_1) ∧ w'.cell? ⟨gb178, 2, none⟩ = some (.int .i64 a0_2) ∧ w'.cell? ⟨gb178, 3, none⟩ = some (.int .u64 a0_3) ∧ w'.cell? ⟨gb178, 4, none⟩ = some (.int .u64 a0_4) ∧ w'.cell? ⟨gb178, 5, none⟩ = some (.int .u64 a0_5)) ∧ (Kd.R (Kd.int .u8) 5 w' w.heap.size (fun k_ => some k_ ≠ (s_.2.2.2 : Value).ownBlock) s_.2.1 y182) ∧ (Kd.S (Kd.slice 5 (Kd.int .u8)) 30 w' w.heap.size (fun k_ => some k_ ≠ (s_.2.1 : Value).ownBlock ∧ some k_ ≠ (s_.2.2.2 : Value).ownBlock) s_.2.2.1 t185) ∧ (Kd.R (Kd.int .u8) 5 w' w.heap.size (fun k_ => some k_ ≠ (s_.2.1 : Value).ownBlock) s_.2.2.2 y188) ∧ (w'.heap[gb178]? = some (.cells #[.int .i64 a0_0, .int .i64 a0_1, .int .i64 a0_2, .int .u64 a0_3, .int .u64 a0_4, .int .u64 a0_5] 29 (0, 0))) ∧ (Below w.heap.size w w')) ?_ ?_
      rotate_left
      · intro hCont
        refine two_ (i := 5) (j := 10) (Ni := some 19) (Nj := some 24) #[true, true, true, true, true, true, true, false, true, false, false, true, false, false, false, false, false, false, false] #[true, true, true, true, true, false, true, false, true, false, true, true, false, false, false, false, false, false, false] rfl rfl rfl rfl (two_of HT_.out (by kernel_rfl)) (by decide) (by decide) (fun K hK => ?_) (fun K hK => ?_)
        · skip
          refine Kd.R_lit_step (Kd.int .u8) _ 5 ?hg (N := 19) ?hd (xs := ([] : List Int)) (inner := []) (ok := fun _ => True) (okp := fun _ => True) ?hr ?hp (fun _ hk => hk) trivial (Below.refl _ _) (Nat.le_refl _) (by simp) ?_; (case hd => rfl); (case hg => rfl); (case hr => first | (go_simp; done) | (go_simp; rfl)); (case hp => exact (Reps.none _ _))
          intro v180 w14 ho15 hb hg_ hnew_
          clear hg_ hnew_
          (first | rw [← Ny179.out] at ho15 | (simp only [Int.reduceToNat] at ho15; rw [← Ny179.out] at ho15))
          have n0_ := Aside0.mk (Kd.R_lower ho15 (below_size (by repeat (first | (with_reducible first | exact HB.out | apply below_alloc | apply pw_below_drewN | apply below_drew1 | refine below_set ?_ GE178.out) | exact HB.out))))
          have n1_ := Aside0.mk (blk_below (g := gb178) (o := .cells #[.int .i64 a0_0, .int .i64 a0_1, .int .i64 a0_2, .int .u64 a0_3, .int .u64 a0_4, .int .u64 a0_5] 29 (0, 0)) (by (with_reducible repeat (first | refine blk_drewN ?_ _ | refine blk_drew ?_ | refine blk_alloc ?_ _)); exact BK178.out) hb)
          have n2_ := Aside0.mk (below_step (by repeat (first | (with_reducible first | exact HB.out | apply below_alloc | apply pw_below_drewN | apply below_drew1 | refine below_set ?_ GE178.out) | exact HB.out)) hb)
          clear BK178
          clear HB
          have HO181 := n0_
          have BK178 := n1_
          have HB := n2_
          clear n0_ n1_ n2_
          clear hb ho15
          refine hK.out _ _ ⟨(blk_cell BK178.out 0).trans rfl, (blk_cell BK178.out 1).trans rfl, (blk_cell BK178.out 2).trans rfl, (blk_cell BK178.out 3).trans rfl, (blk_cell BK178.out 4).trans rfl, (blk_cell BK178.out 5).trans rfl⟩ (fun hHeld => ?_)
          clear hK K
          refine norm_ (a' := ?_) ?_ ?_
          rotate_left
          · show Act.put _ (some 19) _ = _
            simp only [Act.put, List.setIfInBounds_toArray, List.set_cons_zero, List.set_cons_succ, i64_w, i32_w]
            rfl
          refine two_ (i := 7) (j := 10) (Ni := some 21) (Nj := some 24) #[true, true, true, true, true, true, true, true, true, false, false, true, false, false, false, false, false, false, false] #[true, true, true, true, true, true, true, false, true, false, true, true, false, false, false, false, false, false, false] rfl rfl rfl rfl (two_of HT_.out (by kernel_rfl)) (by decide) (by decide) (fun K hK => ?_) (fun K hK => ?_)
          · skip
            refine Kd.R_append_rows_step (Kd.int .u8) (w0 := w) w.heap.size (by rfl) (.tmp 19) (.tmp 20) 30 5 (.int .u8 0) 1 rfl Try.underlying30 info5 rfl (by decide) (by omega) v180 y179 l3 _ _ _ (fun _ => True) (fun _ => False) rfl rfl ?aO ?aR (fun _ _ h => h) (fun _ h => h.elim) ?aF ?aB ?aS ?aL ?_
            (case aR => repeat (first | exact (Kd.C_below HR3.out HB.out) | (with_reducible refine Kd.C_alloc ?_ _) | (with_reducible refine Kd.C_drewN ?_ _) | (with_reducible refine Kd.C_drew ?_)))
            (case aB => exact (by repeat (first | (with_reducible first | exact HB.out | apply below_alloc | apply pw_below_drewN | apply below_drew1 | refine below_set ?_ GE178.out) | exact HB.out)))
            (case aF => exact (fun _ _ => trivial))
            (case aO => exact (by (with_reducible repeat (first | apply Kd.R_alloc | apply Kd.R_drewN | apply Kd.R_drew)); exact HO181.out))
            (case aS => exact (below_size (by repeat (first | (with_reducible first | exact HB.out | apply below_alloc | apply pw_below_drewN | apply below_drew1 | refine below_set ?_ GE178.out) | exact HB.out))))
            (case aL => have := LMc7.out; omega)
            intro v183 w16 ho hb hg hat
            rw [← Ny182.out] at ho
            have n0_ := Aside0.mk (blk_grown (g := gb178) (o := .cells #[.int .i64 a0_0, .int .i64 a0_1, .int .i64 a0_2, .int .u64 a0_3, .int .u64 a0_4, .int .u64 a0_5] 29 (0, 0)) (by (with_reducible repeat (first | refine blk_drewN ?_ _ | refine blk_drew ?_ | refine blk_alloc ?_ _)); exact BK178.out) hg (Kd.R_ne HO181.out BK178.out (by decide)))
            have n1_ := Aside0.mk (hb)
            have n2_ := Aside0.mk (ho)
            clear BK178
            clear HB
            clear HO181
            have BK178 := n0_
            have HB := n1_
            have HO184 := n2_
            clear n0_ n1_ n2_
            clear ho hb hg hat
            refine hK.out _ _ ⟨(blk_cell BK178.out 0).trans rfl, (blk_cell BK178.out 1).trans rfl, (blk_cell BK178.out 2).trans rfl, (blk_cell BK178.out 3).trans rfl, (blk_cell BK178.out 4).trans rfl, (blk_cell BK178.out 5).trans rfl⟩ (fun hHeld => ?_)
            clear hK K
            refine norm_ (a' := ?_) ?_ ?_
            rotate_left
            · show Act.put _ (some 21) _ = _
              simp only [Act.put, List.setIfInBounds_toArray, List.set_cons_zero, List.set_cons_succ, i64_w, i32_w]
              rfl
            refine two_ (i := 9) (j := 10) (Ni := some 23) (Nj := some 24) #[true, true, true, true, true, true, true, true, true, true, false, true, false, false, false, false, false, false, false] #[true, true, true, true, true, true, true, true, true, false, true, true, false, false, false, false, false, false, false] rfl rfl rfl rfl (two_of HT_.out (by kernel_rfl)) (by decide) (by decide) (fun K hK => ?_) (fun K hK => ?_)
            · skip
              refine goes_ Try.func23 (by kernel_rfl) rfl #[.slice A4 l4.length c4] (by rfl) rfl rfl (by (try simp only [List.map_toArray, List.map_cons, List.map_nil]); first | done | rfl | (simp only [List.length_drop, List.length_take]; rfl)) ?_
              with_reducible refine (impl_texts.calls k _ _ l4 t185 _ ?side1 ?side2 A8.out).mono ?_
              (case side1 => repeat (first | exact (Kd.C_below HR4.out HB.out) | (with_reducible refine Kd.C_alloc ?_ _) | (with_reducible refine Kd.C_drewN ?_ _) | (with_reducible refine Kd.C_drew ?_)))
              (case side2 => exact HC4.out)
              rintro e w17 ⟨v186, rfl, ho0, hb⟩
              refine ⟨_, rfl, ?_⟩
              have n0_ := Aside0.mk (Kd.R_below (by (with_reducible repeat (first | apply Kd.R_alloc | apply Kd.R_drewN | apply Kd.R_drew)); exact HO184.out) hb)
              have n1_ := Aside0.mk (Kd.S_lower (Kd.S_new' ho0 (Kd.R_lt (by (with_reducible repeat (first | apply Kd.R_alloc | apply Kd.R_drewN | apply Kd.R_drew)); exact HO184.out))) (below_size (by repeat (first | (with_reducible first | exact HB.out | apply below_alloc | apply pw_below_drewN | apply below_drew1 | refine below_set ?_ GE178.out) | exact HB.out))))
              have n2_ := Aside0.mk (blk_below (g := gb178) (o := .cells #[.int .i64 a0_0, .int .i64 a0_1, .int .i64 a0_2, .int .u64 a0_3, .int .u64 a0_4, .int .u64 a0_5] 29 (0, 0)) (by (with_reducible repeat (first | refine blk_drewN ?_ _ | refine blk_drew ?_ | refine blk_alloc ?_ _)); exact BK178.out) hb)
              have n3_ := Aside0.mk (below_step (by repeat (first | (with_reducible first | exact HB.out | apply below_alloc | apply pw_below_drewN | apply below_drew1 | refine below_set ?_ GE178.out) | exact HB.out)) hb)
              clear HO184
              clear BK178
              clear HB
              have HO184 := n0_
              have HO187 := n1_
              have BK178 := n2_
              have HB := n3_
              clear n0_ n1_ n2_ n3_
              (try clear hb)
              (try clear hb2)
              (try clear hk)
              (try clear hi)
              (try clear ho0)
              refine hK.out _ _ ⟨(blk_cell BK178.out 0).trans rfl, (blk_cell BK178.out 1).trans rfl, (blk_cell BK178.out 2).trans rfl, (blk_cell BK178.out 3).trans rfl, (blk_cell BK178.out 4).trans rfl, (blk_cell BK178.out 5).trans rfl⟩ (fun hHeld => ?_)
              clear hK K
              refine norm_ (a' := ?_) ?_ ?_
              rotate_left
              · show Act.put _ (some 23) _ = _
                simp only [Act.put, List.setIfInBounds_toArray, List.set_cons_zero, List.set_cons_succ, i64_w, i32_w]
                rfl
              refine one_ (i := 10) (N := some 24) #[true, true, true, true, true, true, true, true, true, true, true, true, false, false, false, false, false, false, false] rfl rfl (one_of HT_.out (by kernel_rfl)) (by decide) (fun K hK => ?_)
              refine Kd.R_lit_step (Kd.int .u8) _ 5 ?hg (N := 24) ?hd (xs := ([] : List Int)) (inner := []) (ok := fun _ => True) (okp := fun _ => True) ?hr ?hp (fun _ hk => hk) trivial (Below.refl _ _) (Nat.le_refl _) (by simp) ?_; (case hd => rfl); (case hg => rfl); (case hr => first | (go_simp; done) | (go_simp; rfl)); (case hp => exact (Reps.none _ _))
              intro v189 w18 ho19 hb hg_ hnew_
              clear hg_ hnew_
              (first | rw [← Ny188.out] at ho19 | (simp only [Int.reduceToNat] at ho19; rw [← Ny188.out] at ho19))
              have n0_ := Aside0.mk (Kd.R_elder' (by (with_reducible repeat (first | apply Kd.R_alloc | apply Kd.R_drewN | apply Kd.R_drew)); exact HO184.out) (Kd.R_base ho19) hb)
              have n1_ := Aside0.mk (Kd.S_elder' (by (with_reducible repeat (first | apply Kd.S_alloc | apply Kd.S_drewN | apply Kd.S_drew)); exact HO187.out) (Kd.R_base ho19) hb)
              have n2_ := Aside0.mk (Kd.R_lower (Kd.R_new' ho19 (Kd.R_lt (by (with_reducible repeat (first | apply Kd.R_alloc | apply Kd.R_drewN | apply Kd.R_drew)); exact HO184.out))) (below_size (by repeat (first | (with_reducible first | exact HB.out | apply below_alloc | apply pw_below_drewN | apply below_drew1 | refine below_set ?_ GE178.out) | exact HB.out))))
              have n3_ := Aside0.mk (blk_below (g := gb178) (o := .cells #[.int .i64 a0_0, .int .i64 a0_1, .int .i64 a0_2, .int .u64 a0_3, .int .u64 a0_4, .int .u64 a0_5] 29 (0, 0)) (by (with_reducible repeat (first | refine blk_drewN ?_ _ | refine blk_drew ?_ | refine blk_alloc ?_ _)); exact BK178.out) hb)
              have n4_ := Aside0.mk (below_step (by repeat (first | (with_reducible first | exact HB.out | apply below_alloc | apply pw_below_drewN | apply below_drew1 | refine below_set ?_ GE178.out) | exact HB.out)) hb)
              clear HO184
              clear HO187
              clear BK178
              clear HB
              have HO184 := n0_
              have HO187 := n1_
              have HO190 := n2_
              have BK178 := n3_
              have HB := n4_
              clear n0_ n1_ n2_ n3_ n4_
              clear hb ho19
              refine hK.out _ _ ⟨(blk_cell BK178.out 0).trans rfl, (blk_cell BK178.out 1).trans rfl, (blk_cell BK178.out 2).trans rfl, (blk_cell BK178.out 3).trans rfl, (blk_cell BK178.out 4).trans rfl, (blk_cell BK178.out 5).trans rfl⟩ (fun hHeld => ?_)
              clear hK K
              refine norm_ (a' := ?_) ?_ ?_
              rotate_left
              · show Act.put _ (some 24) _ = _
                simp only [Act.put, List.setIfInBounds_toArray, List.set_cons_zero, List.set_cons_succ, i64_w, i32_w]
                rfl
              exact norm_ (by simp only [putAll, Act.put, List.setIfInBounds_toArray, List.set_cons_zero, List.set_cons_succ]) (hCont (v180, v183, v186, v189) _ ⟨hHeld, (by (with_reducible repeat (first | apply Kd.R_alloc | apply Kd.R_drewN | apply Kd.R_drew)); exact Kd.R_mono HO184.out (fun _ hk => hk.2)), (by (with_reducible repeat (first | apply Kd.S_alloc | apply Kd.S_drewN | apply Kd.S_drew)); exact Kd.S_mono HO187.out (fun _ hk => ⟨hk.1.2, hk.2⟩)), (by (with_reducible repeat (first | apply Kd.R_alloc | apply Kd.R_drewN | apply Kd.R_drew)); exact Kd.R_mono HO190.out (fun _ hk => hk.2)), (by (with_reducible repeat (first | refine blk_drewN ?_ _ | refine blk_drew ?_ | refine blk_alloc ?_ _)); exact BK178.out), (by repeat (first | (with_reducible first | exact HB.out | apply below_alloc | apply pw_below_drewN | apply below_drew1 | refine below_set ?_ GE178.out) | exact HB.out))⟩)
            · skip
              refine Kd.R_lit_step (Kd.int .u8) _ 5 ?hg (N := 24) ?hd (xs := ([] : List Int)) (inner := []) (ok := fun _ => True) (okp := fun _ => True) ?hr ?hp (fun _ hk => hk) trivial (Below.refl _ _) (Nat.le_refl _) (by simp) ?_; (case hd => rfl); (case hg => rfl); (case hr => first | (go_simp; done) | (go_simp; rfl)); (case hp => exact (Reps.none _ _))
              intro v189 w17 ho18 hb hg_ hnew_
              clear hg_ hnew_
              (first | rw [← Ny188.out] at ho18 | (simp only [Int.reduceToNat] at ho18; rw [← Ny188.out] at ho18))
              have n0_ := Aside0.mk (Kd.R_elder' (by (with_reducible repeat (first | apply Kd.R_alloc | apply Kd.R_drewN | apply Kd.R_drew)); exact HO184.out) (Kd.R_base ho18) hb)
              have n1_ := Aside0.mk (Kd.R_lower (Kd.R_new' ho18 (Kd.R_lt (by (with_reducible repeat (first | apply Kd.R_alloc | apply Kd.R_drewN | apply Kd.R_drew)); exact HO184.out))) (below_size (by repeat (first | (with_reducible first | exact HB.out | apply below_alloc | apply pw_below_drewN | apply below_drew1 | refine below_set ?_ GE178.out) | exact HB.out))))
              have n2_ := Aside0.mk (blk_below (g := gb178) (o := .cells #[.int .i64 a0_0, .int .i64 a0_1, .int .i64 a0_2, .int .u64 a0_3, .int .u64 a0_4, .int .u64 a0_5] 29 (0, 0)) (by (with_reducible repeat (first | refine blk_drewN ?_ _ | refine blk_drew ?_ | refine blk_alloc ?_ _)); exact BK178.out) hb)
              have n3_ := Aside0.mk (below_step (by repeat (first | (with_reducible first | exact HB.out | apply below_alloc | apply pw_below_drewN | apply below_drew1 | refine below_set ?_ GE178.out) | exact HB.out)) hb)
              clear HO184
              clear BK178
              clear HB
              have HO184 := n0_
              have HO190 := n1_
              have BK178 := n2_
              have HB := n3_
              clear n0_ n1_ n2_ n3_
              clear hb ho18
              refine hK.out _ _ ⟨(blk_cell BK178.out 0).trans rfl, (blk_cell BK178.out 1).trans rfl, (blk_cell BK178.out 2).trans rfl, (blk_cell BK178.out 3).trans rfl, (blk_cell BK178.out 4).trans rfl, (blk_cell BK178.out 5).trans rfl⟩ (fun hHeld => ?_)
              clear hK K
              refine norm_ (a' := ?_) ?_ ?_
              rotate_left
              · show Act.put _ (some 24) _ = _
                simp only [Act.put, List.setIfInBounds_toArray, List.set_cons_zero, List.set_cons_succ, i64_w, i32_w]
                rfl
              refine one_ (i := 9) (N := some 23) #[true, true, true, true, true, true, true, true, true, true, true, true, false, false, false, false, false, false, false] rfl rfl (one_of HT_.out (by kernel_rfl)) (by decide) (fun K hK => ?_)
              refine goes_ Try.func23 (by kernel_rfl) rfl #[.slice A4 l4.length c4] (by rfl) rfl rfl (by (try simp only [List.map_toArray, List.map_cons, List.map_nil]); first | done | rfl | (simp only [List.length_drop, List.length_take]; rfl)) ?_
              with_reducible refine (impl_texts.calls k _ _ l4 t185 _ ?side1 ?side2 A8.out).mono ?_
              (case side1 => repeat (first | exact (Kd.C_below HR4.out HB.out) | (with_reducible refine Kd.C_alloc ?_ _) | (with_reducible refine Kd.C_drewN ?_ _) | (with_reducible refine Kd.C_drew ?_)))
              (case side2 => exact HC4.out)
              rintro e w19 ⟨v186, rfl, ho0, hb⟩
              refine ⟨_, rfl, ?_⟩
              have n0_ := Aside0.mk (Kd.R_below (by (with_reducible repeat (first | apply Kd.R_alloc | apply Kd.R_drewN | apply Kd.R_drew)); exact HO184.out) hb)
              have n1_ := Aside0.mk (Kd.R_below (by (with_reducible repeat (first | apply Kd.R_alloc | apply Kd.R_drewN | apply Kd.R_drew)); exact HO190.out) hb)
              have n2_ := Aside0.mk (Kd.S_lower (Kd.S_new' (Kd.S_new' ho0 (Kd.R_lt (by (with_reducible repeat (first | apply Kd.R_alloc | apply Kd.R_drewN | apply Kd.R_drew)); exact HO184.out))) (Kd.R_lt (by (with_reducible repeat (first | apply Kd.R_alloc | apply Kd.R_drewN | apply Kd.R_drew)); exact HO190.out))) (below_size (by repeat (first | (with_reducible first | exact HB.out | apply below_alloc | apply pw_below_drewN | apply below_drew1 | refine below_set ?_ GE178.out) | exact HB.out))))
              have n3_ := Aside0.mk (blk_below (g := gb178) (o := .cells #[.int .i64 a0_0, .int .i64 a0_1, .int .i64 a0_2, .int .u64 a0_3, .int .u64 a0_4, .int .u64 a0_5] 29 (0, 0)) (by (with_reducible repeat (first | refine blk_drewN ?_ _ | refine blk_drew ?_ | refine blk_alloc ?_ _)); exact BK178.out) hb)
              have n4_ := Aside0.mk (below_step (by repeat (first | (with_reducible first | exact HB.out | apply below_alloc | apply pw_below_drewN | apply below_drew1 | refine below_set ?_ GE178.out) | exact HB.out)) hb)
              clear HO184
              clear HO190
              clear BK178
              clear HB
              have HO184 := n0_
              have HO190 := n1_
              have HO187 := n2_
              have BK178 := n3_
              have HB := n4_
              clear n0_ n1_ n2_ n3_ n4_
              (try clear hb)
              (try clear hb2)
              (try clear hk)
              (try clear hi)
              (try clear ho0)
              refine hK.out _ _ ⟨(blk_cell BK178.out 0).trans rfl, (blk_cell BK178.out 1).trans rfl, (blk_cell BK178.out 2).trans rfl, (blk_cell BK178.out 3).trans rfl, (blk_cell BK178.out 4).trans rfl, (blk_cell BK178.out 5).trans rfl⟩ (fun hHeld => ?_)
              clear hK K
              refine norm_ (a' := ?_) ?_ ?_
              rotate_left
              · show Act.put _ (some 23) _ = _
                simp only [Act.put, List.setIfInBounds_toArray, List.set_cons_zero, List.set_cons_succ, i64_w, i32_w]
                rfl
              exact norm_ (by simp only [putAll, Act.put, List.setIfInBounds_toArray, List.set_cons_zero, List.set_cons_succ]) (hCont (v180, v183, v186, v189) _ ⟨hHeld, (by (with_reducible repeat (first | apply Kd.R_alloc | apply Kd.R_drewN | apply Kd.R_drew)); exact Kd.R_mono HO184.out (fun _ hk => hk.2)), (by (with_reducible repeat (first | apply Kd.S_alloc | apply Kd.S_drewN | apply Kd.S_drew)); exact Kd.S_mono HO187.out (fun _ hk => ⟨hk.1.2, hk.2⟩)), (by (with_reducible repeat (first | apply Kd.R_alloc | apply Kd.R_drewN | apply Kd.R_drew)); exact Kd.R_mono HO190.out (fun _ hk => hk.2)), (by (with_reducible repeat (first | refine blk_drewN ?_ _ | refine blk_drew ?_ | refine blk_alloc ?_ _)); exact BK178.out), (by repeat (first | (with_reducible first | exact HB.out | apply below_alloc | apply pw_below_drewN | apply below_drew1 | refine below_set ?_ GE178.out) | exact HB.out))⟩)
          · skip
            refine Kd.R_lit_step (Kd.int .u8) _ 5 ?hg (N := 24) ?hd (xs := ([] : List Int)) (inner := []) (ok := fun _ => True) (okp := fun _ => True) ?hr ?hp (fun _ hk => hk) trivial (Below.refl _ _) (Nat.le_refl _) (by simp) ?_; (case hd => rfl); (case hg => rfl); (case hr => first | (go_simp; done) | (go_simp; rfl)); (case hp => exact (Reps.none _ _))
            intro v189 w16 ho17 hb hg_ hnew_
            clear hg_ hnew_
            (first | rw [← Ny188.out] at ho17 | (simp only [Int.reduceToNat] at ho17; rw [← Ny188.out] at ho17))
            have n0_ := Aside0.mk (Kd.R_elder' (by (with_reducible repeat (first | apply Kd.R_alloc | apply Kd.R_drewN | apply Kd.R_drew)); exact HO181.out) (Kd.R_base ho17) hb)
            have n1_ := Aside0.mk (Kd.R_lower (Kd.R_new' ho17 (Kd.R_lt (by (with_reducible repeat (first | apply Kd.R_alloc | apply Kd.R_drewN | apply Kd.R_drew)); exact HO181.out))) (below_size (by repeat (first | (with_reducible first | exact HB.out | apply below_alloc | apply pw_below_drewN | apply below_drew1 | refine below_set ?_ GE178.out) | exact HB.out))))
            have n2_ := Aside0.mk (blk_below (g := gb178) (o := .cells #[.int .i64 a0_0, .int .i64 a0_1, .int .i64 a0_2, .int .u64 a0_3, .int .u64 a0_4, .int .u64 a0_5] 29 (0, 0)) (by (with_reducible repeat (first | refine blk_drewN ?_ _ | refine blk_drew ?_ | refine blk_alloc ?_ _)); exact BK178.out) hb)
            have n3_ := Aside0.mk (below_step (by repeat (first | (with_reducible first | exact HB.out | apply below_alloc | apply pw_below_drewN | apply below_drew1 | refine below_set ?_ GE178.out) | exact HB.out)) hb)
            clear HO181
            clear BK178
            clear HB
            have HO181 := n0_
            have HO190 := n1_
            have BK178 := n2_
            have HB := n3_
            clear n0_ n1_ n2_ n3_
            clear hb ho17
            refine hK.out _ _ ⟨(blk_cell BK178.out 0).trans rfl, (blk_cell BK178.out 1).trans rfl, (blk_cell BK178.out 2).trans rfl, (blk_cell BK178.out 3).trans rfl, (blk_cell BK178.out 4).trans rfl, (blk_cell BK178.out 5).trans rfl⟩ (fun hHeld => ?_)
            clear hK K
            refine norm_ (a' := ?_) ?_ ?_
            rotate_left
            · show Act.put _ (some 24) _ = _
              simp only [Act.put, List.setIfInBounds_toArray, List.set_cons_zero, List.set_cons_succ, i64_w, i32_w]
              rfl
            refine one_ (i := 7) (N := some 21) #[true, true, true, true, true, true, true, true, true, false, true, true, false, false, false, false, false, false, false] rfl rfl (one_of HT_.out (by kernel_rfl)) (by decide) (fun K hK => ?_)
            refine Kd.R_append_rows_step (Kd.int .u8) (w0 := w) w.heap.size (by rfl) (.tmp 19) (.tmp 20) 30 5 (.int .u8 0) 1 rfl Try.underlying30 info5 rfl (by decide) (by omega) v180 y179 l3 _ _ _ (fun k_ => some k_ ≠ (v189 : Value).ownBlock) (fun _ => False) rfl rfl ?aO ?aR (fun _ _ h => h) (fun _ h => h.elim) ?aF ?aB ?aS ?aL ?_
            (case aR => repeat (first | exact (Kd.C_below HR3.out HB.out) | (with_reducible refine Kd.C_alloc ?_ _) | (with_reducible refine Kd.C_drewN ?_ _) | (with_reducible refine Kd.C_drew ?_)))
            (case aB => exact (by repeat (first | (with_reducible first | exact HB.out | apply below_alloc | apply pw_below_drewN | apply below_drew1 | refine below_set ?_ GE178.out) | exact HB.out)))
            (case aF => exact (fun k_ hk => Kd.fresh' (Kd.R_lt (by (with_reducible repeat (first | apply Kd.R_alloc | apply Kd.R_drewN | apply Kd.R_drew)); exact HO190.out)) k_ hk))
            (case aO => exact (by (with_reducible repeat (first | apply Kd.R_alloc | apply Kd.R_drewN | apply Kd.R_drew)); exact Kd.R_mono HO181.out (fun _ hk => hk.2)))
            (case aS => exact (below_size (by repeat (first | (with_reducible first | exact HB.out | apply below_alloc | apply pw_below_drewN | apply below_drew1 | refine below_set ?_ GE178.out) | exact HB.out))))
            (case aL => have := LMc7.out; omega)
            intro v183 w18 ho hb hg hat
            rw [← Ny182.out] at ho
            have n0_ := Aside0.mk (blk_grown (g := gb178) (o := .cells #[.int .i64 a0_0, .int .i64 a0_1, .int .i64 a0_2, .int .u64 a0_3, .int .u64 a0_4, .int .u64 a0_5] 29 (0, 0)) (by (with_reducible repeat (first | refine blk_drewN ?_ _ | refine blk_drew ?_ | refine blk_alloc ?_ _)); exact BK178.out) hg (Kd.R_ne HO181.out BK178.out (by decide)))
            have n1_ := Aside0.mk (Kd.R_after (ok := (fun _ => True)) (by (with_reducible repeat (first | apply Kd.R_alloc | apply Kd.R_drewN | apply Kd.R_drew)); exact HO190.out) hg hat)
            have n2_ := Aside0.mk (hb)
            have n3_ := Aside0.mk (ho)
            clear BK178
            clear HO190
            clear HB
            clear HO181
            have BK178 := n0_
            have HO190 := n1_
            have HB := n2_
            have HO184 := n3_
            clear n0_ n1_ n2_ n3_
            clear ho hb hg hat
            refine hK.out _ _ ⟨(blk_cell BK178.out 0).trans rfl, (blk_cell BK178.out 1).trans rfl, (blk_cell BK178.out 2).trans rfl, (blk_cell BK178.out 3).trans rfl, (blk_cell BK178.out 4).trans rfl, (blk_cell BK178.out 5).trans rfl⟩ (fun hHeld => ?_)
            clear hK K
            refine norm_ (a' := ?_) ?_ ?_
            rotate_left
            · show Act.put _ (some 21) _ = _
              simp only [Act.put, List.setIfInBounds_toArray, List.set_cons_zero, List.set_cons_succ, i64_w, i32_w]
              rfl
            refine one_ (i := 9) (N := some 23) #[true, true, true, true, true, true, true, true, true, true, true, true, false, false, false, false, false, false, false] rfl rfl (one_of HT_.out (by kernel_rfl)) (by decide) (fun K hK => ?_)
            refine goes_ Try.func23 (by kernel_rfl) rfl #[.slice A4 l4.length c4] (by rfl) rfl rfl (by (try simp only [List.map_toArray, List.map_cons, List.map_nil]); first | done | rfl | (simp only [List.length_drop, List.length_take]; rfl)) ?_
            with_reducible refine (impl_texts.calls k _ _ l4 t185 _ ?side1 ?side2 A8.out).mono ?_
            (case side1 => repeat (first | exact (Kd.C_below HR4.out HB.out) | (with_reducible refine Kd.C_alloc ?_ _) | (with_reducible refine Kd.C_drewN ?_ _) | (with_reducible refine Kd.C_drew ?_)))
            (case side2 => exact HC4.out)
            rintro e w19 ⟨v186, rfl, ho0, hb⟩
            refine ⟨_, rfl, ?_⟩
            have n0_ := Aside0.mk (Kd.R_below (by (with_reducible repeat (first | apply Kd.R_alloc | apply Kd.R_drewN | apply Kd.R_drew)); exact HO190.out) hb)
            have n1_ := Aside0.mk (Kd.R_below (by (with_reducible repeat (first | apply Kd.R_alloc | apply Kd.R_drewN | apply Kd.R_drew)); exact HO184.out) hb)
            have n2_ := Aside0.mk (Kd.S_lower (Kd.S_new' (Kd.S_new' ho0 (Kd.R_lt (by (with_reducible repeat (first | apply Kd.R_alloc | apply Kd.R_drewN | apply Kd.R_drew)); exact HO190.out))) (Kd.R_lt (by (with_reducible repeat (first | apply Kd.R_alloc | apply Kd.R_drewN | apply Kd.R_drew)); exact HO184.out))) (below_size (by repeat (first | (with_reducible first | exact HB.out | apply below_alloc | apply pw_below_drewN | apply below_drew1 | refine below_set ?_ GE178.out) | exact HB.out))))
            have n3_ := Aside0.mk (blk_below (g := gb178) (o := .cells #[.int .i64 a0_0, .int .i64 a0_1, .int .i64 a0_2, .int .u64 a0_3, .int .u64 a0_4, .int .u64 a0_5] 29 (0, 0)) (by (with_reducible repeat (first | refine blk_drewN ?_ _ | refine blk_drew ?_ | refine blk_alloc ?_ _)); exact BK178.out) hb)
            have n4_ := Aside0.mk (below_step (by repeat (first | (with_reducible first | exact HB.out | apply below_alloc | apply pw_below_drewN | apply below_drew1 | refine below_set ?_ GE178.out) | exact HB.out)) hb)
            clear HO190
            clear HO184
            clear BK178
            clear HB
            have HO190 := n0_
            have HO184 := n1_
            have HO187 := n2_
            have BK178 := n3_
            have HB := n4_
            clear n0_ n1_ n2_ n3_ n4_
            (try clear hb)
            (try clear hb2)
            (try clear hk)
            (try clear hi)
            (try clear ho0)
            refine hK.out _ _ ⟨(blk_cell BK178.out 0).trans rfl, (blk_cell BK178.out 1).trans rfl, (blk_cell BK178.out 2).trans rfl, (blk_cell BK178.out 3).trans rfl, (blk_cell BK178.out 4).trans rfl, (blk_cell BK178.out 5).trans rfl⟩ (fun hHeld => ?_)
            clear hK K
            refine norm_ (a' := ?_) ?_ ?_
            rotate_left
            · show Act.put _ (some 23) _ = _
              simp only [Act.put, List.setIfInBounds_toArray, List.set_cons_zero, List.set_cons_succ, i64_w, i32_w]
              rfl
            exact norm_ (by simp only [putAll, Act.put, List.setIfInBounds_toArray, List.set_cons_zero, List.set_cons_succ]) (hCont (v180, v183, v186, v189) _ ⟨hHeld, (by (with_reducible repeat (first | apply Kd.R_alloc | apply Kd.R_drewN | apply Kd.R_drew)); exact HO184.out), (by (with_reducible repeat (first | apply Kd.S_alloc | apply Kd.S_drewN | apply Kd.S_drew)); exact Kd.S_mono HO187.out (fun _ hk => ⟨hk.2, hk.1.2⟩)), (by (with_reducible repeat (first | apply Kd.R_alloc | apply Kd.R_drewN | apply Kd.R_drew)); exact Kd.R_mono HO190.out (fun _ hk => hk.2)), (by (with_reducible repeat (first | refine blk_drewN ?_ _ | refine blk_drew ?_ | refine blk_alloc ?_ _)); exact BK178.out), (by repeat (first | (with_reducible first | exact HB.out | apply below_alloc | apply pw_below_drewN | apply below_drew1 | refine below_set ?_ GE178.out) | exact HB.out))⟩)
        · skip
          refine Kd.R_lit_step (Kd.int .u8) _ 5 ?hg (N := 24) ?hd (xs := ([] : List Int)) (inner := []) (ok := fun _ => True) (okp := fun _ => True) ?hr ?hp (fun _ hk => hk) trivial (Below.refl _ _) (Nat.le_refl _) (by simp) ?_; (case hd => rfl); (case hg => rfl); (case hr => first | (go_simp; done) | (go_simp; rfl)); (case hp => exact (Reps.none _ _))
          intro v189 w14 ho15 hb hg_ hnew_
          clear hg_ hnew_
          (first | rw [← Ny188.out] at ho15 | (simp only [Int.reduceToNat] at ho15; rw [← Ny188.out] at ho15))
          have n0_ := Aside0.mk (Kd.R_lower ho15 (below_size (by repeat (first | (with_reducible first | exact HB.out | apply below_alloc | apply pw_below_drewN | apply below_drew1 | refine below_set ?_ GE178.out) | exact HB.out))))
          have n1_ := Aside0.mk (blk_below (g := gb178) (o := .cells #[.int .i64 a0_0, .int .i64 a0_1, .int .i64 a0_2, .int .u64 a0_3, .int .u64 a0_4, .int .u64 a0_5] 29 (0, 0)) (by (with_reducible repeat (first | refine blk_drewN ?_ _ | refine blk_drew ?_ | refine blk_alloc ?_ _)); exact BK178.out) hb)
          have n2_ := Aside0.mk (below_step (by repeat (first | (with_reducible first | exact HB.out | apply below_alloc | apply pw_below_drewN | apply below_drew1 | refine below_set ?_ GE178.out) | exact HB.out)) hb)
          clear BK178
          clear HB
          have HO190 := n0_
          have BK178 := n1_
          have HB := n2_
          clear n0_ n1_ n2_
          clear hb ho15
          refine hK.out _ _ ⟨(blk_cell BK178.out 0).trans rfl, (blk_cell BK178.out 1).trans rfl, (blk_cell BK178.out 2).trans rfl, (blk_cell BK178.out 3).trans rfl, (blk_cell BK178.out 4).trans rfl, (blk_cell BK178.out 5).trans rfl⟩ (fun hHeld => ?_)
          clear hK K
          refine norm_ (a' := ?_) ?_ ?_
          rotate_left
          · show Act.put _ (some 24) _ = _
            simp only [Act.put, List.setIfInBounds_toArray, List.set_cons_zero, List.set_cons_succ, i64_w, i32_w]
            rfl
          refine one_ (i := 5) (N := some 19) #[true, true, true, true, true, true, true, false, true, false, true, true, false, false, false, false, false, false, false] rfl rfl (one_of HT_.out (by kernel_rfl)) (by decide) (fun K hK => ?_)
          refine Kd.R_lit_step (Kd.int .u8) _ 5 ?hg (N := 19) ?hd (xs := ([] : List Int)) (inner := []) (ok := fun _ => True) (okp := fun _ => True) ?hr ?hp (fun _ hk => hk) trivial (Below.refl _ _) (Nat.le_refl _) (by simp) ?_; (case hd => rfl); (case hg => rfl); (case hr => first | (go_simp; done) | (go_simp; rfl)); (case hp => exact (Reps.none _ _))
          intro v180 w16 ho17 hb hg_ hnew_
          clear hg_ hnew_
          (first | rw [← Ny179.out] at ho17 | (simp only [Int.reduceToNat] at ho17; rw [← Ny179.out] at ho17))
          have n0_ := Aside0.mk (Kd.R_elder' (by (with_reducible repeat (first | apply Kd.R_alloc | apply Kd.R_drewN | apply Kd.R_drew)); exact HO190.out) (Kd.R_base ho17) hb)
          have n1_ := Aside0.mk (Kd.R_lower (Kd.R_new' ho17 (Kd.R_lt (by (with_reducible repeat (first | apply Kd.R_alloc | apply Kd.R_drewN | apply Kd.R_drew)); exact HO190.out))) (below_size (by repeat (first | (with_reducible first | exact HB.out | apply below_alloc | apply pw_below_drewN | apply below_drew1 | refine below_set ?_ GE178.out) | exact HB.out))))
          have n2_ := Aside0.mk (blk_below (g := gb178) (o := .cells #[.int .i64 a0_0, .int .i64 a0_1, .int .i64 a0_2, .int .u64 a0_3, .int .u64 a0_4, .int .u64 a0_5] 29 (0, 0)) (by (with_reducible repeat (first | refine blk_drewN ?_ _ | refine blk_drew ?_ | refine blk_alloc ?_ _)); exact BK178.out) hb)
          have n3_ := Aside0.mk (below_step (by repeat (first | (with_reducible first | exact HB.out | apply below_alloc | apply pw_below_drewN | apply below_drew1 | refine below_set ?_ GE178.out) | exact HB.out)) hb)
          clear HO190
          clear BK178
          clear HB
          have HO190 := n0_
          have HO181 := n1_
          have BK178 := n2_
          have HB := n3_
          clear n0_ n1_ n2_ n3_
          clear hb ho17
          refine hK.out _ _ ⟨(blk_cell BK178.out 0).trans rfl, (blk_cell BK178.out 1).trans rfl, (blk_cell BK178.out 2).trans rfl, (blk_cell BK178.out 3).trans rfl, (blk_cell BK178.out 4).trans rfl, (blk_cell BK178.out 5).trans rfl⟩ (fun hHeld => ?_)
          clear hK K
          refine norm_ (a' := ?_) ?_ ?_
          rotate_left
          · show Act.put _ (some 19) _ = _
            simp only [Act.put, List.setIfInBounds_toArray, List.set_cons_zero, List.set_cons_succ, i64_w, i32_w]
            rfl
          refine one_ (i := 7) (N := some 21) #[true, true, true, true, true, true, true, true, true, false, true, true, false, false, false, false, false, false, false] rfl rfl (one_of HT_.out (by kernel_rfl)) (by decide) (fun K hK => ?_)
          refine Kd.R_append_rows_step (Kd.int .u8) (w0 := w) w.heap.size (by rfl) (.tmp 19) (.tmp 20) 30 5 (.int .u8 0) 1 rfl Try.underlying30 info5 rfl (by decide) (by omega) v180 y179 l3 _ _ _ (fun k_ => some k_ ≠ (v189 : Value).ownBlock) (fun _ => False) rfl rfl ?aO ?aR (fun _ _ h => h) (fun _ h => h.elim) ?aF ?aB ?aS ?aL ?_
          (case aR => repeat (first | exact (Kd.C_below HR3.out HB.out) | (with_reducible refine Kd.C_alloc ?_ _) | (with_reducible refine Kd.C_drewN ?_ _) | (with_reducible refine Kd.C_drew ?_)))
          (case aB => exact (by repeat (first | (with_reducible first | exact HB.out | apply below_alloc | apply pw_below_drewN | apply below_drew1 | refine below_set ?_ GE178.out) | exact HB.out)))
          (case aF => exact (fun k_ hk => Kd.fresh' (Kd.R_lt (by (with_reducible repeat (first | apply Kd.R_alloc | apply Kd.R_drewN | apply Kd.R_drew)); exact HO190.out)) k_ hk))
          (case aO => exact (by (with_reducible repeat (first | apply Kd.R_alloc | apply Kd.R_drewN | apply Kd.R_drew)); exact Kd.R_mono HO181.out (fun _ hk => hk.2)))
          (case aS => exact (below_size (by repeat (first | (with_reducible first | exact HB.out | apply below_alloc | apply pw_below_drewN | apply below_drew1 | refine below_set ?_ GE178.out) | exact HB.out))))
          (case aL => have := LMc7.out; omega)
          intro v183 w18 ho hb hg hat
          rw [← Ny182.out] at ho
          have n0_ := Aside0.mk (blk_grown (g := gb178) (o := .cells #[.int .i64 a0_0, .int .i64 a0_1, .int .i64 a0_2, .int .u64 a0_3, .int .u64 a0_4, .int .u64 a0_5] 29 (0, 0)) (by (with_reducible repeat (first | refine blk_drewN ?_ _ | refine blk_drew ?_ | refine blk_alloc ?_ _)); exact BK178.out) hg (Kd.R_ne HO181.out BK178.out (by decide)))
          have n1_ := Aside0.mk (Kd.R_after (ok := (fun _ => True)) (by (with_reducible repeat (first | apply Kd.R_alloc | apply Kd.R_drewN | apply Kd.R_drew)); exact HO190.out) hg hat)
          have n2_ := Aside0.mk (hb)
          have n3_ := Aside0.mk (ho)
          clear BK178
          clear HO190
          clear HB
          clear HO181
          have BK178 := n0_
          have HO190 := n1_
          have HB := n2_
          have HO184 := n3_
          clear n0_ n1_ n2_ n3_
          clear ho hb hg hat
          refine hK.out _ _ ⟨(blk_cell BK178.out 0).trans rfl, (blk_cell BK178.out 1).trans rfl, (blk_cell BK178.out 2).trans rfl, (blk_cell BK178.out 3).trans rfl, (blk_cell BK178.out 4).trans rfl, (blk_cell BK178.out 5).trans rfl⟩ (fun hHeld => ?_)
          clear hK K
          refine norm_ (a' := ?_) ?_ ?_
          rotate_left
          · show Act.put _ (some 21) _ = _
            simp only [Act.put, List.setIfInBounds_toArray, List.set_cons_zero, List.set_cons_succ, i64_w, i32_w]
            rfl
          refine one_ (i := 9) (N := some 23) #[true, true, true, true, true, true, true, true, true, true, true, true, false, false, false, false, false, false, false] rfl rfl (one_of HT_.out (by kernel_rfl)) (by decide) (fun K hK => ?_)
          refine goes_ Try.func23 (by kernel_rfl) rfl #[.slice A4 l4.length c4] (by rfl) rfl rfl (by (try simp only [List.map_toArray, List.map_cons, List.map_nil]); first | done | rfl | (simp only [List.length_drop, List.length_take]; rfl)) ?_
          with_reducible refine (impl_texts.calls k _ _ l4 t185 _ ?side1 ?side2 A8.out).mono ?_
          (case side1 => repeat (first | exact (Kd.C_below HR4.out HB.out) | (with_reducible refine Kd.C_alloc ?_ _) | (with_reducible refine Kd.C_drewN ?_ _) | (with_reducible refine Kd.C_drew ?_)))
          (case side2 => exact HC4.out)
          rintro e w19 ⟨v186, rfl, ho0, hb⟩
          refine ⟨_, rfl, ?_⟩
          have n0_ := Aside0.mk (Kd.R_below (by (with_reducible repeat (first | apply Kd.R_alloc | apply Kd.R_drewN | apply Kd.R_drew)); exact HO190.out) hb)
          have n1_ := Aside0.mk (Kd.R_below (by (with_reducible repeat (first | apply Kd.R_alloc | apply Kd.R_drewN | apply Kd.R_drew)); exact HO184.out) hb)
          have n2_ := Aside0.mk (Kd.S_lower (Kd.S_new' (Kd.S_new' ho0 (Kd.R_lt (by (with_reducible repeat (first | apply Kd.R_alloc | apply Kd.R_drewN | apply Kd.R_drew)); exact HO190.out))) (Kd.R_lt (by (with_reducible repeat (first | apply Kd.R_alloc | apply Kd.R_drewN | apply Kd.R_drew)); exact HO184.out))) (below_size (by repeat (first | (with_reducible first | exact HB.out | apply below_alloc | apply pw_below_drewN | apply below_drew1 | refine below_set ?_ GE178.out) | exact HB.out))))
          have n3_ := Aside0.mk (blk_below (g := gb178) (o := .cells #[.int .i64 a0_0, .int .i64 a0_1, .int .i64 a0_2, .int .u64 a0_3, .int .u64 a0_4, .int .u64 a0_5] 29 (0, 0)) (by (with_reducible repeat (first | refine blk_drewN ?_ _ | refine blk_drew ?_ | refine blk_alloc ?_ _)); exact BK178.out) hb)
          have n4_ := Aside0.mk (below_step (by repeat (first | (with_reducible first | exact HB.out | apply below_alloc | apply pw_below_drewN | apply below_drew1 | refine below_set ?_ GE178.out) | exact HB.out)) hb)
          clear HO190
          clear HO184
          clear BK178
          clear HB
          have HO190 := n0_
          have HO184 := n1_
          have HO187 := n2_
          have BK178 := n3_
          have HB := n4_
          clear n0_ n1_ n2_ n3_ n4_
          (try clear hb)
          (try clear hb2)
          (try clear hk)
          (try clear hi)
          (try clear ho0)
          refine hK.out _ _ ⟨(blk_cell BK178.out 0).trans rfl, (blk_cell BK178.out 1).trans rfl, (blk_cell BK178.out 2).trans rfl, (blk_cell BK178.out 3).trans rfl, (blk_cell BK178.out 4).trans rfl, (blk_cell BK178.out 5).trans rfl⟩ (fun hHeld => ?_)
          clear hK K
          refine norm_ (a' := ?_) ?_ ?_
          rotate_left
          · show Act.put _ (some 23) _ = _
            simp only [Act.put, List.setIfInBounds_toArray, List.set_cons_zero, List.set_cons_succ, i64_w, i32_w]
            rfl
          exact norm_ (by simp only [putAll, Act.put, List.setIfInBounds_toArray, List.set_cons_zero, List.set_cons_succ]) (hCont (v180, v183, v186, v189) _ ⟨hHeld, (by (with_reducible repeat (first | apply Kd.R_alloc | apply Kd.R_drewN | apply Kd.R_drew)); exact HO184.out), (by (with_reducible repeat (first | apply Kd.S_alloc | apply Kd.S_drewN | apply Kd.S_drew)); exact Kd.S_mono HO187.out (fun _ hk => ⟨hk.2, hk.1.2⟩)), (by (with_reducible repeat (first | apply Kd.R_alloc | apply Kd.R_drewN | apply Kd.R_drew)); exact Kd.R_mono HO190.out (fun _ hk => hk.2)), (by (with_reducible repeat (first | refine blk_drewN ?_ _ | refine blk_drew ?_ | refine blk_alloc ?_ _)); exact BK178.out), (by repeat (first | (with_reducible first | exact HB.out | apply below_alloc | apply pw_below_drewN | apply below_drew1 | refine below_set ?_ GE178.out) | exact HB.out))⟩)
      rintro ⟨v180, v183, v186, v189⟩ w20 ⟨hS_, h0_, h1_, h2_, h3_, h4_⟩
      have n0_ : Aside0 (Kd.R (Kd.int .u8) 5 w20 w.heap.size (fun k_ => some k_ ≠ (v189 : Value).ownBlock) v183 y182) := ⟨h0_⟩
      have n1_ : Aside0 (Kd.S (Kd.slice 5 (Kd.int .u8)) 30 w20 w.heap.size (fun k_ => some k_ ≠ (v183 : Value).ownBlock ∧ some k_ ≠ (v189 : Value).ownBlock) v186 t185) := ⟨h1_⟩
      have n2_ : Aside0 (Kd.R (Kd.int .u8) 5 w20 w.heap.size (fun k_ => some k_ ≠ (v183 : Value).ownBlock) v189 y188) := ⟨h2_⟩
      have n3_ : Aside0 (w20.heap[gb178]? = some (.cells #[.int .i64 a0_0, .int .i64 a0_1, .int .i64 a0_2, .int .u64 a0_3, .int .u64 a0_4, .int .u64 a0_5] 29 (0, 0))) := ⟨h3_⟩
      have n4_ : Aside0 (Below w.heap.size w w20) := ⟨h4_⟩
      clear BK178
      clear HB
      clear h0_ h1_ h2_ h3_ h4_
      have HO184 := n0_
      have HO187 := n1_
      have HO190 := n2_
      have BK178 := n3_
      have HB := n4_
      clear n0_ n1_ n2_ n3_ n4_
      have hHeld : w20.cell? ⟨gb178, 0, none⟩ = some (.int .i64 a0_0) ∧ w20.cell? ⟨gb178, 1, none⟩ = some (.int .i64 a0_1) ∧ w20.cell? ⟨gb178, 2, none⟩ = some (.int .i64 a0_2) ∧ w20.cell? ⟨gb178, 3, none⟩ = some (.int .u64 a0_3) ∧ w20.cell? ⟨gb178, 4, none⟩ = some (.int .u64 a0_4) ∧ w20.cell? ⟨gb178, 5, none⟩ = some (.int .u64 a0_5) := hS_
      refine norm_ (a' := ?_) ?_ ?_
      rotate_left
      · simp only [putAll, Act.put, List.setIfInBounds_toArray, List.set_cons_zero, List.set_cons_succ]
        rfl
      refine one_ (i := 12) (N := some 26) #[true, true, true, true, true, true, true, true, true, true, true, true, true, false, false, false, false, false, false] rfl rfl (one_of HT_.out (by kernel_rfl)) (by decide) (fun K hK => ?_)
      refine Kd.R_append_rows_step (Kd.int .u8) (w0 := w) w.heap.size (by rfl) (.tmp 24) (.tmp 25) 30 5 (.int .u8 0) 1 rfl Try.underlying30 info5 rfl (by decide) (by omega) v189 y188 l5 _ _ _ (fun k_ => some k_ ≠ (v183 : Value).ownBlock) (fun _ => False) rfl rfl ?aO ?aR (fun _ _ h => h) (fun _ h => h.elim) ?aF ?aB ?aS ?aL ?_
      (case aR => repeat (first | exact (Kd.C_below HR5.out HB.out) | (with_reducible refine Kd.C_alloc ?_ _) | (with_reducible refine Kd.C_drewN ?_ _) | (with_reducible refine Kd.C_drew ?_)))
      (case aB => exact (by repeat (first | (with_reducible first | exact HB.out | apply below_alloc | apply pw_below_drewN | apply below_drew1 | refine below_set ?_ GE178.out) | exact HB.out)))
      (case aF => exact (fun k_ hk => Kd.fresh' (Kd.R_lt (by (with_reducible repeat (first | apply Kd.R_alloc | apply Kd.R_drewN | apply Kd.R_drew)); exact HO184.out)) k_ hk))
      (case aO => exact (by (with_reducible repeat (first | apply Kd.R_alloc | apply Kd.R_drewN | apply Kd.R_drew)); exact HO190.out))
      (case aS => exact (below_size (by repeat (first | (with_reducible first | exact HB.out | apply below_alloc | apply pw_below_drewN | apply below_drew1 | refine below_set ?_ GE178.out) | exact HB.out))))
      (case aL => have := LMc9.out; omega)
      intro v192 w21 ho hb hg hat
      rw [← Ny191.out] at ho
      have n0_ := Aside0.mk (blk_grown (g := gb178) (o := .cells #[.int .i64 a0_0, .int .i64 a0_1, .int .i64 a0_2, .int .u64 a0_3, .int .u64 a0_4, .int .u64 a0_5] 29 (0, 0)) (by (with_reducible repeat (first | refine blk_drewN ?_ _ | refine blk_drew ?_ | refine blk_alloc ?_ _)); exact BK178.out) hg (Kd.R_ne HO190.out BK178.out (by decide)))
      have n1_ := Aside0.mk (Kd.R_after (ok := (fun _ => True)) (by (with_reducible repeat (first | apply Kd.R_alloc | apply Kd.R_drewN | apply Kd.R_drew)); exact Kd.R_mono HO184.out (fun _ hk => ⟨trivial, hk⟩)) hg hat)
      have n2_ := Aside0.mk (Kd.S_after (ok := (fun k_ => some k_ ≠ (v183 : Value).ownBlock)) (by (with_reducible repeat (first | apply Kd.S_alloc | apply Kd.S_drewN | apply Kd.S_drew)); exact HO187.out) hg hat)
      have n3_ := Aside0.mk (hb)
      have n4_ := Aside0.mk (ho)
      clear BK178
      clear HO184
      clear HO187
      clear HB
      clear HO190
      have BK178 := n0_
      have HO184 := n1_
      have HO187 := n2_
      have HB := n3_
      have HO193 := n4_
      clear n0_ n1_ n2_ n3_ n4_
      clear ho hb hg hat
      obtain ⟨Ao22, co22, eo22⟩ := Kd.R_slice HO184.out
      (first | subst eo22 | (injection eo22 with f1_ f2_ f3_; have f4_ := f1_.symm; have f5_ := f3_.symm; clear f1_ f2_ f3_; subst f4_; subst f5_))
      obtain ⟨Ao23, co23, eo23⟩ := Kd.S_slice HO187.out
      (first | subst eo23 | (injection eo23 with f1_ f2_ f3_; have f4_ := f1_.symm; have f5_ := f3_.symm; clear f1_ f2_ f3_; subst f4_; subst f5_))
      obtain ⟨Ao24, co24, eo24⟩ := Kd.R_slice HO193.out
      (first | subst eo24 | (injection eo24 with f1_ f2_ f3_; have f4_ := f1_.symm; have f5_ := f3_.symm; clear f1_ f2_ f3_; subst f4_; subst f5_))
      refine hK.out _ _ ⟨(blk_cell BK178.out 0).trans rfl, (blk_cell BK178.out 1).trans rfl, (blk_cell BK178.out 2).trans rfl, (blk_cell BK178.out 3).trans rfl, (blk_cell BK178.out 4).trans rfl, (blk_cell BK178.out 5).trans rfl⟩ (fun hHeld => ?_)
      clear hK K
      refine norm_ (a' := ?_) ?_ ?_
      rotate_left
      · show Act.put _ (some 26) _ = _
        simp only [Act.put, List.setIfInBounds_toArray, List.set_cons_zero, List.set_cons_succ, i64_w, i32_w]
        rfl
      refine one_ (i := 13) (N := some 27) #[true, true, true, true, true, true, true, true, true, true, true, true, true, true, false, false, false, false, false] rfl rfl (one_of HT_.out (by kernel_rfl)) (by decide) (fun K hK => ?_)
      refine goes_ Try.func32 (by kernel_rfl) rfl #[.iface 52 (.agg #[.int .i64 a0_0, .int .i64 a0_1, .int .i64 a0_2, .int .u64 a0_3, .int .u64 a0_4, .int .u64 a0_5]), .int .u64 a1, .int .u64 a2, .slice Ao22 y182.length co22, .slice Ao23 t185.length co23, .slice Ao24 y191.length co24] (by rfl) rfl rfl (by (try simp only [List.map_toArray, List.map_cons, List.map_nil]); first | done | rfl | (simp only [List.length_drop, List.length_take]; rfl)) ?_
      with_reducible refine (proof_VerifyInclusion.calls k a0_0 a0_1 a0_2 a0_3 a0_4 a0_5 a1 a2 (fun k_ => some k_ = (.slice Ao22 y182.length co22 : Value).ownBlock) _ _ y182 _ _ t185 (fun k_ => some k_ = (.slice Ao24 y191.length co24 : Value).ownBlock) _ _ y191 t194 t195 t198 t201 _ ?side1 ?side2 ?side3 ?side4 A10.out).mono ?_
      (case side1 => first | exact Kd.R_V (Kd.R_tight rfl (Kd.R_types (Kd.R_apart' (HO184.out) (Kd.S_typed HO187.out) (by decide)) BK178.out (by decide))) | exact Kd.V_mono Kd.R_V (Kd.R_tight rfl (Kd.R_types (Kd.R_apart' (HO184.out) (Kd.S_typed HO187.out) (by decide)) BK178.out (by decide))) (fun k_ h_ => by simp only [and_assoc] at h_ ⊢; exact h_))
      (case side2 => repeat (first | exact (Kd.S_reads' HO187.out).2.2 | (with_reducible refine Kd.C_alloc ?_ _) | (with_reducible refine Kd.C_drewN ?_ _) | (with_reducible refine Kd.C_drew ?_)))
      (case side3 => exact (Kd.S_reads' HO187.out).2.1)
      (case side4 => first | exact Kd.R_V (Kd.R_tight rfl (Kd.R_types (Kd.R_apart' (HO193.out) (Kd.S_typed HO187.out) (by decide)) BK178.out (by decide))) | exact Kd.V_mono Kd.R_V (Kd.R_tight rfl (Kd.R_types (Kd.R_apart' (HO193.out) (Kd.S_typed HO187.out) (by decide)) BK178.out (by decide))) (fun k_ h_ => by simp only [and_assoc] at h_ ⊢; exact h_))
      rintro e w25 ⟨v196, v199, v202, rfl, ho0, ho1, ho2, hb⟩
      refine ⟨_, rfl, ?_⟩
      have n0_ := Aside0.mk (Kd.R_below (by (with_reducible repeat (first | apply Kd.R_alloc | apply Kd.R_drewN | apply Kd.R_drew)); exact HO184.out) hb)
      have n1_ := Aside0.mk (Kd.S_below (by (with_reducible repeat (first | apply Kd.S_alloc | apply Kd.S_drewN | apply Kd.S_drew)); exact HO187.out) hb)
      have n2_ := Aside0.mk (Kd.R_below (by (with_reducible repeat (first | apply Kd.R_alloc | apply Kd.R_drewN | apply Kd.R_drew)); exact HO193.out) hb)
      have n3_ := Aside0.mk (Kd.V_lower (Kd.V_mono (ok' := fun k_ => some k_ ≠ (.slice Ao23 t185.length co23 : Value).ownBlock ∧ k_ ≠ gb178) ho0 (fun k_ hk_ => ⟨Or.elim hk_ (fun hs_ => Or.elim hs_ (fun hs_ => ((Kd.R_types (Kd.R_apart' (HO184.out) (Kd.S_typed HO187.out) (by decide)) BK178.out (by decide)).1 k_ hs_.symm).1.2) (fun hs_ => ((Kd.R_types (Kd.R_apart' (HO193.out) (Kd.S_typed HO187.out) (by decide)) BK178.out (by decide)).1 k_ hs_.symm).1.2)) (fun hn_ => (Kd.fresh' (Kd.S_lt (by (with_reducible repeat (first | apply Kd.S_alloc | apply Kd.S_drewN | apply Kd.S_drew)); exact HO187.out)) k_ hn_)), Or.elim hk_ (fun hs_ => Or.elim hs_ (fun hs_ => ((Kd.R_types (Kd.R_apart' (HO184.out) (Kd.S_typed HO187.out) (by decide)) BK178.out (by decide)).1 k_ hs_.symm).2) (fun hs_ => ((Kd.R_types (Kd.R_apart' (HO193.out) (Kd.S_typed HO187.out) (by decide)) BK178.out (by decide)).1 k_ hs_.symm).2)) (fun hn_ => (Kd.freshB (g := gb178) (o := .cells #[.int .i64 a0_0, .int .i64 a0_1, .int .i64 a0_2, .int .u64 a0_3, .int .u64 a0_4, .int .u64 a0_5] 29 (0, 0)) (by (with_reducible repeat (first | refine blk_drewN ?_ _ | refine blk_drew ?_ | refine blk_alloc ?_ _)); exact BK178.out) k_ hn_))⟩)) (below_size (by repeat (first | (with_reducible first | exact HB.out | apply below_alloc | apply pw_below_drewN | apply below_drew1 | refine below_set ?_ GE178.out) | exact HB.out))))
      have n4_ := Aside0.mk (Kd.V_lower (Kd.V_mono (ok' := fun k_ => some k_ ≠ (.slice Ao23 t185.length co23 : Value).ownBlock ∧ k_ ≠ gb178) ho1 (fun k_ hk_ => ⟨Or.elim hk_ (fun hs_ => Or.elim hs_ (fun hs_ => ((Kd.R_types (Kd.R_apart' (HO184.out) (Kd.S_typed HO187.out) (by decide)) BK178.out (by decide)).1 k_ hs_.symm).1.2) (fun hs_ => ((Kd.R_types (Kd.R_apart' (HO193.out) (Kd.S_typed HO187.out) (by decide)) BK178.out (by decide)).1 k_ hs_.symm).1.2)) (fun hn_ => (Kd.fresh' (Kd.S_lt (by (with_reducible repeat (first | apply Kd.S_alloc | apply Kd.S_drewN | apply Kd.S_drew)); exact HO187.out)) k_ hn_)), Or.elim hk_ (fun hs_ => Or.elim hs_ (fun hs_ => ((Kd.R_types (Kd.R_apart' (HO184.out) (Kd.S_typed HO187.out) (by decide)) BK178.out (by decide)).1 k_ hs_.symm).2) (fun hs_ => ((Kd.R_types (Kd.R_apart' (HO193.out) (Kd.S_typed HO187.out) (by decide)) BK178.out (by decide)).1 k_ hs_.symm).2)) (fun hn_ => (Kd.freshB (g := gb178) (o := .cells #[.int .i64 a0_0, .int .i64 a0_1, .int .i64 a0_2, .int .u64 a0_3, .int .u64 a0_4, .int .u64 a0_5] 29 (0, 0)) (by (with_reducible repeat (first | refine blk_drewN ?_ _ | refine blk_drew ?_ | refine blk_alloc ?_ _)); exact BK178.out) k_ hn_))⟩)) (below_size (by repeat (first | (with_reducible first | exact HB.out | apply below_alloc | apply pw_below_drewN | apply below_drew1 | refine below_set ?_ GE178.out) | exact HB.out))))
      have n5_ := Aside0.mk (Kd.V_lower (Kd.V_mono (ok' := fun k_ => some k_ ≠ (.slice Ao23 t185.length co23 : Value).ownBlock ∧ k_ ≠ gb178) ho2 (fun k_ hk_ => ⟨Or.elim hk_ (fun hs_ => Or.elim hs_ (fun hs_ => ((Kd.R_types (Kd.R_apart' (HO184.out) (Kd.S_typed HO187.out) (by decide)) BK178.out (by decide)).1 k_ hs_.symm).1.2) (fun hs_ => ((Kd.R_types (Kd.R_apart' (HO193.out) (Kd.S_typed HO187.out) (by decide)) BK178.out (by decide)).1 k_ hs_.symm).1.2)) (fun hn_ => (Kd.fresh' (Kd.S_lt (by (with_reducible repeat (first | apply Kd.S_alloc | apply Kd.S_drewN | apply Kd.S_drew)); exact HO187.out)) k_ hn_)), Or.elim hk_ (fun hs_ => Or.elim hs_ (fun hs_ => ((Kd.R_types (Kd.R_apart' (HO184.out) (Kd.S_typed HO187.out) (by decide)) BK178.out (by decide)).1 k_ hs_.symm).2) (fun hs_ => ((Kd.R_types (Kd.R_apart' (HO193.out) (Kd.S_typed HO187.out) (by decide)) BK178.out (by decide)).1 k_ hs_.symm).2)) (fun hn_ => (Kd.freshB (g := gb178) (o := .cells #[.int .i64 a0_0, .int .i64 a0_1, .int .i64 a0_2, .int .u64 a0_3, .int .u64 a0_4, .int .u64 a0_5] 29 (0, 0)) (by (with_reducible repeat (first | refine blk_drewN ?_ _ | refine blk_drew ?_ | refine blk_alloc ?_ _)); exact BK178.out) k_ hn_))⟩)) (below_size (by repeat (first | (with_reducible first | exact HB.out | apply below_alloc | apply pw_below_drewN | apply below_drew1 | refine below_set ?_ GE178.out) | exact HB.out))))
      have n6_ := Aside0.mk (blk_below (g := gb178) (o := .cells #[.int .i64 a0_0, .int .i64 a0_1, .int .i64 a0_2, .int .u64 a0_3, .int .u64 a0_4, .int .u64 a0_5] 29 (0, 0)) (by (with_reducible repeat (first | refine blk_drewN ?_ _ | refine blk_drew ?_ | refine blk_alloc ?_ _)); exact BK178.out) hb)
      have n7_ := Aside0.mk (below_step (by repeat (first | (with_reducible first | exact HB.out | apply below_alloc | apply pw_below_drewN | apply below_drew1 | refine below_set ?_ GE178.out) | exact HB.out)) hb)
      clear HO184
      clear HO187
      clear HO193
      clear BK178
      clear HB
      have HO184 := n0_
      have HO187 := n1_
      have HO193 := n2_
      have HO197 := n3_
      have HO200 := n4_
      have HO203 := n5_
      have BK178 := n6_
      have HB := n7_
      clear n0_ n1_ n2_ n3_ n4_ n5_ n6_ n7_
      (try clear hb)
      (try clear hb2)
      (try clear hk)
      (try clear hi)
      (try clear ho0)
      (try clear ho1)
      (try clear ho2)
      obtain ⟨Ao26, co26, eo26⟩ := Kd.V_slice HO197.out
      (first | subst eo26 | (injection eo26 with f1_ f2_ f3_; have f4_ := f1_.symm; have f5_ := f3_.symm; clear f1_ f2_ f3_; subst f4_; subst f5_))
      obtain ⟨Ao27, co27, eo27⟩ := Kd.V_slice HO200.out
      (first | subst eo27 | (injection eo27 with f1_ f2_ f3_; have f4_ := f1_.symm; have f5_ := f3_.symm; clear f1_ f2_ f3_; subst f4_; subst f5_))
      obtain ⟨Ao28, co28, eo28⟩ := Kd.V_slice HO203.out
      (first | subst eo28 | (injection eo28 with f1_ f2_ f3_; have f4_ := f1_.symm; have f5_ := f3_.symm; clear f1_ f2_ f3_; subst f4_; subst f5_))
      refine hK.out _ _ ⟨(blk_cell BK178.out 0).trans rfl, (blk_cell BK178.out 1).trans rfl, (blk_cell BK178.out 2).trans rfl, (blk_cell BK178.out 3).trans rfl, (blk_cell BK178.out 4).trans rfl, (blk_cell BK178.out 5).trans rfl⟩ (fun hHeld => ?_)
      clear hK K
      refine norm_ (a' := ?_) ?_ ?_
      rotate_left
      · show Act.put _ (some 27) _ = _
        simp only [Act.put, List.setIfInBounds_toArray, List.set_cons_zero, List.set_cons_succ, i64_w, i32_w]
        rfl
      refine one_ (i := 14) (N := some 28) #[true, true, true, true, true, true, true, true, true, true, true, true, true, true, true, false, false, false, false] rfl rfl (one_of HT_.out (by kernel_rfl)) (by decide) (fun K hK => ?_)
      refine goes_ Try.func31 (by kernel_rfl) rfl #[errVc #[.int .i64 t194, .slice Ao26 t195.length co26, .slice Ao27 t198.length co27, .slice Ao28 t201.length co28]] (by rfl) rfl rfl (by (try simp only [List.map_toArray, List.map_cons, List.map_nil]); first | done | rfl | (simp only [List.length_drop, List.length_take]; rfl)) ?_
      with_reducible refine (impl_verdict.calls k t194 _ _ t195 _ _ t198 _ _ t201 t204 t205 _ ?side1 ?side2 ?side3 ?side4 ?side5 ?side6 A11.out).mono ?_
      (case side1 => repeat (first | exact (Kd.V_reads' HO197.out).2.2 | (with_reducible refine Kd.C_alloc ?_ _) | (with_reducible refine Kd.C_drewN ?_ _) | (with_reducible refine Kd.C_drew ?_)))
      (case side2 => exact (Kd.V_reads' HO197.out).2.1)
      (case side3 => repeat (first | exact (Kd.V_reads' HO200.out).2.2 | (with_reducible refine Kd.C_alloc ?_ _) | (with_reducible refine Kd.C_drewN ?_ _) | (with_reducible refine Kd.C_drew ?_)))
      (case side4 => exact (Kd.V_reads' HO200.out).2.1)
      (case side5 => repeat (first | exact (Kd.V_reads' HO203.out).2.2 | (with_reducible refine Kd.C_alloc ?_ _) | (with_reducible refine Kd.C_drewN ?_ _) | (with_reducible refine Kd.C_drew ?_)))
      (case side6 => exact (Kd.V_reads' HO203.out).2.1)
      rintro e w29 ⟨v206, rfl, ho0, hb⟩
      refine ⟨_, rfl, ?_⟩
      have n0_ := Aside0.mk (Kd.R_elder' (by (with_reducible repeat (first | apply Kd.R_alloc | apply Kd.R_drewN | apply Kd.R_drew)); exact HO184.out) (Kd.R_base ho0) hb)
      have n1_ := Aside0.mk (Kd.S_elder' (by (with_reducible repeat (first | apply Kd.S_alloc | apply Kd.S_drewN | apply Kd.S_drew)); exact HO187.out) (Kd.R_base ho0) hb)
      have n2_ := Aside0.mk (Kd.R_elder' (by (with_reducible repeat (first | apply Kd.R_alloc | apply Kd.R_drewN | apply Kd.R_drew)); exact HO193.out) (Kd.R_base ho0) hb)
      have n3_ := Aside0.mk (Kd.V_elder' (by (with_reducible repeat (first | apply Kd.V_alloc | apply Kd.V_drewN | apply Kd.V_drew)); exact HO197.out) (Kd.R_base ho0) hb)
      have n4_ := Aside0.mk (Kd.V_elder' (by (with_reducible repeat (first | apply Kd.V_alloc | apply Kd.V_drewN | apply Kd.V_drew)); exact HO200.out) (Kd.R_base ho0) hb)
      have n5_ := Aside0.mk (Kd.V_elder' (by (with_reducible repeat (first | apply Kd.V_alloc | apply Kd.V_drewN | apply Kd.V_drew)); exact HO203.out) (Kd.R_base ho0) hb)
      have n6_ := Aside0.mk (Kd.R_lower (Kd.R_new' (Kd.R_new' ho0 (Kd.R_lt (by (with_reducible repeat (first | apply Kd.R_alloc | apply Kd.R_drewN | apply Kd.R_drew)); exact HO184.out))) (Kd.R_lt (by (with_reducible repeat (first | apply Kd.R_alloc | apply Kd.R_drewN | apply Kd.R_drew)); exact HO193.out))) (below_size (by repeat (first | (with_reducible first | exact HB.out | apply below_alloc | apply pw_below_drewN | apply below_drew1 | refine below_set ?_ GE178.out) | exact HB.out))))
      have n7_ := Aside0.mk (blk_below (g := gb178) (o := .cells #[.int .i64 a0_0, .int .i64 a0_1, .int .i64 a0_2, .int .u64 a0_3, .int .u64 a0_4, .int .u64 a0_5] 29 (0, 0)) (by (with_reducible repeat (first | refine blk_drewN ?_ _ | refine blk_drew ?_ | refine blk_alloc ?_ _)); exact BK178.out) hb)
      have n8_ := Aside0.mk (below_step (by repeat (first | (with_reducible first | exact HB.out | apply below_alloc | apply pw_below_drewN | apply below_drew1 | refine below_set ?_ GE178.out) | exact HB.out)) hb)
      clear HO184
      clear HO187
      clear HO193
      clear HO197
      clear HO200
      clear HO203
      clear BK178
      clear HB
      have HO184 := n0_
      have HO187 := n1_
      have HO193 := n2_
      have HO197 := n3_
      have HO200 := n4_
      have HO203 := n5_
      have HO207 := n6_
      have BK178 := n7_
      have HB := n8_
      clear n0_ n1_ n2_ n3_ n4_ n5_ n6_ n7_ n8_
      (try clear hb)
      (try clear hb2)
      (try clear hk)
      (try clear hi)
      (try clear ho0)
      refine hK.out _ _ ⟨(blk_cell BK178.out 0).trans rfl, (blk_cell BK178.out 1).trans rfl, (blk_cell BK178.out 2).trans rfl, (blk_cell BK178.out 3).trans rfl, (blk_cell BK178.out 4).trans rfl, (blk_cell BK178.out 5).trans rfl⟩ (fun hHeld => ?_)
      clear hK K
      refine norm_ (a' := ?_) ?_ ?_
      rotate_left
      · show Act.put _ (some 28) _ = _
        simp only [Act.put, List.setIfInBounds_toArray, List.set_cons_zero, List.set_cons_succ, i64_w, i32_w]
        rfl
      refine pure_ (i := 15) (N := some 29) (v := ?_) (a' := ?_) #[true, true, true, true, true, true, true, true, true, true, true, true, true, true, true, true, false, false, false] rfl rfl (any_of HT_.out (by kernel_rfl)) (fun _ _ _ h => h) (Or.inl ⟨by rfl, ?_⟩) ?_ ?_
      rotate_left
      · intro w'
        go_simp
        with_reducible rfl
      rotate_left
      · simp only [Act.put, List.setIfInBounds_toArray, List.set_cons_zero, List.set_cons_succ, i64_w, i32_w]
        rfl
      refine pure_ (i := 16) (N := some 30) (v := ?_) (a' := ?_) #[true, true, true, true, true, true, true, true, true, true, true, true, true, true, true, true, true, false, false] rfl rfl (any_of HT_.out (by kernel_rfl)) (fun _ _ _ h => h) (Or.inl ⟨by rfl, ?_⟩) ?_ ?_
      rotate_left
      · intro w'
        go_simp
        with_reducible rfl
      rotate_left
      · simp only [Act.put, List.setIfInBounds_toArray, List.set_cons_zero, List.set_cons_succ, i64_w, i32_w]
        rfl
      refine pure_ (i := 17) (N := some 12) (v := ?_) (a' := ?_) #[true, true, true, true, true, true, true, true, true, true, true, true, true, true, true, true, true, true, false] rfl rfl (any_of HT_.out (by kernel_rfl)) (fun _ _ _ h => h) (Or.inl ⟨by rfl, ?_⟩) ?_ ?_
      rotate_left
      · intro w'
        go_simp
        with_reducible rfl
      rotate_left
      · simp only [Act.put, List.setIfInBounds_toArray, List.set_cons_zero, List.set_cons_succ, i64_w, i32_w]
        rfl
      refine pure_ (i := 18) (N := some 13) (v := ?_) (a' := ?_) #[true, true, true, true, true, true, true, true, true, true, true, true, true, true, true, true, true, true, true] rfl rfl (any_of HT_.out (by kernel_rfl)) (fun _ _ _ h => h) (Or.inl ⟨by rfl, ?_⟩) ?_ ?_
      rotate_left
      · intro w'
        go_simp
        with_reducible rfl
      rotate_left
      · simp only [Act.put, List.setIfInBounds_toArray, List.set_cons_zero, List.set_cons_succ, i64_w, i32_w]
        rfl
      refine done_ (done_of HT_.out (by kernel_rfl)) ?_
      try go_wp2
      go_ret2
      exact ⟨_, by first | rfl | (simp [errW_none, errW_some] <;> rfl) | (simp [*, errW_none, errW_some] <;> rfl), by (with_reducible repeat (first | apply Kd.R_alloc | apply Kd.R_drewN | apply Kd.R_drew)); exact Kd.R_mono HO207.out (fun _ hk => trivial), by repeat (first | (with_reducible first | exact HB.out | apply below_alloc | apply pw_below_drewN | apply below_drew1 | refine below_set ?_ GE178.out) | exact HB.out)⟩
    · rw [if_neg c9] at H
      exact absurd H (by simp)
  · rw [if_neg c7] at H
    exact absurd H (by simp)

end Go.Proofs.Ytkmdkmlgahfcpaa.M

namespace Go.Proofs.Ytkmdkmlgahfcpaa.M
open Go.RowKit Go.Proofs.YtkmdkmlgahfcpaaW.PrintWords Go.Proofs.YtkmdkmlgahfcpaaW.PrintLast Go.Proofs.YtkmdkmlgahfcpaaW.PrintMore
attribute [local go_sem] max2_int min2_int max_two min_two max_three min_three max_four min_four   -- for this text's walks alone
set_option linter.unusedVariables false
set_option linter.unusedSimpArgs false

/-! ### spec_Terms: function 50 -/
def spec_Terms.f (a0_0 : Int) (a0_1 : Int) (a0_2 : Int) (a0_3 : Int) (a0_4 : Int) (a0_5 : Int) : Option (Bool) := some (a0_0 != 1)
set_option maxHeartbeats 8000000 in
set_option maxRecDepth 100000 in
theorem spec_Terms.calls (a0_0 : Int) (a0_1 : Int) (a0_2 : Int) (a0_3 : Int) (a0_4 : Int) (a0_5 : Int) (r : Bool) (w : World) (h : spec_Terms.f a0_0 a0_1 a0_2 a0_3 a0_4 a0_5 = some r) :
    Calls Try.prog 50 #[.agg #[.int .i64 a0_0, .int .i64 a0_1, .int .i64 a0_2, .int .u64 a0_3, .int .u64 a0_4, .int .u64 a0_5]] w fun e w' => e = .returned (.bool r) ∧ Below w.heap.size w w' := by
  have hu29 := Try.underlying29
  have HB := Aside0.mk (Below.refl w.heap.size w)
  have H : (some (a0_0 != 1)) = some r := h
  clear h
  obtain rfl := Option.some.inj H
  go_enter Try.func50, Try.ntmps50
  go_wp2_with (first | ((with_reducible refine gate_dst (N := 1) rfl ?_); refine box_event ?hg (N := 1) ?hd (cs := #[.int .i64 a0_0, .int .i64 a0_1, .int .i64 a0_2, .int .u64 a0_3, .int .u64 a0_4, .int .u64 a0_5]) (t := 29) ?hr ?_; (case hd => rfl); (case hg => rfl); (case hr => first | (go_simp; done) | (go_simp; rfl)); intro gb231 hg w2 hbox hb; have n0_ := Aside0.mk (below_step (by repeat (first | (with_reducible first | exact HB.out | apply below_alloc | apply pw_below_drewN | apply below_drew1) | exact HB.out)) hb); have n1_ := Aside0.mk (hbox); have n2_ := Aside0.mk ((by rw [hg]; exact (below_size (by repeat (first | (with_reducible first | exact HB.out | apply below_alloc | apply pw_below_drewN | apply below_drew1) | exact HB.out))) : w.heap.size ≤ gb231)); have n3_ := Aside0.mk ((by rw [hg]; exact (below_size (by repeat (first | (with_reducible first | exact HB.out | apply below_alloc | apply pw_below_drewN | apply below_drew1) | exact HB.out))) : w.heap.size ≤ gb231)); clear HB; have HB := n0_; have BK231 := n1_; have GW231 := n2_; have GE231 := n3_; clear n0_ n1_ n2_ n3_; clear hb hbox hg; have hcz3_0 : w2.cell? ⟨gb231, 0, none⟩ = some (.int .i64 a0_0) := (blk_cell BK231.out 0).trans rfl; have hcz3_1 : w2.cell? ⟨gb231, 1, none⟩ = some (.int .i64 a0_1) := (blk_cell BK231.out 1).trans rfl; have hcz3_2 : w2.cell? ⟨gb231, 2, none⟩ = some (.int .i64 a0_2) := (blk_cell BK231.out 2).trans rfl; have hcz3_3 : w2.cell? ⟨gb231, 3, none⟩ = some (.int .u64 a0_3) := (blk_cell BK231.out 3).trans rfl; have hcz3_4 : w2.cell? ⟨gb231, 4, none⟩ = some (.int .u64 a0_4) := (blk_cell BK231.out 4).trans rfl; have hcz3_5 : w2.cell? ⟨gb231, 5, none⟩ = some (.int .u64 a0_5) := (blk_cell BK231.out 5).trans rfl; have hfz3_0 := blk_frozen BK231.out 0; have hfz3_1 := blk_frozen BK231.out 1; have hfz3_2 := blk_frozen BK231.out 2; have hfz3_3 := blk_frozen BK231.out 3; have hfz3_4 := blk_frozen BK231.out 4; have hfz3_5 := blk_frozen BK231.out 5))
  go_ret
  exact ⟨by first | rfl | (simp [errW_none, errW_some] <;> rfl) | (simp [*, errW_none, errW_some] <;> rfl), by repeat (first | (with_reducible first | exact HB.out | apply below_alloc | apply pw_below_drewN | apply below_drew1 | refine below_set ?_ GE231.out) | exact HB.out)⟩

end Go.Proofs.Ytkmdkmlgahfcpaa.M

namespace Go.Proofs.Ytkmdkmlgahfcpaa.M
open Go.RowKit Go.Proofs.YtkmdkmlgahfcpaaW.PrintWords Go.Proofs.YtkmdkmlgahfcpaaW.PrintLast Go.Proofs.YtkmdkmlgahfcpaaW.PrintMore
attribute [local go_sem] max2_int min2_int max_two min_two max_three min_three max_four min_four   -- for this text's walks alone
set_option linter.unusedVariables false
set_option linter.unusedSimpArgs false

/-! ### spec_word: function 51 -/
mutual
def spec_word.l0 : Nat → Int → List Int → Int → Int → Int → Int → Int → Int → Int → Int → Option (List Int)
  | 0, _, _, _, _, _, _, _, _, _, _ => none
  | k + 1, x1, x12, x13, x14, x233000, x233001, x233002, x233003, x233004, x233005 => if x14 < x13 then (if 0 ≤ x14 then (if x14 < (x12.length : Int) then (spec_word.l0 k (IntKind.u64.wrap ((Go.bits .xor .u64 x1 (IntKind.u64.wrap (rd x12 x14))) * 1099511628211)) x12 x13 (wrap64 (x14 + 1)) x233000 x233001 x233002 x233003 x233004 x233005) else (none)) else (none)) else (if x233002 < 1 then (spec_word.j1 k x1 x233002 true) else (spec_word.j1 k x1 x233002 (decide (x233002 > 8))))
def spec_word.j1 : Nat → Int → Int → Bool → Option (List Int)
  | 0, _, _, _ => none
  | k + 1, x1, x9, x31 => if x31 = true then (spec_word.j2 k x1 8) else (spec_word.j2 k x1 x9)
def spec_word.j2 : Nat → Int → Int → Option (List Int)
  | 0, _, _ => none
  | k + 1, x1, x9 => spec_word.l1 k x1 ([] : List Int) (wrap64 (x9 - 1))
def spec_word.l1 : Nat → Int → List Int → Int → Option (List Int)
  | 0, _, _, _ => none
  | k + 1, x1, x10, x11 => if x11 ≥ 0 then (if 0 ≤ (wrap64 (8 * x11)) then (if x10.length < 140737488355328 then (spec_word.l1 k x1 (x10 ++ [(shr .u64 x1 (wrap64 (8 * x11))) % 256]) (wrap64 (x11 - 1))) else (none)) else (none)) else (some x10)
end
def spec_word.f (k : Nat) (a0_0 : Int) (a0_1 : Int) (a0_2 : Int) (a0_3 : Int) (a0_4 : Int) (a0_5 : Int) (a1 : Int) (l2 : List Int) : Option (List Int) := spec_word.l0 k a1 l2 (l2.length : Int) 0 a0_0 a0_1 a0_2 a0_3 a0_4 a0_5
theorem spec_word.mono_l : ∀ k, (∀ y0 y1 y2 y3 y4 y5 y6 y7 y8 y9, LeO (spec_word.l0 k y0 y1 y2 y3 y4 y5 y6 y7 y8 y9) (spec_word.l0 (k + 1) y0 y1 y2 y3 y4 y5 y6 y7 y8 y9)) ∧ (∀ y0 y1 y2, LeO (spec_word.j1 k y0 y1 y2) (spec_word.j1 (k + 1) y0 y1 y2)) ∧ (∀ y0 y1, LeO (spec_word.j2 k y0 y1) (spec_word.j2 (k + 1) y0 y1)) ∧ (∀ y0 y1 y2, LeO (spec_word.l1 k y0 y1 y2) (spec_word.l1 (k + 1) y0 y1 y2))
  | 0 => ⟨fun _ _ _ _ _ _ _ _ _ _ r h => by simp [spec_word.l0] at h, fun _ _ _ r h => by simp [spec_word.j1] at h, fun _ _ r h => by simp [spec_word.j2] at h, fun _ _ _ r h => by simp [spec_word.l1] at h⟩
  | k + 1 => by
    obtain ⟨ih0, ih1, ih2, ih3⟩ := spec_word.mono_l k
    refine ⟨?_, ?_, ?_, ?_⟩
    · intro y0 y1 y2 y3 y4 y5 y6 y7 y8 y9
      unfold spec_word.l0
      repeat' first
      | (with_reducible exact ih0 _ _ _ _ _ _ _ _ _ _)
      | (with_reducible exact ih1 _ _ _)
      | (with_reducible exact ih2 _ _)
      | (with_reducible exact ih3 _ _ _)
      | (with_reducible exact LeO.refl _)
      | (with_reducible exact LeO.none _)
      | (with_reducible refine LeO.ite ?_ ?_)
      | (with_reducible refine LeO.bind ?_ (fun _ => ?_))
      | exact ih0 _ _ _ _ _ _ _ _ _ _
      | exact ih1 _ _ _
      | exact ih2 _ _
      | exact ih3 _ _ _
      | exact LeO.none _
      | refine LeO.ite ?_ ?_
      | refine LeO.bind ?_ (fun _ => ?_)
    · intro y0 y1 y2
      unfold spec_word.j1
      repeat' first
      | (with_reducible exact ih0 _ _ _ _ _ _ _ _ _ _)
      | (with_reducible exact ih1 _ _ _)
      | (with_reducible exact ih2 _ _)
      | (with_reducible exact ih3 _ _ _)
      | (with_reducible exact LeO.refl _)
      | (with_reducible exact LeO.none _)
      | (with_reducible refine LeO.ite ?_ ?_)
      | (with_reducible refine LeO.bind ?_ (fun _ => ?_))
      | exact ih0 _ _ _ _ _ _ _ _ _ _
      | exact ih1 _ _ _
      | exact ih2 _ _
      | exact ih3 _ _ _
      | exact LeO.none _
      | refine LeO.ite ?_ ?_
      | refine LeO.bind ?_ (fun _ => ?_)
    · intro y0 y1
      unfold spec_word.j2
      repeat' first
      | (with_reducible exact ih0 _ _ _ _ _ _ _ _ _ _)
      | (with_reducible exact ih1 _ _ _)
      | (with_reducible exact ih2 _ _)
      | (with_reducible exact ih3 _ _ _)
      | (with_reducible exact LeO.refl _)
      | (with_reducible exact LeO.none _)
      | (with_reducible refine LeO.ite ?_ ?_)
      | (with_reducible refine LeO.bind ?_ (fun _ => ?_))
      | exact ih0 _ _ _ _ _ _ _ _ _ _
      | exact ih1 _ _ _
      | exact ih2 _ _
      | exact ih3 _ _ _
      | exact LeO.none _
      | refine LeO.ite ?_ ?_
      | refine LeO.bind ?_ (fun _ => ?_)
    · intro y0 y1 y2
      unfold spec_word.l1
      repeat' first
      | (with_reducible exact ih0 _ _ _ _ _ _ _ _ _ _)
      | (with_reducible exact ih1 _ _ _)
      | (with_reducible exact ih2 _ _)
      | (with_reducible exact ih3 _ _ _)
      | (with_reducible exact LeO.refl _)
      | (with_reducible exact LeO.none _)
      | (with_reducible refine LeO.ite ?_ ?_)
      | (with_reducible refine LeO.bind ?_ (fun _ => ?_))
      | exact ih0 _ _ _ _ _ _ _ _ _ _
      | exact ih1 _ _ _
      | exact ih2 _ _
      | exact ih3 _ _ _
      | exact LeO.none _
      | refine LeO.ite ?_ ?_
      | refine LeO.bind ?_ (fun _ => ?_)
theorem spec_word.mono : ∀ a0 a1 a2 a3 a4 a5 a6 a7 k, LeO (spec_word.f k a0 a1 a2 a3 a4 a5 a6 a7) (spec_word.f (k + 1) a0 a1 a2 a3 a4 a5 a6 a7) := by
  intro a0 a1 a2 a3 a4 a5 a6 a7 k
  obtain ⟨ih0, ih1, ih2, ih3⟩ := spec_word.mono_l k
  unfold spec_word.f
  repeat' first
      | (with_reducible exact ih0 _ _ _ _ _ _ _ _ _ _)
      | (with_reducible exact ih1 _ _ _)
      | (with_reducible exact ih2 _ _)
      | (with_reducible exact ih3 _ _ _)
      | (with_reducible exact LeO.refl _)
      | (with_reducible exact LeO.none _)
      | (with_reducible refine LeO.ite ?_ ?_)
      | (with_reducible refine LeO.bind ?_ (fun _ => ?_))
      | exact ih0 _ _ _ _ _ _ _ _ _ _
      | exact ih1 _ _ _
      | exact ih2 _ _
      | exact ih3 _ _ _
      | exact LeO.none _
      | refine LeO.ite ?_ ?_
      | refine LeO.bind ?_ (fun _ => ?_)
set_option maxHeartbeats 8000000 in
set_option maxRecDepth 100000 in
theorem spec_word.calls (k : Nat) (a0_0 : Int) (a0_1 : Int) (a0_2 : Int) (a0_3 : Int) (a0_4 : Int) (a0_5 : Int) (a1 : Int) (A2 : Option Addr) (c2 : Nat) (l2 : List Int) (r : List Int) (w : World) (hr2 : Kd.C (Kd.int .u8) w A2 l2.length l2) (hc2 : l2.length ≤ c2) (h : spec_word.f k a0_0 a0_1 a0_2 a0_3 a0_4 a0_5 a1 l2 = some r) :
    Calls Try.prog 51 #[.agg #[.int .i64 a0_0, .int .i64 a0_1, .int .i64 a0_2, .int .u64 a0_3, .int .u64 a0_4, .int .u64 a0_5], .int .u64 a1, .slice A2 l2.length c2] w fun e w' => ∃ v0_ : Value, e = .returned (v0_) ∧ Kd.R (Kd.int .u8) 5 w' w.heap.size (fun _ => True) v0_ r ∧ Below w.heap.size w w' := by
  have hu29 := Try.underlying29
  have HR2 := Aside0.mk hr2
  have HC2 := Aside0.mk hc2
  clear hr2 hc2
  have HB := Aside0.mk (Below.refl w.heap.size w)
  have H : (spec_word.l0 k a1 l2 (l2.length : Int) 0 a0_0 a0_1 a0_2 a0_3 a0_4 a0_5) = some r := h
  clear h
  have H' := Aside0.mk H
  clear H
  go_enter Try.func51, Try.ntmps51
  go_wp2_with (first | ((with_reducible refine gate_dst (N := 3) rfl ?_); refine box_event ?hg (N := 3) ?hd (cs := #[.int .i64 a0_0, .int .i64 a0_1, .int .i64 a0_2, .int .u64 a0_3, .int .u64 a0_4, .int .u64 a0_5]) (t := 29) ?hr ?_; (case hd => rfl); (case hg => rfl); (case hr => first | (go_simp; done) | (go_simp; rfl)); intro gb232 hg w4 hbox hb; have n0_ := Aside0.mk (below_step (by repeat (first | (with_reducible first | exact HB.out | apply below_alloc | apply pw_below_drewN | apply below_drew1) | exact HB.out)) hb); have n1_ := Aside0.mk (hbox); have n2_ := Aside0.mk ((by rw [hg]; exact (below_size (by repeat (first | (with_reducible first | exact HB.out | apply below_alloc | apply pw_below_drewN | apply below_drew1) | exact HB.out))) : w.heap.size ≤ gb232)); have n3_ := Aside0.mk ((by rw [hg]; exact (below_size (by repeat (first | (with_reducible first | exact HB.out | apply below_alloc | apply pw_below_drewN | apply below_drew1) | exact HB.out))) : w.heap.size ≤ gb232)); clear HB; have HB := n0_; have BK232 := n1_; have GW232 := n2_; have GE232 := n3_; clear n0_ n1_ n2_ n3_; clear hb hbox hg))
  go_loopg [1, 14] k (fun kq v1 v14 w' => ∃ (x1_1 : Int) (x14_1 : Int), v1 = .int .u64 x1_1 ∧ v14 = .int .i64 x14_1 ∧ Aside0 (spec_word.l0 kq x1_1 l2 (l2.length : Int) x14_1 a0_0 a0_1 a0_2 a0_3 a0_4 a0_5 = some r) ∧ Aside0 (kq ≤ k) ∧ Aside0 (w'.heap[gb232]? = some (.cells #[.int .i64 a0_0, .int .i64 a0_1, .int .i64 a0_2, .int .u64 a0_3, .int .u64 a0_4, .int .u64 a0_5] 29 (0, 0))) ∧ Aside0 (Below w.heap.size w w'))
  case atStart => exact ⟨(a1), (0), (by first | rfl | (simp; done) | (simp [*]; done)), (by first | rfl | (simp; done) | (simp [*]; done)), H', ⟨Nat.le_refl _⟩, ⟨by (with_reducible repeat (first | refine blk_drewN ?_ _ | refine blk_drew ?_ | refine blk_alloc ?_ _)); exact BK232.out⟩, ⟨by repeat (first | (with_reducible first | exact HB.out | apply below_alloc | apply pw_below_drewN | apply below_drew1 | refine below_set ?_ GE232.out) | exact HB.out)⟩⟩
  case round =>
    clear H'
    try clear c2
    try clear p2
    obtain ⟨x1_1, x14_1, rfl, rfl, HA, HK1, BK232, HB⟩ := hrel
    cases gk with
    | zero => exact absurd HA.out (by simp [spec_word.l0])
    | succ k1 =>
      have H := HA.out
      clear HA
      simp only [spec_word.l0] at H
      by_cases c5 : x14_1 < (l2.length : Int)
      · rw [if_pos c5] at H
        have c5b0 : decide (x14_1 < (l2.length : Int)) = true := decide_eq_true c5
        clear c5
        by_cases c6 : 0 ≤ x14_1
        · rw [if_pos c6] at H
          have c6b0 : decide (0 ≤ x14_1) = true := decide_eq_true c6
          clear c6
          by_cases c7 : x14_1 < (l2.length : Int)
          · rw [if_pos c7] at H
            have c7b0 : decide (x14_1 < (l2.length : Int)) = true := decide_eq_true c7
            clear c7
            have H' := Aside0.mk H
            clear H
            have p233 : 0 ≤ (x14_1 : Int) := of_decide_eq_true (by first | (with_reducible assumption) | assumption)
            have q233 : x14_1 < (l2.length : Int) := of_decide_eq_true (by first | (with_reducible assumption) | assumption)
            obtain ⟨ad233, e233, hx233_0⟩ := Kd.at_int HR2.out x14_1 p233 q233
            cases e233
            replace hx233_0 := (HB.out.cell (World.block_lt_of_cell? w _ hx233_0)).trans hx233_0
            replace p233 := eq_true p233
            replace q233 := eq_true q233
            go_wp2
            go_roundg k1
            case measure => have := HK1.out; omega
            case rel => exact ⟨(IntKind.u64.wrap ((Go.bits .xor .u64 x1_1 (IntKind.u64.wrap (rd l2 x14_1))) * 1099511628211)), (wrap64 (x14_1 + 1)), (by first | rfl | (simp; done) | (simp [*]; done)), (by first | rfl | (simp; done) | (simp [*]; done)), H', ⟨by have := HK1.out; omega⟩, ⟨by (with_reducible repeat (first | refine blk_drewN ?_ _ | refine blk_drew ?_ | refine blk_alloc ?_ _)); exact BK232.out⟩, ⟨by repeat (first | (with_reducible first | exact HB.out | apply below_alloc | apply pw_below_drewN | apply below_drew1 | refine below_set ?_ GE232.out) | exact HB.out)⟩⟩
          · rw [if_neg c7] at H
            exact absurd H (by simp)
        · rw [if_neg c6] at H
          exact absurd H (by simp)
      · rw [if_neg c5] at H
        have c5b0 : decide (x14_1 < (l2.length : Int)) = false := decide_eq_false c5
        clear c5
        have HC8 := Aside0.mk H
        clear H
        have hcz9_0 : wr.cell? ⟨gb232, 0, none⟩ = some (.int .i64 a0_0) := (blk_cell BK232.out 0).trans rfl
        have hcz9_1 : wr.cell? ⟨gb232, 1, none⟩ = some (.int .i64 a0_1) := (blk_cell BK232.out 1).trans rfl
        have hcz9_2 : wr.cell? ⟨gb232, 2, none⟩ = some (.int .i64 a0_2) := (blk_cell BK232.out 2).trans rfl
        have hcz9_3 : wr.cell? ⟨gb232, 3, none⟩ = some (.int .u64 a0_3) := (blk_cell BK232.out 3).trans rfl
        have hcz9_4 : wr.cell? ⟨gb232, 4, none⟩ = some (.int .u64 a0_4) := (blk_cell BK232.out 4).trans rfl
        have hcz9_5 : wr.cell? ⟨gb232, 5, none⟩ = some (.int .u64 a0_5) := (blk_cell BK232.out 5).trans rfl
        have hfz9_0 := blk_frozen BK232.out 0
        have hfz9_1 := blk_frozen BK232.out 1
        have hfz9_2 := blk_frozen BK232.out 2
        have hfz9_3 := blk_frozen BK232.out 3
        have hfz9_4 := blk_frozen BK232.out 4
        have hfz9_5 := blk_frozen BK232.out 5
        go_upto_region 7 with (fail)
        go_cut [31] (fun v31 wc => ∃ (kq : Nat) (x31_7 : Bool), v31 = .bool x31_7 ∧ Aside0 (spec_word.j1 kq x1_1 a0_2 x31_7 = some r) ∧ Aside0 (kq ≤ k1) ∧ Aside0 (wc.heap[gb232]? = some (.cells #[.int .i64 a0_0, .int .i64 a0_1, .int .i64 a0_2, .int .u64 a0_3, .int .u64 a0_4, .int .u64 a0_5] 29 (0, 0))) ∧ Aside0 (Below w.heap.size w wc))
        case first =>
          have H := HC8.out
          clear HC8
          by_cases c10 : a0_2 < 1
          · rw [if_pos c10] at H
            have c10b0 : decide (a0_2 < 1) = true := decide_eq_true c10
            clear c10
            (first | rw [c10b0] | (simp only [i64_w, i32_w]; rw [c10b0]) | skip)
            have H' := Aside0.mk H
            clear H
            go_wp2
            go_meet
            case rel => exact ⟨_, (true), (by first | rfl | (simp; done) | (simp [*]; done)), H', ⟨by have := HK1.out; first | omega | exact Nat.le_refl _⟩, ⟨by (with_reducible repeat (first | refine blk_drewN ?_ _ | refine blk_drew ?_ | refine blk_alloc ?_ _)); exact BK232.out⟩, ⟨by repeat (first | (with_reducible first | exact HB.out | apply below_alloc | apply pw_below_drewN | apply below_drew1 | refine below_set ?_ GE232.out) | exact HB.out)⟩⟩
          · rw [if_neg c10] at H
            have c10b0 : decide (a0_2 < 1) = false := decide_eq_false c10
            clear c10
            (first | rw [c10b0] | (simp only [i64_w, i32_w]; rw [c10b0]) | skip)
            have H' := Aside0.mk H
            clear H
            go_wp2
            go_meet
            case rel => exact ⟨_, (decide (a0_2 > 8)), (by first | rfl | (simp; done) | (simp [*]; done)), H', ⟨by have := HK1.out; first | omega | exact Nat.le_refl _⟩, ⟨by (with_reducible repeat (first | refine blk_drewN ?_ _ | refine blk_drew ?_ | refine blk_alloc ?_ _)); exact BK232.out⟩, ⟨by repeat (first | (with_reducible first | exact HB.out | apply below_alloc | apply pw_below_drewN | apply below_drew1 | refine below_set ?_ GE232.out) | exact HB.out)⟩⟩
        case rest =>
          clear HC8
          try clear c1
          try clear c2
          try clear p2
          try clear q2
          try clear hx2
          try clear c5
          try clear c5b0
          try clear c6
          try clear c6b0
          try clear p6
          try clear c7
          try clear c7b0
          try clear c10
          try clear c10b0
          try clear hcz9_0
          try clear hcz9_1
          try clear hcz9_2
          try clear hcz9_3
          try clear hcz9_4
          try clear hcz9_5
          try clear hfz9_0
          try clear hfz9_1
          try clear hfz9_2
          try clear hfz9_3
          try clear hfz9_4
          try clear hfz9_5
          try clear hx233_0
          try clear p2
          try clear p233
          try clear q233
          obtain ⟨kq, x31_7, rfl, HA, HJ7, BK232, HB⟩ := hcut
          cases kq with
          | zero => exact absurd HA.out (by simp [spec_word.j1])
          | succ kj7 =>
            have H := HA.out
            clear HA
            simp only [spec_word.j1] at H
            have HC11 := Aside0.mk H
            clear H
            go_upto_if 31 with (fail)
            go_cut [9] (fun v9 wc => ∃ (kq : Nat) (x9_10 : Int), v9 = .int .i64 x9_10 ∧ Aside0 (spec_word.j2 kq x1_1 x9_10 = some r) ∧ Aside0 (kq ≤ kj7) ∧ Aside0 (wc.heap[gb232]? = some (.cells #[.int .i64 a0_0, .int .i64 a0_1, .int .i64 a0_2, .int .u64 a0_3, .int .u64 a0_4, .int .u64 a0_5] 29 (0, 0))) ∧ Aside0 (Below w.heap.size w wc))
            case first =>
              have H := HC11.out
              clear HC11
              by_cases c12 : x31_7 = true
              · subst c12
                have H1 : (spec_word.j2 kj7 x1_1 8) = some r := by rw [if_pos rfl] at H; exact H
                clear H
                have H := H1
                clear H1
                have H' := Aside0.mk H
                clear H
                go_wp2
                go_meet
                case rel => exact ⟨_, (8), (by first | rfl | (simp; done) | (simp [*]; done)), H', ⟨by have := HK1.out; have := HJ7.out; first | omega | exact Nat.le_refl _⟩, ⟨by (with_reducible repeat (first | refine blk_drewN ?_ _ | refine blk_drew ?_ | refine blk_alloc ?_ _)); exact BK232.out⟩, ⟨by repeat (first | (with_reducible first | exact HB.out | apply below_alloc | apply pw_below_drewN | apply below_drew1 | refine below_set ?_ GE232.out) | exact HB.out)⟩⟩
              · replace c12 := Bool.eq_false_iff.mpr c12
                subst c12
                have H1 : (spec_word.j2 kj7 x1_1 a0_2) = some r := by rw [if_neg (show ¬ (false = true) by decide)] at H; exact H
                clear H
                have H := H1
                clear H1
                have H' := Aside0.mk H
                clear H
                go_wp2
                go_meet
                case rel => exact ⟨_, (a0_2), (by first | rfl | (simp; done) | (simp [*]; done)), H', ⟨by have := HK1.out; have := HJ7.out; first | omega | exact Nat.le_refl _⟩, ⟨by (with_reducible repeat (first | refine blk_drewN ?_ _ | refine blk_drew ?_ | refine blk_alloc ?_ _)); exact BK232.out⟩, ⟨by repeat (first | (with_reducible first | exact HB.out | apply below_alloc | apply pw_below_drewN | apply below_drew1 | refine below_set ?_ GE232.out) | exact HB.out)⟩⟩
            case rest =>
              clear HC11
              try clear c1
              try clear c2
              try clear p2
              try clear q2
              try clear hx2
              try clear c5
              try clear c5b0
              try clear c6
              try clear c6b0
              try clear p6
              try clear c7
              try clear c7b0
              try clear c10
              try clear c10b0
              try clear c12
              try clear hcz9_0
              try clear hcz9_1
              try clear hcz9_2
              try clear hcz9_3
              try clear hcz9_4
              try clear hcz9_5
              try clear hfz9_0
              try clear hfz9_1
              try clear hfz9_2
              try clear hfz9_3
              try clear hfz9_4
              try clear hfz9_5
              try clear hx233_0
              try clear p2
              try clear p233
              try clear p6
              try clear q2
              try clear q233
              obtain ⟨kq, x9_10, rfl, HA, HJ10, BK232, HB⟩ := hcut
              cases kq with
              | zero => exact absurd HA.out (by simp [spec_word.j2])
              | succ kj10 =>
                have H := HA.out
                clear HA
                simp only [spec_word.j2] at H
                have H' := Aside0.mk H
                clear H
                go_wp2
                go_loopg [10, 11] kj10 (fun kq v10 v11 w' => ∃ (x10_4 : List Int) (x11_4 : Int), v11 = .int .i64 x11_4 ∧ Aside0 (spec_word.l1 kq x1_1 x10_4 x11_4 = some r) ∧ Aside0 (kq ≤ kj10) ∧ Aside0 (Kd.R (Kd.int .u8) 5 w' w.heap.size (fun _ => True) v10 x10_4) ∧ Aside0 (w'.heap[gb232]? = some (.cells #[.int .i64 a0_0, .int .i64 a0_1, .int .i64 a0_2, .int .u64 a0_3, .int .u64 a0_4, .int .u64 a0_5] 29 (0, 0))) ∧ Aside0 (Below w.heap.size w w'))
                case atStart => exact ⟨(([] : List Int)), (wrap64 (x9_10 - 1)), (by first | rfl | (simp; done) | (simp [*]; done)), H', ⟨Nat.le_refl _⟩, ⟨by first | exact Kd.R_nil _ _ _ _ _ | exact Kd.N_nil _ _ _ _ _ | exact Kd.V_nil _ _ _ _ _ | exact Kd.Q_nil _ _ _ _ _ | exact Kd.S_nil _ _ _ _ _⟩, ⟨by (with_reducible repeat (first | refine blk_drewN ?_ _ | refine blk_drew ?_ | refine blk_alloc ?_ _)); exact BK232.out⟩, ⟨by repeat (first | (with_reducible first | exact HB.out | apply below_alloc | apply pw_below_drewN | apply below_drew1 | refine below_set ?_ GE232.out) | exact HB.out)⟩⟩
                case round =>
                  clear H'
                  try clear c1
                  try clear c2
                  try clear p2
                  try clear q2
                  try clear hx2
                  try clear c5
                  try clear c5b0
                  try clear c6
                  try clear c6b0
                  try clear p6
                  try clear c7
                  try clear c7b0
                  try clear c10
                  try clear c10b0
                  try clear c12
                  try clear hcz9_0
                  try clear hcz9_1
                  try clear hcz9_2
                  try clear hcz9_3
                  try clear hcz9_4
                  try clear hcz9_5
                  try clear hfz9_0
                  try clear hfz9_1
                  try clear hfz9_2
                  try clear hfz9_3
                  try clear hfz9_4
                  try clear hfz9_5
                  try clear hx233_0
                  try clear p2
                  try clear p233
                  try clear p6
                  try clear q2
                  try clear q233
                  obtain ⟨x10_4, x11_4, rfl, HA, HK4, HO_10, BK232, HB⟩ := hrel
                  cases gk with
                  | zero => exact absurd HA.out (by simp [spec_word.l1])
                  | succ k4 =>
                    have H := HA.out
                    clear HA
                    simp only [spec_word.l1] at H
                    by_cases c13 : x11_4 ≥ 0
                    · rw [if_pos c13] at H
                      have c13b0 : decide (0 ≤ x11_4) = true := decide_eq_true c13
                      clear c13
                      obtain ⟨ji14, hji14⟩ : ∃ j_ : Int, (wrap64 (8 * x11_4)) = j_ := ⟨_, rfl⟩
                      replace H : (if 0 ≤ (ji14) then (if x10_4.length < 140737488355328 then (spec_word.l1 k4 x1_1 (x10_4 ++ [(shr .u64 x1_1 (ji14)) % 256]) (wrap64 (x11_4 - 1))) else (none)) else (none)) = some r := by first | (rw [hji14] at H; exact H) | (simp only [hji14] at H ⊢; exact H)
                      have hji14w : (IntKind.i64.wrap (8 * x11_4)) = ji14 := (i64_w _).trans hji14
                      by_cases c15 : 0 ≤ (ji14)
                      · rw [if_pos c15] at H
                        have c15b0 := eq_true c15
                        have c15b1 : decide (0 ≤ (ji14)) = true := decide_eq_true c15
                        clear c15
                        obtain ⟨ji16, hji16⟩ : ∃ j_ : Int, (shr .u64 x1_1 (ji14)) = j_ := ⟨_, rfl⟩
                        replace H : (if x10_4.length < 140737488355328 then (spec_word.l1 k4 x1_1 (x10_4 ++ [(ji16) % 256]) (wrap64 (x11_4 - 1))) else (none)) = some r := by first | (rw [hji16] at H; exact H) | (simp only [hji16] at H ⊢; exact H)
                        have hji16_ : (x1_1 / 2 ^ min (ji14).toNat 64) = ji16 := hji16
                        have hji16z : (ji14) ≤ 64 → (x1_1 / 2 ^ (ji14).toNat) = ji16 := shr_small hji16
                        by_cases c17 : x10_4.length < 140737488355328
                        · rw [if_pos c17] at H
                          have LMc17 := Aside0.mk c17
                          clear c17
                          obtain ⟨y234, hy234⟩ : ∃ y_ : List Int, y_ = (x10_4 ++ [(ji16) % 256]) := ⟨_, rfl⟩
                          replace H : (spec_word.l1 k4 x1_1 y234 (wrap64 (x11_4 - 1))) = some r := by first | (rw [hy234]; with_reducible exact H) | (have H2_ := (Option.bind_some _ _).symm.trans H; rw [hy234]; with_reducible exact H2_) | (have H2_ := (Option.bind_some _ _).symm.trans H; with_reducible exact H2_) | with_reducible exact H | (rw [hy234]; exact H) | exact H
                          have Ny234 := Aside0.mk hy234
                          clear hy234
                          have H' := Aside0.mk H
                          clear H
                          go_wp2_with (first | ((with_reducible refine gate_builtin (b := .append) (xs := #[.tmp 38, .tmp 44]) rfl ?_); at_builtin; refine Kd.R_append (Kd.int .u8) (w0 := w) w.heap.size rfl (.tmp 38) (.tmp 44) 30 5 (.int .u8 0) 1 rfl Try.underlying30 info5 rfl (by decide) (by omega) u10 x10_4 ((ji16) % 256) [.int .u8 ((ji16) % 256)] (fun _ => True) (fun _ => False) rfl rfl ?aP (fun _ hk => hk.elim) ?aF ?aO ?aB ?aS ?aL ?_; (case aP => exact rfl); (case aB => exact (by repeat (first | (with_reducible first | exact HB.out | apply below_alloc | apply pw_below_drewN | apply below_drew1 | refine below_set ?_ GE232.out) | exact HB.out))); (case aF => exact (fun _ _ => trivial)); (case aO => exact (by (with_reducible repeat (first | apply Kd.R_alloc | apply Kd.R_drewN | apply Kd.R_drew)); exact HO_10.out)); (case aS => exact (below_size (by repeat (first | (with_reducible first | exact HB.out | apply below_alloc | apply pw_below_drewN | apply below_drew1 | refine below_set ?_ GE232.out) | exact HB.out)))); (case aL => have := LMc17.out; omega); intro v235 w18 ho hb hg hat; rw [← Ny234.out] at ho; have n0_ := Aside0.mk (blk_grown (g := gb232) (o := .cells #[.int .i64 a0_0, .int .i64 a0_1, .int .i64 a0_2, .int .u64 a0_3, .int .u64 a0_4, .int .u64 a0_5] 29 (0, 0)) (by (with_reducible repeat (first | refine blk_drewN ?_ _ | refine blk_drew ?_ | refine blk_alloc ?_ _)); exact BK232.out) hg (Kd.R_ne HO_10.out BK232.out (by decide))); have n1_ := Aside0.mk (hb); have n2_ := Aside0.mk (ho); clear BK232; clear HB; clear HO_10; have BK232 := n0_; have HB := n1_; have HO236 := n2_; clear n0_ n1_ n2_; clear ho hb hg hat))
                          go_roundg k4
                          case measure => have := HK1.out; have := HJ7.out; have := HJ10.out; have := HK4.out; omega
                          case rel => exact ⟨(y234), (wrap64 (x11_4 - 1)), (by first | rfl | (simp; done) | (simp [*]; done)), H', ⟨by have := HK1.out; have := HJ7.out; have := HJ10.out; have := HK4.out; omega⟩, ⟨by (with_reducible repeat (first | apply Kd.R_alloc | apply Kd.R_drewN | apply Kd.R_drew)); exact HO236.out⟩, ⟨by (with_reducible repeat (first | refine blk_drewN ?_ _ | refine blk_drew ?_ | refine blk_alloc ?_ _)); exact BK232.out⟩, ⟨by repeat (first | (with_reducible first | exact HB.out | apply below_alloc | apply pw_below_drewN | apply below_drew1 | refine below_set ?_ GE232.out) | exact HB.out)⟩⟩
                        · rw [if_neg c17] at H
                          exact absurd H (by simp)
                      · rw [if_neg c15] at H
                        exact absurd H (by simp)
                    · rw [if_neg c13] at H
                      have c13b0 : decide (0 ≤ x11_4) = false := decide_eq_false c13
                      clear c13
                      obtain rfl := Option.some.inj H
                      go_wp2
                      go_ret
                      exact ⟨_, by first | rfl | (simp [errW_none, errW_some] <;> rfl) | (simp [*, errW_none, errW_some] <;> rfl), by (with_reducible repeat (first | apply Kd.R_alloc | apply Kd.R_drewN | apply Kd.R_drew)); exact HO_10.out, by repeat (first | (with_reducible first | exact HB.out | apply below_alloc | apply pw_below_drewN | apply below_drew1 | refine below_set ?_ GE232.out) | exact HB.out)⟩

end Go.Proofs.Ytkmdkmlgahfcpaa.M

namespace Go.Proofs.Ytkmdkmlgahfcpaa.M
open Go.RowKit Go.Proofs.YtkmdkmlgahfcpaaW.PrintWords Go.Proofs.YtkmdkmlgahfcpaaW.PrintLast Go.Proofs.YtkmdkmlgahfcpaaW.PrintMore
attribute [local go_sem] max2_int min2_int max_two min_two max_three min_three max_four min_four   -- for this text's walks alone
set_option linter.unusedVariables false
set_option linter.unusedSimpArgs false

/-! ### spec_HashChildren: function 48 -/
def spec_HashChildren.l0 : Nat → List Int → List Int → List Int → Int → Option (List Int)
  | 0, _, _, _, _ => none
  | k + 1, x1, x2, x7, x8 => if x8 ≥ 0 then (if 0 ≤ x8 then ((some (([(shr .u64 (IntKind.u64.wrap ((x1.length : Int))) x8) % 256] : List Int) : List Int)).bind fun y242 => (if x7.length + y242.length < 140737488355328 then (spec_HashChildren.l0 k x1 x2 (x7 ++ y242) (wrap64 (x8 - 8))) else (none))) else (none)) else (if x7.length + x1.length < 140737488355328 then ((some (x7 ++ x1 : List Int)).bind fun y248 => (if y248.length + x2.length < 140737488355328 then (some (y248 ++ x2)) else (none))) else (none))
def spec_HashChildren.f (k : Nat) (a0_0 : Int) (a0_1 : Int) (a0_2 : Int) (a0_3 : Int) (a0_4 : Int) (a0_5 : Int) (l1 : List Int) (l2 : List Int) : Option (List Int) := (spec_Terms.f a0_0 a0_1 a0_2 a0_3 a0_4 a0_5).bind fun t238 => (if t238 = true then (spec_HashChildren.l0 k l1 l2 (([1] : List Int)) 56) else ((some (([] : List Int) : List Int)).bind fun y254 => (if y254.length + l1.length < 140737488355328 then ((some (y254 ++ l1 : List Int)).bind fun y257 => ((some (([255] : List Int) : List Int)).bind fun y260 => (if y257.length + y260.length < 140737488355328 then ((some (y257 ++ y260 : List Int)).bind fun y263 => (if y263.length + l2.length < 140737488355328 then ((spec_word.f k a0_0 a0_1 a0_2 a0_3 a0_4 a0_5 a0_5 (y263 ++ l2)).bind fun t269 => (some t269)) else (none))) else (none)))) else (none))))
theorem spec_HashChildren.mono_l : ∀ k, (∀ y0 y1 y2 y3, LeO (spec_HashChildren.l0 k y0 y1 y2 y3) (spec_HashChildren.l0 (k + 1) y0 y1 y2 y3))
  | 0 => fun _ _ _ _ r h => by simp [spec_HashChildren.l0] at h
  | k + 1 => by
    have ih0 := spec_HashChildren.mono_l k
    · intro y0 y1 y2 y3
      unfold spec_HashChildren.l0
      repeat' first
      | (with_reducible exact ih0 _ _ _ _)
      | (with_reducible exact spec_word.mono _ _ _ _ _ _ _ _ _)
      | (with_reducible exact LeO.refl _)
      | (with_reducible exact LeO.none _)
      | (with_reducible refine LeO.ite ?_ ?_)
      | (with_reducible refine LeO.bind ?_ (fun _ => ?_))
      | exact ih0 _ _ _ _
      | exact spec_word.mono _ _ _ _ _ _ _ _ _
      | exact LeO.none _
      | refine LeO.ite ?_ ?_
      | refine LeO.bind ?_ (fun _ => ?_)
theorem spec_HashChildren.mono : ∀ a0 a1 a2 a3 a4 a5 a6 a7 k, LeO (spec_HashChildren.f k a0 a1 a2 a3 a4 a5 a6 a7) (spec_HashChildren.f (k + 1) a0 a1 a2 a3 a4 a5 a6 a7) := by
  intro a0 a1 a2 a3 a4 a5 a6 a7 k
  have ih0 := spec_HashChildren.mono_l k
  unfold spec_HashChildren.f
  repeat' first
      | (with_reducible exact ih0 _ _ _ _)
      | (with_reducible exact spec_word.mono _ _ _ _ _ _ _ _ _)
      | (with_reducible exact LeO.refl _)
      | (with_reducible exact LeO.none _)
      | (with_reducible refine LeO.ite ?_ ?_)
      | (with_reducible refine LeO.bind ?_ (fun _ => ?_))
      | exact ih0 _ _ _ _
      | exact spec_word.mono _ _ _ _ _ _ _ _ _
      | exact LeO.none _
      | refine LeO.ite ?_ ?_
      | refine LeO.bind ?_ (fun _ => ?_)
def spec_HashChildren.T8 : Bool × List (List Nat × List Nat) := (true, [([], []), ([], []), ([1], [1]), ([], []), ([], []), ([3, 4], [3, 4]), ([], []), ([5, 6, 5], [5, 6]), ([], []), ([7, 8, 7], [7, 8]), ([0, 2, 9, 9], [0, 2, 9]), ([10, 10, 0, 1, 2, 3, 4, 5, 6, 7, 8, 9, 10], [10])])
def spec_HashChildren.B8 : List Nat := [0, 0, 2, 0, 0, 24, 0, 120, 0, 504, 1023, 2047]
theorem spec_HashChildren.tab8 : rtab .any (opsOf Try.f48 8) = spec_HashChildren.T8 := by kernel_rfl
theorem spec_HashChildren.bits8 : waitsOk spec_HashChildren.T8.2 spec_HashChildren.B8 = true := by kernel_rfl
set_option maxHeartbeats 8000000 in
set_option maxRecDepth 100000 in
theorem spec_HashChildren.calls (k : Nat) (a0_0 : Int) (a0_1 : Int) (a0_2 : Int) (a0_3 : Int) (a0_4 : Int) (a0_5 : Int) (A1 : Option Addr) (c1 : Nat) (l1 : List Int) (A2 : Option Addr) (c2 : Nat) (l2 : List Int) (r : List Int) (w : World) (hr1 : Kd.C (Kd.int .u8) w A1 l1.length l1) (hc1 : l1.length ≤ c1) (hr2 : Kd.C (Kd.int .u8) w A2 l2.length l2) (hc2 : l2.length ≤ c2) (h : spec_HashChildren.f k a0_0 a0_1 a0_2 a0_3 a0_4 a0_5 l1 l2 = some r) :
    Calls Try.prog 48 #[.agg #[.int .i64 a0_0, .int .i64 a0_1, .int .i64 a0_2, .int .u64 a0_3, .int .u64 a0_4, .int .u64 a0_5], .slice A1 l1.length c1, .slice A2 l2.length c2] w fun e w' => ∃ v0_ : Value, e = .returned (v0_) ∧ Kd.R (Kd.int .u8) 5 w' w.heap.size (fun _ => True) v0_ r ∧ Below w.heap.size w w' := by
  have hu29 := Try.underlying29
  have HR1 := Aside0.mk hr1
  have HC1 := Aside0.mk hc1
  clear hr1 hc1
  have HR2 := Aside0.mk hr2
  have HC2 := Aside0.mk hc2
  clear hr2 hc2
  have HB := Aside0.mk (Below.refl w.heap.size w)
  have H : ((spec_Terms.f a0_0 a0_1 a0_2 a0_3 a0_4 a0_5).bind fun t238 => (if t238 = true then (spec_HashChildren.l0 k l1 l2 (([1] : List Int)) 56) else ((some (([] : List Int) : List Int)).bind fun y254 => (if y254.length + l1.length < 140737488355328 then ((some (y254 ++ l1 : List Int)).bind fun y257 => ((some (([255] : List Int) : List Int)).bind fun y260 => (if y257.length + y260.length < 140737488355328 then ((some (y257 ++ y260 : List Int)).bind fun y263 => (if y263.length + l2.length < 140737488355328 then ((spec_word.f k a0_0 a0_1 a0_2 a0_3 a0_4 a0_5 a0_5 (y263 ++ l2)).bind fun t269 => (some t269)) else (none))) else (none)))) else (none))))) = some r := h
  clear h
  replace H := Option.bind_eq_some_iff.mp H
  obtain ⟨t238, A40, H⟩ := H
  replace H : (if t238 = true then (spec_HashChildren.l0 k l1 l2 (([1] : List Int)) 56) else ((some (([] : List Int) : List Int)).bind fun y254 => (if y254.length + l1.length < 140737488355328 then ((some (y254 ++ l1 : List Int)).bind fun y257 => ((some (([255] : List Int) : List Int)).bind fun y260 => (if y257.length + y260.length < 140737488355328 then ((some (y257 ++ y260 : List Int)).bind fun y263 => (if y263.length + l2.length < 140737488355328 then ((spec_word.f k a0_0 a0_1 a0_2 a0_3 a0_4 a0_5 a0_5 (y263 ++ l2)).bind fun t269 => (some t269)) else (none))) else (none)))) else (none)))) = some r := H
  have A4 := Aside0.mk A40
  clear A40
  by_cases c5 : t238 = true
  · subst c5
    have H1 : (spec_HashChildren.l0 k l1 l2 (([1] : List Int)) 56) = some r := by rw [if_pos rfl] at H; exact H
    clear H
    have H := H1
    clear H1
    obtain ⟨y239, hy239⟩ : ∃ y_ : List Int, y_ = (([1] : List Int)) := ⟨_, rfl⟩
    replace H : (spec_HashChildren.l0 k l1 l2 y239 56) = some r := by first | (rw [hy239]; with_reducible exact H) | (have H2_ := (Option.bind_some _ _).symm.trans H; rw [hy239]; with_reducible exact H2_) | (have H2_ := (Option.bind_some _ _).symm.trans H; with_reducible exact H2_) | with_reducible exact H | (rw [hy239]; exact H) | exact H
    have Ny239 := Aside0.mk hy239
    clear hy239
    have H' := Aside0.mk H
    clear H
    go_enter Try.func48, Try.ntmps48
    go_wp2_with (first | ((with_reducible refine gate_dst (N := 3) rfl ?_); refine box_event ?hg (N := 3) ?hd (cs := #[.int .i64 a0_0, .int .i64 a0_1, .int .i64 a0_2, .int .u64 a0_3, .int .u64 a0_4, .int .u64 a0_5]) (t := 29) ?hr ?_; (case hd => rfl); (case hg => rfl); (case hr => first | (go_simp; done) | (go_simp; rfl)); intro gb237 hg w6 hbox hb; have n0_ := Aside0.mk (below_step (by repeat (first | (with_reducible first | exact HB.out | apply below_alloc | apply pw_below_drewN | apply below_drew1) | exact HB.out)) hb); have n1_ := Aside0.mk (hbox); have n2_ := Aside0.mk ((by rw [hg]; exact (below_size (by repeat (first | (with_reducible first | exact HB.out | apply below_alloc | apply pw_below_drewN | apply below_drew1) | exact HB.out))) : w.heap.size ≤ gb237)); have n3_ := Aside0.mk ((by rw [hg]; exact (below_size (by repeat (first | (with_reducible first | exact HB.out | apply below_alloc | apply pw_below_drewN | apply below_drew1) | exact HB.out))) : w.heap.size ≤ gb237)); clear HB; have HB := n0_; have BK237 := n1_; have GW237 := n2_; have GE237 := n3_; clear n0_ n1_ n2_ n3_; clear hb hbox hg; have hcz7_0 : w6.cell? ⟨gb237, 0, none⟩ = some (.int .i64 a0_0) := (blk_cell BK237.out 0).trans rfl; have hcz7_1 : w6.cell? ⟨gb237, 1, none⟩ = some (.int .i64 a0_1) := (blk_cell BK237.out 1).trans rfl; have hcz7_2 : w6.cell? ⟨gb237, 2, none⟩ = some (.int .i64 a0_2) := (blk_cell BK237.out 2).trans rfl; have hcz7_3 : w6.cell? ⟨gb237, 3, none⟩ = some (.int .u64 a0_3) := (blk_cell BK237.out 3).trans rfl; have hcz7_4 : w6.cell? ⟨gb237, 4, none⟩ = some (.int .u64 a0_4) := (blk_cell BK237.out 4).trans rfl; have hcz7_5 : w6.cell? ⟨gb237, 5, none⟩ = some (.int .u64 a0_5) := (blk_cell BK237.out 5).trans rfl; have hfz7_0 := blk_frozen BK237.out 0; have hfz7_1 := blk_frozen BK237.out 1; have hfz7_2 := blk_frozen BK237.out 2; have hfz7_3 := blk_frozen BK237.out 3; have hfz7_4 := blk_frozen BK237.out 4; have hfz7_5 := blk_frozen BK237.out 5) | ((with_reducible refine gate_callee (f := 50) rfl ?_); refine goesL_ (some 10) rfl rfl Try.func50 (by kernel_rfl) rfl #[.agg #[.int .i64 a0_0, .int .i64 a0_1, .int .i64 a0_2, .int .u64 a0_3, .int .u64 a0_4, .int .u64 a0_5]] rfl (by (try simp only [List.map_toArray, List.map_cons, List.map_nil]); first | done | rfl | (simp only [List.length_drop, List.length_take]; rfl)) ?_; (with_reducible refine (spec_Terms.calls a0_0 a0_1 a0_2 a0_3 a0_4 a0_5 true _ A4.out).mono ?_); rintro e w8 ⟨rfl, hb⟩; refine ⟨_, rfl, ?_⟩; have n0_ := Aside0.mk (blk_below (g := gb237) (o := .cells #[.int .i64 a0_0, .int .i64 a0_1, .int .i64 a0_2, .int .u64 a0_3, .int .u64 a0_4, .int .u64 a0_5] 29 (0, 0)) (by (with_reducible repeat (first | refine blk_drewN ?_ _ | refine blk_drew ?_ | refine blk_alloc ?_ _)); exact BK237.out) hb); have n1_ := Aside0.mk (below_step (by repeat (first | (with_reducible first | exact HB.out | apply below_alloc | apply pw_below_drewN | apply below_drew1 | refine below_set ?_ GE237.out) | exact HB.out)) hb); clear BK237; clear HB; have BK237 := n0_; have HB := n1_; clear n0_ n1_; (try clear hb); (try clear hb2); (try clear hk); (try clear hi)) | ((with_reducible refine gate_dst (N := 11) rfl ?_); refine Kd.R_lit (Kd.int .u8) _ 5 ?hg (N := 11) ?hd (xs := ([1] : List Int)) (inner := [.int .u8 1]) (ok := fun _ => True) (okp := fun _ => True) ?hr ?hp (fun _ hk => hk) trivial (Below.refl _ _) (Nat.le_refl _) (by simp) ?_; (case hd => rfl); (case hg => rfl); (case hr => first | (go_simp; done) | (go_simp; rfl)); (case hp => exact (Reps.one (show Kd.M (Kd.int .u8) _ _ _ 1 [.int .u8 1] from rfl) (Reps.none _ _))); intro v240 w9 ho10 hb hg_ hnew_; clear hg_ hnew_; (first | rw [← Ny239.out] at ho10 | (simp only [Int.reduceToNat] at ho10; rw [← Ny239.out] at ho10)); have n0_ := Aside0.mk (Kd.R_lower ho10 (below_size (by repeat (first | (with_reducible first | exact HB.out | apply below_alloc | apply pw_below_drewN | apply below_drew1 | refine below_set ?_ GE237.out) | exact HB.out)))); have n1_ := Aside0.mk (blk_below (g := gb237) (o := .cells #[.int .i64 a0_0, .int .i64 a0_1, .int .i64 a0_2, .int .u64 a0_3, .int .u64 a0_4, .int .u64 a0_5] 29 (0, 0)) (by (with_reducible repeat (first | refine blk_drewN ?_ _ | refine blk_drew ?_ | refine blk_alloc ?_ _)); exact BK237.out) hb); have n2_ := Aside0.mk (below_step (by repeat (first | (with_reducible first | exact HB.out | apply below_alloc | apply pw_below_drewN | apply below_drew1 | refine below_set ?_ GE237.out) | exact HB.out)) hb); clear BK237; clear HB; have HO241 := n0_; have BK237 := n1_; have HB := n2_; clear n0_ n1_ n2_; clear hb ho10))
    go_loopg [7, 8] k (fun kq v7 v8 w' => ∃ (x7_1 : List Int) (x8_1 : Int), v8 = .int .i64 x8_1 ∧ Aside0 (spec_HashChildren.l0 kq l1 l2 x7_1 x8_1 = some r) ∧ Aside0 (kq ≤ k) ∧ Aside0 (Kd.R (Kd.int .u8) 5 w' w.heap.size (fun _ => True) v7 x7_1) ∧ Aside0 (w'.heap[gb237]? = some (.cells #[.int .i64 a0_0, .int .i64 a0_1, .int .i64 a0_2, .int .u64 a0_3, .int .u64 a0_4, .int .u64 a0_5] 29 (0, 0))) ∧ Aside0 (Below w.heap.size w w'))
    case atStart => exact ⟨(y239), (56), (by first | rfl | (simp; done) | (simp [*]; done)), H', ⟨Nat.le_refl _⟩, ⟨by (with_reducible repeat (first | apply Kd.R_alloc | apply Kd.R_drewN | apply Kd.R_drew)); exact HO241.out⟩, ⟨by (with_reducible repeat (first | refine blk_drewN ?_ _ | refine blk_drew ?_ | refine blk_alloc ?_ _)); exact BK237.out⟩, ⟨by repeat (first | (with_reducible first | exact HB.out | apply below_alloc | apply pw_below_drewN | apply below_drew1 | refine below_set ?_ GE237.out) | exact HB.out)⟩⟩
    case round =>
      clear H'
      try clear c1
      try clear c2
      try clear p2
      try clear c4
      try clear c5
      try clear hcz7_0
      try clear hcz7_1
      try clear hcz7_2
      try clear hcz7_3
      try clear hcz7_4
      try clear hcz7_5
      try clear hfz7_0
      try clear hfz7_1
      try clear hfz7_2
      try clear hfz7_3
      try clear hfz7_4
      try clear hfz7_5
      obtain ⟨x7_1, x8_1, rfl, HA, HK1, HO_7, BK237, HB⟩ := hrel
      cases gk with
      | zero => exact absurd HA.out (by simp [spec_HashChildren.l0])
      | succ k1 =>
        have H := HA.out
        clear HA
        simp only [spec_HashChildren.l0] at H
        by_cases c11 : x8_1 ≥ 0
        · rw [if_pos c11] at H
          have c11b0 : decide (0 ≤ x8_1) = true := decide_eq_true c11
          clear c11
          by_cases c12 : 0 ≤ x8_1
          · rw [if_pos c12] at H
            have c12b0 := eq_true c12
            have c12b1 : decide (0 ≤ x8_1) = true := decide_eq_true c12
            clear c12
            obtain ⟨ji13, hji13⟩ : ∃ j_ : Int, (shr .u64 (IntKind.u64.wrap ((l1.length : Int))) x8_1) = j_ := ⟨_, rfl⟩
            replace H : ((some (([(ji13) % 256] : List Int) : List Int)).bind fun y242 => (if x7_1.length + y242.length < 140737488355328 then (spec_HashChildren.l0 k1 l1 l2 (x7_1 ++ y242) (wrap64 (x8_1 - 8))) else (none))) = some r := by first | (rw [hji13] at H; exact H) | (simp only [hji13] at H ⊢; exact H)
            have hji13_ : ((IntKind.u64.wrap ((l1.length : Int))) / 2 ^ min x8_1.toNat 64) = ji13 := hji13
            have hji13z : x8_1 ≤ 64 → ((IntKind.u64.wrap ((l1.length : Int))) / 2 ^ x8_1.toNat) = ji13 := shr_small hji13
            obtain ⟨y242, hy242⟩ : ∃ y_ : List Int, y_ = (([(ji13) % 256] : List Int)) := ⟨_, rfl⟩
            replace H : (if x7_1.length + y242.length < 140737488355328 then (spec_HashChildren.l0 k1 l1 l2 (x7_1 ++ y242) (wrap64 (x8_1 - 8))) else (none)) = some r := by first | (rw [hy242]; with_reducible exact H) | (have H2_ := (Option.bind_some _ _).symm.trans H; rw [hy242]; with_reducible exact H2_) | (have H2_ := (Option.bind_some _ _).symm.trans H; with_reducible exact H2_) | with_reducible exact H | (rw [hy242]; exact H) | exact H
            have Ny242 := Aside0.mk hy242
            clear hy242
            by_cases c14 : x7_1.length + y242.length < 140737488355328
            · rw [if_pos c14] at H
              have LMc14 := Aside0.mk c14
              clear c14
              obtain ⟨y245, hy245⟩ : ∃ y_ : List Int, y_ = (x7_1 ++ y242) := ⟨_, rfl⟩
              replace H : (spec_HashChildren.l0 k1 l1 l2 y245 (wrap64 (x8_1 - 8))) = some r := by first | (rw [hy245]; with_reducible exact H) | (have H2_ := (Option.bind_some _ _).symm.trans H; rw [hy245]; with_reducible exact H2_) | (have H2_ := (Option.bind_some _ _).symm.trans H; with_reducible exact H2_) | with_reducible exact H | (rw [hy245]; exact H) | exact H
              have Ny245 := Aside0.mk hy245
              clear hy245
              have H' := Aside0.mk H
              clear H
              go_wp2_with (first | ((with_reducible refine gate_dst (N := 23) rfl ?_); refine Kd.R_lit (Kd.int .u8) _ 5 ?hg (N := 23) ?hd (xs := ([(ji13) % 256] : List Int)) (inner := [.int .u8 ((ji13) % 256)]) (ok := fun _ => True) (okp := fun _ => True) ?hr ?hp (fun _ hk => hk) trivial (Below.refl _ _) (Nat.le_refl _) (by simp) ?_; (case hd => rfl); (case hg => rfl); (case hr => first | (go_simp; done) | (go_simp; rfl)); (case hp => exact (Reps.one (show Kd.M (Kd.int .u8) _ _ _ ((ji13) % 256) [.int .u8 ((ji13) % 256)] from rfl) (Reps.none _ _))); intro v243 w15 ho16 hb hg_ hnew_; clear hg_ hnew_; (first | rw [← Ny242.out] at ho16 | (simp only [Int.reduceToNat] at ho16; rw [← Ny242.out] at ho16)); have n0_ := Aside0.mk (Kd.R_elder' (by (with_reducible repeat (first | apply Kd.R_alloc | apply Kd.R_drewN | apply Kd.R_drew)); exact HO_7.out) (Kd.R_base ho16) hb); have n1_ := Aside0.mk (Kd.R_lower (Kd.R_new' ho16 (Kd.R_lt (by (with_reducible repeat (first | apply Kd.R_alloc | apply Kd.R_drewN | apply Kd.R_drew)); exact HO_7.out))) (below_size (by repeat (first | (with_reducible first | exact HB.out | apply below_alloc | apply pw_below_drewN | apply below_drew1 | refine below_set ?_ GE237.out) | exact HB.out)))); have n2_ := Aside0.mk (blk_below (g := gb237) (o := .cells #[.int .i64 a0_0, .int .i64 a0_1, .int .i64 a0_2, .int .u64 a0_3, .int .u64 a0_4, .int .u64 a0_5] 29 (0, 0)) (by (with_reducible repeat (first | refine blk_drewN ?_ _ | refine blk_drew ?_ | refine blk_alloc ?_ _)); exact BK237.out) hb); have n3_ := Aside0.mk (below_step (by repeat (first | (with_reducible first | exact HB.out | apply below_alloc | apply pw_below_drewN | apply below_drew1 | refine below_set ?_ GE237.out) | exact HB.out)) hb); clear HO_7; clear BK237; clear HB; have HO_7 := n0_; have HO244 := n1_; have BK237 := n2_; have HB := n3_; clear n0_ n1_ n2_ n3_; clear hb ho16; obtain ⟨Ao18, co18, eo18⟩ := Kd.R_slice HO244.out; subst eo18) | ((with_reducible refine gate_builtin (b := .append) (xs := #[.tmp 16, .tmp 23]) rfl ?_); at_builtin; refine Kd.R_append_rows (Kd.int .u8) (w0 := w) w.heap.size rfl (.tmp 16) (.tmp 23) 30 5 (.int .u8 0) 1 rfl Try.underlying30 info5 rfl (by decide) (by omega) u7 x7_1 y242 _ _ _ (fun k_ => some k_ ≠ (.slice Ao18 y242.length co18 : Value).ownBlock) (fun _ => False) rfl rfl ?aO ?aR (fun _ _ h => h) (fun _ h => h.elim) ?aF ?aB ?aS ?aL ?_; (case aR => repeat (first | exact (Kd.R_reads' HO244.out).2.2 | (with_reducible refine Kd.C_alloc ?_ _) | (with_reducible refine Kd.C_drewN ?_ _) | (with_reducible refine Kd.C_drew ?_))); (case aB => exact (by repeat (first | (with_reducible first | exact HB.out | apply below_alloc | apply pw_below_drewN | apply below_drew1 | refine below_set ?_ GE237.out) | exact HB.out))); (case aF => exact (fun k_ hk => Kd.fresh' (Kd.R_lt (by (with_reducible repeat (first | apply Kd.R_alloc | apply Kd.R_drewN | apply Kd.R_drew)); exact HO244.out)) k_ hk)); (case aO => exact (by (with_reducible repeat (first | apply Kd.R_alloc | apply Kd.R_drewN | apply Kd.R_drew)); exact Kd.R_mono HO_7.out (fun _ hk => hk.2))); (case aS => exact (below_size (by repeat (first | (with_reducible first | exact HB.out | apply below_alloc | apply pw_below_drewN | apply below_drew1 | refine below_set ?_ GE237.out) | exact HB.out)))); (case aL => have := LMc14.out; omega); intro v246 w17 ho hb hg hat; rw [← Ny245.out] at ho; have n0_ := Aside0.mk (blk_grown (g := gb237) (o := .cells #[.int .i64 a0_0, .int .i64 a0_1, .int .i64 a0_2, .int .u64 a0_3, .int .u64 a0_4, .int .u64 a0_5] 29 (0, 0)) (by (with_reducible repeat (first | refine blk_drewN ?_ _ | refine blk_drew ?_ | refine blk_alloc ?_ _)); exact BK237.out) hg (Kd.R_ne HO_7.out BK237.out (by decide))); have n1_ := Aside0.mk (Kd.R_after (ok := (fun _ => True)) (by (with_reducible repeat (first | apply Kd.R_alloc | apply Kd.R_drewN | apply Kd.R_drew)); exact HO244.out) hg hat); have n2_ := Aside0.mk (hb); have n3_ := Aside0.mk (ho); clear BK237; clear HO244; clear HB; clear HO_7; have BK237 := n0_; have HO244 := n1_; have HB := n2_; have HO247 := n3_; clear n0_ n1_ n2_ n3_; clear ho hb hg hat))
              go_roundg k1
              case measure => have := HK1.out; omega
              case rel => exact ⟨(y245), (wrap64 (x8_1 - 8)), (by first | rfl | (simp; done) | (simp [*]; done)), H', ⟨by have := HK1.out; omega⟩, ⟨by (with_reducible repeat (first | apply Kd.R_alloc | apply Kd.R_drewN | apply Kd.R_drew)); exact Kd.R_mono HO247.out (fun _ hk => trivial)⟩, ⟨by (with_reducible repeat (first | refine blk_drewN ?_ _ | refine blk_drew ?_ | refine blk_alloc ?_ _)); exact BK237.out⟩, ⟨by repeat (first | (with_reducible first | exact HB.out | apply below_alloc | apply pw_below_drewN | apply below_drew1 | refine below_set ?_ GE237.out) | exact HB.out)⟩⟩
            · rw [if_neg c14] at H
              exact absurd H (by simp)
          · rw [if_neg c12] at H
            exact absurd H (by simp)
        · rw [if_neg c11] at H
          have c11b0 : decide (0 ≤ x8_1) = false := decide_eq_false c11
          clear c11
          by_cases c19 : x7_1.length + l1.length < 140737488355328
          · rw [if_pos c19] at H
            have LMc19 := Aside0.mk c19
            clear c19
            obtain ⟨y248, hy248⟩ : ∃ y_ : List Int, y_ = (x7_1 ++ l1) := ⟨_, rfl⟩
            replace H : (if y248.length + l2.length < 140737488355328 then (some (y248 ++ l2)) else (none)) = some r := by first | (rw [hy248]; with_reducible exact H) | (have H2_ := (Option.bind_some _ _).symm.trans H; rw [hy248]; with_reducible exact H2_) | (have H2_ := (Option.bind_some _ _).symm.trans H; with_reducible exact H2_) | with_reducible exact H | (rw [hy248]; exact H) | exact H
            have Ny248 := Aside0.mk hy248
            clear hy248
            by_cases c20 : y248.length + l2.length < 140737488355328
            · rw [if_pos c20] at H
              have LMc20 := Aside0.mk c20
              clear c20
              obtain ⟨y251, hy251⟩ : ∃ y_ : List Int, y_ = (y248 ++ l2) := ⟨_, rfl⟩
              replace H : (some y251) = some r := by first | (rw [hy251]; with_reducible exact H) | (have H2_ := (Option.bind_some _ _).symm.trans H; rw [hy251]; with_reducible exact H2_) | (have H2_ := (Option.bind_some _ _).symm.trans H; with_reducible exact H2_) | with_reducible exact H | (rw [hy251]; exact H) | exact H
              have Ny251 := Aside0.mk hy251
              clear hy251
              obtain rfl := Option.some.inj H
              go_wp2_with (first | ((with_reducible refine gate_builtin (b := .append) (xs := #[.tmp 25, .tmp 26]) rfl ?_); at_builtin; refine Kd.R_append_rows (Kd.int .u8) (w0 := w) w.heap.size rfl (.tmp 25) (.tmp 26) 30 5 (.int .u8 0) 1 rfl Try.underlying30 info5 rfl (by decide) (by omega) u7 x7_1 l1 _ _ _ (fun _ => True) (fun _ => False) rfl rfl ?aO ?aR (fun _ _ h => h) (fun _ h => h.elim) ?aF ?aB ?aS ?aL ?_; (case aR => repeat (first | exact (Kd.C_below HR1.out HB.out) | (with_reducible refine Kd.C_alloc ?_ _) | (with_reducible refine Kd.C_drewN ?_ _) | (with_reducible refine Kd.C_drew ?_))); (case aB => exact (by repeat (first | (with_reducible first | exact HB.out | apply below_alloc | apply pw_below_drewN | apply below_drew1 | refine below_set ?_ GE237.out) | exact HB.out))); (case aF => exact (fun _ _ => trivial)); (case aO => exact (by (with_reducible repeat (first | apply Kd.R_alloc | apply Kd.R_drewN | apply Kd.R_drew)); exact HO_7.out)); (case aS => exact (below_size (by repeat (first | (with_reducible first | exact HB.out | apply below_alloc | apply pw_below_drewN | apply below_drew1 | refine below_set ?_ GE237.out) | exact HB.out)))); (case aL => have := LMc19.out; omega); intro v249 w21 ho hb hg hat; rw [← Ny248.out] at ho; have n0_ := Aside0.mk (blk_grown (g := gb237) (o := .cells #[.int .i64 a0_0, .int .i64 a0_1, .int .i64 a0_2, .int .u64 a0_3, .int .u64 a0_4, .int .u64 a0_5] 29 (0, 0)) (by (with_reducible repeat (first | refine blk_drewN ?_ _ | refine blk_drew ?_ | refine blk_alloc ?_ _)); exact BK237.out) hg (Kd.R_ne HO_7.out BK237.out (by decide))); have n1_ := Aside0.mk (hb); have n2_ := Aside0.mk (ho); clear BK237; clear HB; clear HO_7; have BK237 := n0_; have HB := n1_; have HO250 := n2_; clear n0_ n1_ n2_; clear ho hb hg hat) | ((with_reducible refine gate_builtin (b := .append) (xs := #[.tmp 27, .tmp 28]) rfl ?_); at_builtin; refine Kd.R_append_rows (Kd.int .u8) (w0 := w) w.heap.size rfl (.tmp 27) (.tmp 28) 30 5 (.int .u8 0) 1 rfl Try.underlying30 info5 rfl (by decide) (by omega) v249 y248 l2 _ _ _ (fun _ => True) (fun _ => False) rfl rfl ?aO ?aR (fun _ _ h => h) (fun _ h => h.elim) ?aF ?aB ?aS ?aL ?_; (case aR => repeat (first | exact (Kd.C_below HR2.out HB.out) | (with_reducible refine Kd.C_alloc ?_ _) | (with_reducible refine Kd.C_drewN ?_ _) | (with_reducible refine Kd.C_drew ?_))); (case aB => exact (by repeat (first | (with_reducible first | exact HB.out | apply below_alloc | apply pw_below_drewN | apply below_drew1 | refine below_set ?_ GE237.out) | exact HB.out))); (case aF => exact (fun _ _ => trivial)); (case aO => exact (by (with_reducible repeat (first | apply Kd.R_alloc | apply Kd.R_drewN | apply Kd.R_drew)); exact HO250.out)); (case aS => exact (below_size (by repeat (first | (with_reducible first | exact HB.out | apply below_alloc | apply pw_below_drewN | apply below_drew1 | refine below_set ?_ GE237.out) | exact HB.out)))); (case aL => have := LMc20.out; omega); intro v252 w22 ho hb hg hat; rw [← Ny251.out] at ho; have n0_ := Aside0.mk (blk_grown (g := gb237) (o := .cells #[.int .i64 a0_0, .int .i64 a0_1, .int .i64 a0_2, .int .u64 a0_3, .int .u64 a0_4, .int .u64 a0_5] 29 (0, 0)) (by (with_reducible repeat (first | refine blk_drewN ?_ _ | refine blk_drew ?_ | refine blk_alloc ?_ _)); exact BK237.out) hg (Kd.R_ne HO250.out BK237.out (by decide))); have n1_ := Aside0.mk (hb); have n2_ := Aside0.mk (ho); clear BK237; clear HB; clear HO250; have BK237 := n0_; have HB := n1_; have HO253 := n2_; clear n0_ n1_ n2_; clear ho hb hg hat))
              go_ret
              exact ⟨_, by first | rfl | (simp [errW_none, errW_some] <;> rfl) | (simp [*, errW_none, errW_some] <;> rfl), by (with_reducible repeat (first | apply Kd.R_alloc | apply Kd.R_drewN | apply Kd.R_drew)); exact HO253.out, by repeat (first | (with_reducible first | exact HB.out | apply below_alloc | apply pw_below_drewN | apply below_drew1 | refine below_set ?_ GE237.out) | exact HB.out)⟩
            · rw [if_neg c20] at H
              exact absurd H (by simp)
          · rw [if_neg c19] at H
            exact absurd H (by simp)
  · replace c5 := Bool.eq_false_iff.mpr c5
    subst c5
    have H1 : ((some (([] : List Int) : List Int)).bind fun y254 => (if y254.length + l1.length < 140737488355328 then ((some (y254 ++ l1 : List Int)).bind fun y257 => ((some (([255] : List Int) : List Int)).bind fun y260 => (if y257.length + y260.length < 140737488355328 then ((some (y257 ++ y260 : List Int)).bind fun y263 => (if y263.length + l2.length < 140737488355328 then ((spec_word.f k a0_0 a0_1 a0_2 a0_3 a0_4 a0_5 a0_5 (y263 ++ l2)).bind fun t269 => (some t269)) else (none))) else (none)))) else (none))) = some r := by rw [if_neg (show ¬ (false = true) by decide)] at H; exact H
    clear H
    have H := H1
    clear H1
    obtain ⟨y254, hy254⟩ : ∃ y_ : List Int, y_ = (([] : List Int)) := ⟨_, rfl⟩
    replace H : (if y254.length + l1.length < 140737488355328 then ((some (y254 ++ l1 : List Int)).bind fun y257 => ((some (([255] : List Int) : List Int)).bind fun y260 => (if y257.length + y260.length < 140737488355328 then ((some (y257 ++ y260 : List Int)).bind fun y263 => (if y263.length + l2.length < 140737488355328 then ((spec_word.f k a0_0 a0_1 a0_2 a0_3 a0_4 a0_5 a0_5 (y263 ++ l2)).bind fun t269 => (some t269)) else (none))) else (none)))) else (none)) = some r := by first | (rw [hy254]; with_reducible exact H) | (have H2_ := (Option.bind_some _ _).symm.trans H; rw [hy254]; with_reducible exact H2_) | (have H2_ := (Option.bind_some _ _).symm.trans H; with_reducible exact H2_) | with_reducible exact H | (rw [hy254]; exact H) | exact H
    have Ny254 := Aside0.mk hy254
    clear hy254
    by_cases c23 : y254.length + l1.length < 140737488355328
    · rw [if_pos c23] at H
      have LMc23 := Aside0.mk c23
      clear c23
      obtain ⟨y257, hy257⟩ : ∃ y_ : List Int, y_ = (y254 ++ l1) := ⟨_, rfl⟩
      replace H : ((some (([255] : List Int) : List Int)).bind fun y260 => (if y257.length + y260.length < 140737488355328 then ((some (y257 ++ y260 : List Int)).bind fun y263 => (if y263.length + l2.length < 140737488355328 then ((spec_word.f k a0_0 a0_1 a0_2 a0_3 a0_4 a0_5 a0_5 (y263 ++ l2)).bind fun t269 => (some t269)) else (none))) else (none))) = some r := by first | (rw [hy257]; with_reducible exact H) | (have H2_ := (Option.bind_some _ _).symm.trans H; rw [hy257]; with_reducible exact H2_) | (have H2_ := (Option.bind_some _ _).symm.trans H; with_reducible exact H2_) | with_reducible exact H | (rw [hy257]; exact H) | exact H
      have Ny257 := Aside0.mk hy257
      clear hy257
      obtain ⟨y260, hy260⟩ : ∃ y_ : List Int, y_ = (([255] : List Int)) := ⟨_, rfl⟩
      replace H : (if y257.length + y260.length < 140737488355328 then ((some (y257 ++ y260 : List Int)).bind fun y263 => (if y263.length + l2.length < 140737488355328 then ((spec_word.f k a0_0 a0_1 a0_2 a0_3 a0_4 a0_5 a0_5 (y263 ++ l2)).bind fun t269 => (some t269)) else (none))) else (none)) = some r := by first | (rw [hy260]; with_reducible exact H) | (have H2_ := (Option.bind_some _ _).symm.trans H; rw [hy260]; with_reducible exact H2_) | (have H2_ := (Option.bind_some _ _).symm.trans H; with_reducible exact H2_) | with_reducible exact H | (rw [hy260]; exact H) | exact H
      have Ny260 := Aside0.mk hy260
      clear hy260
      by_cases c24 : y257.length + y260.length < 140737488355328
      · rw [if_pos c24] at H
        have LMc24 := Aside0.mk c24
        clear c24
        obtain ⟨y263, hy263⟩ : ∃ y_ : List Int, y_ = (y257 ++ y260) := ⟨_, rfl⟩
        replace H : (if y263.length + l2.length < 140737488355328 then ((spec_word.f k a0_0 a0_1 a0_2 a0_3 a0_4 a0_5 a0_5 (y263 ++ l2)).bind fun t269 => (some t269)) else (none)) = some r := by first | (rw [hy263]; with_reducible exact H) | (have H2_ := (Option.bind_some _ _).symm.trans H; rw [hy263]; with_reducible exact H2_) | (have H2_ := (Option.bind_some _ _).symm.trans H; with_reducible exact H2_) | with_reducible exact H | (rw [hy263]; exact H) | exact H
        have Ny263 := Aside0.mk hy263
        clear hy263
        by_cases c25 : y263.length + l2.length < 140737488355328
        · rw [if_pos c25] at H
          have LMc25 := Aside0.mk c25
          clear c25
          obtain ⟨y266, hy266⟩ : ∃ y_ : List Int, y_ = (y263 ++ l2) := ⟨_, rfl⟩
          replace H : ((spec_word.f k a0_0 a0_1 a0_2 a0_3 a0_4 a0_5 a0_5 y266).bind fun t269 => (some t269)) = some r := by first | (rw [hy266]; with_reducible exact H) | (have H2_ := (Option.bind_some _ _).symm.trans H; rw [hy266]; with_reducible exact H2_) | (have H2_ := (Option.bind_some _ _).symm.trans H; with_reducible exact H2_) | with_reducible exact H | (rw [hy266]; exact H) | exact H
          have Ny266 := Aside0.mk hy266
          clear hy266
          replace H := Option.bind_eq_some_iff.mp H
          obtain ⟨t269, A260, H⟩ := H
          replace H : (some t269) = some r := H
          have A26 := Aside0.mk A260
          clear A260
          obtain rfl := Option.some.inj H
          go_enter Try.func48, Try.ntmps48
          try go_wp2_with (first | ((with_reducible refine gate_dst (N := 3) rfl ?_); refine box_event ?hg (N := 3) ?hd (cs := #[.int .i64 a0_0, .int .i64 a0_1, .int .i64 a0_2, .int .u64 a0_3, .int .u64 a0_4, .int .u64 a0_5]) (t := 29) ?hr ?_; (case hd => rfl); (case hg => rfl); (case hr => first | (go_simp; done) | (go_simp; rfl)); intro gb237 hg w27 hbox hb; have n0_ := Aside0.mk (below_step (by repeat (first | (with_reducible first | exact HB.out | apply below_alloc | apply pw_below_drewN | apply below_drew1) | exact HB.out)) hb); have n1_ := Aside0.mk (hbox); have n2_ := Aside0.mk ((by rw [hg]; exact (below_size (by repeat (first | (with_reducible first | exact HB.out | apply below_alloc | apply pw_below_drewN | apply below_drew1) | exact HB.out))) : w.heap.size ≤ gb237)); have n3_ := Aside0.mk ((by rw [hg]; exact (below_size (by repeat (first | (with_reducible first | exact HB.out | apply below_alloc | apply pw_below_drewN | apply below_drew1) | exact HB.out))) : w.heap.size ≤ gb237)); clear HB; have HB := n0_; have BK237 := n1_; have GW237 := n2_; have GE237 := n3_; clear n0_ n1_ n2_ n3_; clear hb hbox hg; have hcz28_0 : w27.cell? ⟨gb237, 0, none⟩ = some (.int .i64 a0_0) := (blk_cell BK237.out 0).trans rfl; have hcz28_1 : w27.cell? ⟨gb237, 1, none⟩ = some (.int .i64 a0_1) := (blk_cell BK237.out 1).trans rfl; have hcz28_2 : w27.cell? ⟨gb237, 2, none⟩ = some (.int .i64 a0_2) := (blk_cell BK237.out 2).trans rfl; have hcz28_3 : w27.cell? ⟨gb237, 3, none⟩ = some (.int .u64 a0_3) := (blk_cell BK237.out 3).trans rfl; have hcz28_4 : w27.cell? ⟨gb237, 4, none⟩ = some (.int .u64 a0_4) := (blk_cell BK237.out 4).trans rfl; have hcz28_5 : w27.cell? ⟨gb237, 5, none⟩ = some (.int .u64 a0_5) := (blk_cell BK237.out 5).trans rfl; have hfz28_0 := blk_frozen BK237.out 0; have hfz28_1 := blk_frozen BK237.out 1; have hfz28_2 := blk_frozen BK237.out 2; have hfz28_3 := blk_frozen BK237.out 3; have hfz28_4 := blk_frozen BK237.out 4; have hfz28_5 := blk_frozen BK237.out 5) | ((with_reducible refine gate_callee (f := 50) rfl ?_); refine goesL_ (some 10) rfl rfl Try.func50 (by kernel_rfl) rfl #[.agg #[.int .i64 a0_0, .int .i64 a0_1, .int .i64 a0_2, .int .u64 a0_3, .int .u64 a0_4, .int .u64 a0_5]] rfl (by (try simp only [List.map_toArray, List.map_cons, List.map_nil]); first | done | rfl | (simp only [List.length_drop, List.length_take]; rfl)) ?_; (with_reducible refine (spec_Terms.calls a0_0 a0_1 a0_2 a0_3 a0_4 a0_5 false _ A4.out).mono ?_); rintro e w29 ⟨rfl, hb⟩; refine ⟨_, rfl, ?_⟩; have n0_ := Aside0.mk (blk_below (g := gb237) (o := .cells #[.int .i64 a0_0, .int .i64 a0_1, .int .i64 a0_2, .int .u64 a0_3, .int .u64 a0_4, .int .u64 a0_5] 29 (0, 0)) (by (with_reducible repeat (first | refine blk_drewN ?_ _ | refine blk_drew ?_ | refine blk_alloc ?_ _)); exact BK237.out) hb); have n1_ := Aside0.mk (below_step (by repeat (first | (with_reducible first | exact HB.out | apply below_alloc | apply pw_below_drewN | apply below_drew1 | refine below_set ?_ GE237.out) | exact HB.out)) hb); clear BK237; clear HB; have BK237 := n0_; have HB := n1_; clear n0_ n1_; (try clear hb); (try clear hb2); (try clear hk); (try clear hi)))
          have n0_ := Aside0.mk (blk_drew BK237.out)
          have n1_ := Aside0.mk (below_drew1 HB.out)
          clear BK237
          clear HB
          have BK237 := n0_
          have HB := n1_
          clear n0_ n1_
          refine start_ (n := 12) (S := fun w' => w'.cell? ⟨gb237, 0, none⟩ = some (.int .i64 a0_0) ∧ w'.cell? ⟨gb237, 1, none⟩ = some (.int .i64 a0_1) ∧ w'.cell? ⟨gb237, 2, none⟩ = some (.int .i64 a0_2) ∧ w'.cell? ⟨gb237, 3, none⟩ = some (.int .u64 a0_3) ∧ w'.cell? ⟨gb237, 4, none⟩ = some (.int .u64 a0_4) ∧ w'.cell? ⟨gb237, 5, none⟩ = some (.int .u64 a0_5)) (ds := []) #[false, false, false, false, false, false, false, false, false, false, false, false] (by kernel_rfl) rfl rfl ⟨(blk_cell BK237.out 0).trans rfl, (blk_cell BK237.out 1).trans rfl, (blk_cell BK237.out 2).trans rfl, (blk_cell BK237.out 3).trans rfl, (blk_cell BK237.out 4).trans rfl, (blk_cell BK237.out 5).trans rfl⟩ (fun hHeld => ?_); refine with_tabW spec_HashChildren.tab8 spec_HashChildren.bits8 (fun HT_ HW_ => ?_)
          generalize w29.drew = w30 at BK237 HB hHeld ⊢
          refine pure_ (i := 1) (N := some 31) (v := ?_) (a' := ?_) #[false, true, false, false, false, false, false, false, false, false, false, false] rfl rfl (any_of HT_.out (by kernel_rfl)) (fun _ _ _ h => h) (Or.inl ⟨by rfl, ?_⟩) ?_ ?_
          rotate_left
          · intro w'
            go_simp
            with_reducible rfl
          rotate_left
          · simp only [Act.put, List.setIfInBounds_toArray, List.set_cons_zero, List.set_cons_succ, i64_w, i32_w]
            rfl
          refine pure_ (i := 4) (N := some 34) (v := ?_) (a' := ?_) #[false, true, false, false, true, false, false, false, false, false, false, false] rfl rfl (any_of HT_.out (by kernel_rfl)) (fun _ _ _ h => h) (Or.inl ⟨by rfl, ?_⟩) ?_ ?_
          rotate_left
          · intro w'
            go_simp
            with_reducible rfl
          rotate_left
          · simp only [Act.put, List.setIfInBounds_toArray, List.set_cons_zero, List.set_cons_succ, i64_w, i32_w]
            rfl
          refine pure_ (i := 8) (N := some 38) (v := ?_) (a' := ?_) #[false, true, false, false, true, false, false, false, true, false, false, false] rfl rfl (any_of HT_.out (by kernel_rfl)) (fun _ _ _ h => h) (Or.inl ⟨by rfl, ?_⟩) ?_ ?_
          rotate_left
          · intro w'
            go_simp
            with_reducible rfl
          rotate_left
          · simp only [Act.put, List.setIfInBounds_toArray, List.set_cons_zero, List.set_cons_succ, i64_w, i32_w]
            rfl
          refine take_ (i := 0) (N := some 30) (v := ?_) (a' := ?_) #[true, true, false, false, true, false, false, false, true, false, false, false] rfl rfl (take_ofW HT_.out HW_.out (by kernel_rfl)) (fun _ _ _ h => h) (Or.inl ⟨by rfl, ?_⟩) hHeld ?_ ?_
          rotate_left
          · rintro w' ⟨s0, s1, s2, s3, s4, s5⟩
            go_simp
            with_reducible rfl
          rotate_left
          · simp only [Act.put, List.setIfInBounds_toArray, List.set_cons_zero, List.set_cons_succ, i64_w, i32_w]
            rfl
          refine take_ (i := 2) (N := some 32) (v := ?_) (a' := ?_) #[true, true, true, false, true, false, false, false, true, false, false, false] rfl rfl (take_ofW HT_.out HW_.out (by kernel_rfl)) (fun _ _ _ h => h) (Or.inl ⟨by rfl, ?_⟩) hHeld ?_ ?_
          rotate_left
          · rintro w' ⟨s0, s1, s2, s3, s4, s5⟩
            go_simp
            with_reducible rfl
          rotate_left
          · simp only [Act.put, List.setIfInBounds_toArray, List.set_cons_zero, List.set_cons_succ, i64_w, i32_w]
            rfl
          refine join_ (σ := Value × Value × Value) 4 #[true, true, true, true, true, true, true, false, true, false, false, false] (fun s_ => [(33, s_.1), (35, s_.2.1), (36, s_.2.2)]) (fun s_ w' => (w'.cell? ⟨gb237, 0, none⟩ = some (.int .i64 a0_0) ∧ w'.cell? ⟨gb237, 1, none⟩ = some (.int .i64 a0_1) ∧ w'.cell? ⟨gb237, 2, none⟩ = some (.int .i64 a0_2) ∧ w'.cell? ⟨gb237, 3, none⟩ = some (.int .u64 a0_3) ∧ w'.cell? ⟨gb237, 4, none⟩ = some (.int .u64 a0_4) ∧ w'.cell? ⟨gb237, 5, none⟩ = some (.int .u64 a0_5)) ∧ (Kd.R (Kd.int .u8) 5 w' w.heap.size (fun k_ => some k_ ≠ (s_.2.2 : Value).ownBlock) s_.2.1 y257) ∧ (Kd.R (Kd.int .u8) 5 w' w.heap.size (fun k_ => some k_ ≠ (s_.2.1 : Value).ownBlock) s_.2.2 y260) ∧ (w'.heap[gb237]? = some (.cells #[.int .i64 a0_0, .int .i64 a0_1, .int .i64 a0_2, .int .u64 a0_3, .int .u64 a0_4, .int .u64 a0_5] 29 (0, 0))) ∧ (Below w.heap.size w w')) ?_ ?_
          rotate_left
          · intro hCont
            refine two_ (i := 3) (j := 6) (Ni := some 33) (Nj := some 36) #[true, true, true, true, true, false, false, false, true, false, false, false] #[true, true, true, false, true, false, true, false, true, false, false, false] rfl rfl rfl rfl (two_of HT_.out (by kernel_rfl)) (by decide) (by decide) (fun K hK => ?_) (fun K hK => ?_)
            · skip
              refine Kd.R_lit_step (Kd.int .u8) _ 5 ?hg (N := 33) ?hd (xs := ([] : List Int)) (inner := []) (ok := fun _ => True) (okp := fun _ => True) ?hr ?hp (fun _ hk => hk) trivial (Below.refl _ _) (Nat.le_refl _) (by simp) ?_; (case hd => rfl); (case hg => rfl); (case hr => first | (go_simp; done) | (go_simp; rfl)); (case hp => exact (Reps.none _ _))
              intro v255 w31 ho32 hb hg_ hnew_
              clear hg_ hnew_
              (first | rw [← Ny254.out] at ho32 | (simp only [Int.reduceToNat] at ho32; rw [← Ny254.out] at ho32))
              have n0_ := Aside0.mk (Kd.R_lower ho32 (below_size (by repeat (first | (with_reducible first | exact HB.out | apply below_alloc | apply pw_below_drewN | apply below_drew1 | refine below_set ?_ GE237.out) | exact HB.out))))
              have n1_ := Aside0.mk (blk_below (g := gb237) (o := .cells #[.int .i64 a0_0, .int .i64 a0_1, .int .i64 a0_2, .int .u64 a0_3, .int .u64 a0_4, .int .u64 a0_5] 29 (0, 0)) (by (with_reducible repeat (first | refine blk_drewN ?_ _ | refine blk_drew ?_ | refine blk_alloc ?_ _)); exact BK237.out) hb)
              have n2_ := Aside0.mk (below_step (by repeat (first | (with_reducible first | exact HB.out | apply below_alloc | apply pw_below_drewN | apply below_drew1 | refine below_set ?_ GE237.out) | exact HB.out)) hb)
              clear BK237
              clear HB
              have HO256 := n0_
              have BK237 := n1_
              have HB := n2_
              clear n0_ n1_ n2_
              clear hb ho32
              refine hK.out _ _ ⟨(blk_cell BK237.out 0).trans rfl, (blk_cell BK237.out 1).trans rfl, (blk_cell BK237.out 2).trans rfl, (blk_cell BK237.out 3).trans rfl, (blk_cell BK237.out 4).trans rfl, (blk_cell BK237.out 5).trans rfl⟩ (fun hHeld => ?_)
              clear hK K
              refine norm_ (a' := ?_) ?_ ?_
              rotate_left
              · show Act.put _ (some 33) _ = _
                simp only [Act.put, List.setIfInBounds_toArray, List.set_cons_zero, List.set_cons_succ, i64_w, i32_w]
                rfl
              refine two_ (i := 5) (j := 6) (Ni := some 35) (Nj := some 36) #[true, true, true, true, true, true, false, false, true, false, false, false] #[true, true, true, true, true, false, true, false, true, false, false, false] rfl rfl rfl rfl (two_of HT_.out (by kernel_rfl)) (by decide) (by decide) (fun K hK => ?_) (fun K hK => ?_)
              · skip
                refine Kd.R_append_rows_step (Kd.int .u8) (w0 := w) w.heap.size (by rfl) (.tmp 33) (.tmp 34) 30 5 (.int .u8 0) 1 rfl Try.underlying30 info5 rfl (by decide) (by omega) v255 y254 l1 _ _ _ (fun _ => True) (fun _ => False) rfl rfl ?aO ?aR (fun _ _ h => h) (fun _ h => h.elim) ?aF ?aB ?aS ?aL ?_
                (case aR => repeat (first | exact (Kd.C_below HR1.out HB.out) | (with_reducible refine Kd.C_alloc ?_ _) | (with_reducible refine Kd.C_drewN ?_ _) | (with_reducible refine Kd.C_drew ?_)))
                (case aB => exact (by repeat (first | (with_reducible first | exact HB.out | apply below_alloc | apply pw_below_drewN | apply below_drew1 | refine below_set ?_ GE237.out) | exact HB.out)))
                (case aF => exact (fun _ _ => trivial))
                (case aO => exact (by (with_reducible repeat (first | apply Kd.R_alloc | apply Kd.R_drewN | apply Kd.R_drew)); exact HO256.out))
                (case aS => exact (below_size (by repeat (first | (with_reducible first | exact HB.out | apply below_alloc | apply pw_below_drewN | apply below_drew1 | refine below_set ?_ GE237.out) | exact HB.out))))
                (case aL => have := LMc23.out; omega)
                intro v258 w33 ho hb hg hat
                rw [← Ny257.out] at ho
                have n0_ := Aside0.mk (blk_grown (g := gb237) (o := .cells #[.int .i64 a0_0, .int .i64 a0_1, .int .i64 a0_2, .int .u64 a0_3, .int .u64 a0_4, .int .u64 a0_5] 29 (0, 0)) (by (with_reducible repeat (first | refine blk_drewN ?_ _ | refine blk_drew ?_ | refine blk_alloc ?_ _)); exact BK237.out) hg (Kd.R_ne HO256.out BK237.out (by decide)))
                have n1_ := Aside0.mk (hb)
                have n2_ := Aside0.mk (ho)
                clear BK237
                clear HB
                clear HO256
                have BK237 := n0_
                have HB := n1_
                have HO259 := n2_
                clear n0_ n1_ n2_
                clear ho hb hg hat
                refine hK.out _ _ ⟨(blk_cell BK237.out 0).trans rfl, (blk_cell BK237.out 1).trans rfl, (blk_cell BK237.out 2).trans rfl, (blk_cell BK237.out 3).trans rfl, (blk_cell BK237.out 4).trans rfl, (blk_cell BK237.out 5).trans rfl⟩ (fun hHeld => ?_)
                clear hK K
                refine norm_ (a' := ?_) ?_ ?_
                rotate_left
                · show Act.put _ (some 35) _ = _
                  simp only [Act.put, List.setIfInBounds_toArray, List.set_cons_zero, List.set_cons_succ, i64_w, i32_w]
                  rfl
                refine one_ (i := 6) (N := some 36) #[true, true, true, true, true, true, true, false, true, false, false, false] rfl rfl (one_of HT_.out (by kernel_rfl)) (by decide) (fun K hK => ?_)
                refine Kd.R_lit_step (Kd.int .u8) _ 5 ?hg (N := 36) ?hd (xs := ([255] : List Int)) (inner := [.int .u8 255]) (ok := fun _ => True) (okp := fun _ => True) ?hr ?hp (fun _ hk => hk) trivial (Below.refl _ _) (Nat.le_refl _) (by simp) ?_; (case hd => rfl); (case hg => rfl); (case hr => first | (go_simp; done) | (go_simp; rfl)); (case hp => exact (Reps.one (show Kd.M (Kd.int .u8) _ _ _ 255 [.int .u8 255] from rfl) (Reps.none _ _)))
                intro v261 w34 ho35 hb hg_ hnew_
                clear hg_ hnew_
                (first | rw [← Ny260.out] at ho35 | (simp only [Int.reduceToNat] at ho35; rw [← Ny260.out] at ho35))
                have n0_ := Aside0.mk (Kd.R_elder' (by (with_reducible repeat (first | apply Kd.R_alloc | apply Kd.R_drewN | apply Kd.R_drew)); exact HO259.out) (Kd.R_base ho35) hb)
                have n1_ := Aside0.mk (Kd.R_lower (Kd.R_new' ho35 (Kd.R_lt (by (with_reducible repeat (first | apply Kd.R_alloc | apply Kd.R_drewN | apply Kd.R_drew)); exact HO259.out))) (below_size (by repeat (first | (with_reducible first | exact HB.out | apply below_alloc | apply pw_below_drewN | apply below_drew1 | refine below_set ?_ GE237.out) | exact HB.out))))
                have n2_ := Aside0.mk (blk_below (g := gb237) (o := .cells #[.int .i64 a0_0, .int .i64 a0_1, .int .i64 a0_2, .int .u64 a0_3, .int .u64 a0_4, .int .u64 a0_5] 29 (0, 0)) (by (with_reducible repeat (first | refine blk_drewN ?_ _ | refine blk_drew ?_ | refine blk_alloc ?_ _)); exact BK237.out) hb)
                have n3_ := Aside0.mk (below_step (by repeat (first | (with_reducible first | exact HB.out | apply below_alloc | apply pw_below_drewN | apply below_drew1 | refine below_set ?_ GE237.out) | exact HB.out)) hb)
                clear HO259
                clear BK237
                clear HB
                have HO259 := n0_
                have HO262 := n1_
                have BK237 := n2_
                have HB := n3_
                clear n0_ n1_ n2_ n3_
                clear hb ho35
                refine hK.out _ _ ⟨(blk_cell BK237.out 0).trans rfl, (blk_cell BK237.out 1).trans rfl, (blk_cell BK237.out 2).trans rfl, (blk_cell BK237.out 3).trans rfl, (blk_cell BK237.out 4).trans rfl, (blk_cell BK237.out 5).trans rfl⟩ (fun hHeld => ?_)
                clear hK K
                refine norm_ (a' := ?_) ?_ ?_
                rotate_left
                · show Act.put _ (some 36) _ = _
                  simp only [Act.put, List.setIfInBounds_toArray, List.set_cons_zero, List.set_cons_succ, i64_w, i32_w]
                  rfl
                exact norm_ (by simp only [putAll, Act.put, List.setIfInBounds_toArray, List.set_cons_zero, List.set_cons_succ]) (hCont (v255, v258, v261) _ ⟨hHeld, (by (with_reducible repeat (first | apply Kd.R_alloc | apply Kd.R_drewN | apply Kd.R_drew)); exact Kd.R_mono HO259.out (fun _ hk => hk.2)), (by (with_reducible repeat (first | apply Kd.R_alloc | apply Kd.R_drewN | apply Kd.R_drew)); exact Kd.R_mono HO262.out (fun _ hk => hk.2)), (by (with_reducible repeat (first | refine blk_drewN ?_ _ | refine blk_drew ?_ | refine blk_alloc ?_ _)); exact BK237.out), (by repeat (first | (with_reducible first | exact HB.out | apply below_alloc | apply pw_below_drewN | apply below_drew1 | refine below_set ?_ GE237.out) | exact HB.out))⟩)
              · skip
                refine Kd.R_lit_step (Kd.int .u8) _ 5 ?hg (N := 36) ?hd (xs := ([255] : List Int)) (inner := [.int .u8 255]) (ok := fun _ => True) (okp := fun _ => True) ?hr ?hp (fun _ hk => hk) trivial (Below.refl _ _) (Nat.le_refl _) (by simp) ?_; (case hd => rfl); (case hg => rfl); (case hr => first | (go_simp; done) | (go_simp; rfl)); (case hp => exact (Reps.one (show Kd.M (Kd.int .u8) _ _ _ 255 [.int .u8 255] from rfl) (Reps.none _ _)))
                intro v261 w33 ho34 hb hg_ hnew_
                clear hg_ hnew_
                (first | rw [← Ny260.out] at ho34 | (simp only [Int.reduceToNat] at ho34; rw [← Ny260.out] at ho34))
                have n0_ := Aside0.mk (Kd.R_elder' (by (with_reducible repeat (first | apply Kd.R_alloc | apply Kd.R_drewN | apply Kd.R_drew)); exact HO256.out) (Kd.R_base ho34) hb)
                have n1_ := Aside0.mk (Kd.R_lower (Kd.R_new' ho34 (Kd.R_lt (by (with_reducible repeat (first | apply Kd.R_alloc | apply Kd.R_drewN | apply Kd.R_drew)); exact HO256.out))) (below_size (by repeat (first | (with_reducible first | exact HB.out | apply below_alloc | apply pw_below_drewN | apply below_drew1 | refine below_set ?_ GE237.out) | exact HB.out))))
                have n2_ := Aside0.mk (blk_below (g := gb237) (o := .cells #[.int .i64 a0_0, .int .i64 a0_1, .int .i64 a0_2, .int .u64 a0_3, .int .u64 a0_4, .int .u64 a0_5] 29 (0, 0)) (by (with_reducible repeat (first | refine blk_drewN ?_ _ | refine blk_drew ?_ | refine blk_alloc ?_ _)); exact BK237.out) hb)
                have n3_ := Aside0.mk (below_step (by repeat (first | (with_reducible first | exact HB.out | apply below_alloc | apply pw_below_drewN | apply below_drew1 | refine below_set ?_ GE237.out) | exact HB.out)) hb)
                clear HO256
                clear BK237
                clear HB
                have HO256 := n0_
                have HO262 := n1_
                have BK237 := n2_
                have HB := n3_
                clear n0_ n1_ n2_ n3_
                clear hb ho34
                refine hK.out _ _ ⟨(blk_cell BK237.out 0).trans rfl, (blk_cell BK237.out 1).trans rfl, (blk_cell BK237.out 2).trans rfl, (blk_cell BK237.out 3).trans rfl, (blk_cell BK237.out 4).trans rfl, (blk_cell BK237.out 5).trans rfl⟩ (fun hHeld => ?_)
                clear hK K
                refine norm_ (a' := ?_) ?_ ?_
                rotate_left
                · show Act.put _ (some 36) _ = _
                  simp only [Act.put, List.setIfInBounds_toArray, List.set_cons_zero, List.set_cons_succ, i64_w, i32_w]
                  rfl
                refine one_ (i := 5) (N := some 35) #[true, true, true, true, true, true, true, false, true, false, false, false] rfl rfl (one_of HT_.out (by kernel_rfl)) (by decide) (fun K hK => ?_)
                refine Kd.R_append_rows_step (Kd.int .u8) (w0 := w) w.heap.size (by rfl) (.tmp 33) (.tmp 34) 30 5 (.int .u8 0) 1 rfl Try.underlying30 info5 rfl (by decide) (by omega) v255 y254 l1 _ _ _ (fun k_ => some k_ ≠ (v261 : Value).ownBlock) (fun _ => False) rfl rfl ?aO ?aR (fun _ _ h => h) (fun _ h => h.elim) ?aF ?aB ?aS ?aL ?_
                (case aR => repeat (first | exact (Kd.C_below HR1.out HB.out) | (with_reducible refine Kd.C_alloc ?_ _) | (with_reducible refine Kd.C_drewN ?_ _) | (with_reducible refine Kd.C_drew ?_)))
                (case aB => exact (by repeat (first | (with_reducible first | exact HB.out | apply below_alloc | apply pw_below_drewN | apply below_drew1 | refine below_set ?_ GE237.out) | exact HB.out)))
                (case aF => exact (fun k_ hk => Kd.fresh' (Kd.R_lt (by (with_reducible repeat (first | apply Kd.R_alloc | apply Kd.R_drewN | apply Kd.R_drew)); exact HO262.out)) k_ hk))
                (case aO => exact (by (with_reducible repeat (first | apply Kd.R_alloc | apply Kd.R_drewN | apply Kd.R_drew)); exact Kd.R_mono HO256.out (fun _ hk => hk.2)))
                (case aS => exact (below_size (by repeat (first | (with_reducible first | exact HB.out | apply below_alloc | apply pw_below_drewN | apply below_drew1 | refine below_set ?_ GE237.out) | exact HB.out))))
                (case aL => have := LMc23.out; omega)
                intro v258 w35 ho hb hg hat
                rw [← Ny257.out] at ho
                have n0_ := Aside0.mk (blk_grown (g := gb237) (o := .cells #[.int .i64 a0_0, .int .i64 a0_1, .int .i64 a0_2, .int .u64 a0_3, .int .u64 a0_4, .int .u64 a0_5] 29 (0, 0)) (by (with_reducible repeat (first | refine blk_drewN ?_ _ | refine blk_drew ?_ | refine blk_alloc ?_ _)); exact BK237.out) hg (Kd.R_ne HO256.out BK237.out (by decide)))
                have n1_ := Aside0.mk (Kd.R_after (ok := (fun _ => True)) (by (with_reducible repeat (first | apply Kd.R_alloc | apply Kd.R_drewN | apply Kd.R_drew)); exact HO262.out) hg hat)
                have n2_ := Aside0.mk (hb)
                have n3_ := Aside0.mk (ho)
                clear BK237
                clear HO262
                clear HB
                clear HO256
                have BK237 := n0_
                have HO262 := n1_
                have HB := n2_
                have HO259 := n3_
                clear n0_ n1_ n2_ n3_
                clear ho hb hg hat
                refine hK.out _ _ ⟨(blk_cell BK237.out 0).trans rfl, (blk_cell BK237.out 1).trans rfl, (blk_cell BK237.out 2).trans rfl, (blk_cell BK237.out 3).trans rfl, (blk_cell BK237.out 4).trans rfl, (blk_cell BK237.out 5).trans rfl⟩ (fun hHeld => ?_)
                clear hK K
                refine norm_ (a' := ?_) ?_ ?_
                rotate_left
                · show Act.put _ (some 35) _ = _
                  simp only [Act.put, List.setIfInBounds_toArray, List.set_cons_zero, List.set_cons_succ, i64_w, i32_w]
                  rfl
                exact norm_ (by simp only [putAll, Act.put, List.setIfInBounds_toArray, List.set_cons_zero, List.set_cons_succ]) (hCont (v255, v258, v261) _ ⟨hHeld, (by (with_reducible repeat (first | apply Kd.R_alloc | apply Kd.R_drewN | apply Kd.R_drew)); exact HO259.out), (by (with_reducible repeat (first | apply Kd.R_alloc | apply Kd.R_drewN | apply Kd.R_drew)); exact Kd.R_mono HO262.out (fun _ hk => hk.2)), (by (with_reducible repeat (first | refine blk_drewN ?_ _ | refine blk_drew ?_ | refine blk_alloc ?_ _)); exact BK237.out), (by repeat (first | (with_reducible first | exact HB.out | apply below_alloc | apply pw_below_drewN | apply below_drew1 | refine below_set ?_ GE237.out) | exact HB.out))⟩)
            · skip
              refine Kd.R_lit_step (Kd.int .u8) _ 5 ?hg (N := 36) ?hd (xs := ([255] : List Int)) (inner := [.int .u8 255]) (ok := fun _ => True) (okp := fun _ => True) ?hr ?hp (fun _ hk => hk) trivial (Below.refl _ _) (Nat.le_refl _) (by simp) ?_; (case hd => rfl); (case hg => rfl); (case hr => first | (go_simp; done) | (go_simp; rfl)); (case hp => exact (Reps.one (show Kd.M (Kd.int .u8) _ _ _ 255 [.int .u8 255] from rfl) (Reps.none _ _)))
              intro v261 w31 ho32 hb hg_ hnew_
              clear hg_ hnew_
              (first | rw [← Ny260.out] at ho32 | (simp only [Int.reduceToNat] at ho32; rw [← Ny260.out] at ho32))
              have n0_ := Aside0.mk (Kd.R_lower ho32 (below_size (by repeat (first | (with_reducible first | exact HB.out | apply below_alloc | apply pw_below_drewN | apply below_drew1 | refine below_set ?_ GE237.out) | exact HB.out))))
              have n1_ := Aside0.mk (blk_below (g := gb237) (o := .cells #[.int .i64 a0_0, .int .i64 a0_1, .int .i64 a0_2, .int .u64 a0_3, .int .u64 a0_4, .int .u64 a0_5] 29 (0, 0)) (by (with_reducible repeat (first | refine blk_drewN ?_ _ | refine blk_drew ?_ | refine blk_alloc ?_ _)); exact BK237.out) hb)
              have n2_ := Aside0.mk (below_step (by repeat (first | (with_reducible first | exact HB.out | apply below_alloc | apply pw_below_drewN | apply below_drew1 | refine below_set ?_ GE237.out) | exact HB.out)) hb)
              clear BK237
              clear HB
              have HO262 := n0_
              have BK237 := n1_
              have HB := n2_
              clear n0_ n1_ n2_
              clear hb ho32
              refine hK.out _ _ ⟨(blk_cell BK237.out 0).trans rfl, (blk_cell BK237.out 1).trans rfl, (blk_cell BK237.out 2).trans rfl, (blk_cell BK237.out 3).trans rfl, (blk_cell BK237.out 4).trans rfl, (blk_cell BK237.out 5).trans rfl⟩ (fun hHeld => ?_)
              clear hK K
              refine norm_ (a' := ?_) ?_ ?_
              rotate_left
              · show Act.put _ (some 36) _ = _
                simp only [Act.put, List.setIfInBounds_toArray, List.set_cons_zero, List.set_cons_succ, i64_w, i32_w]
                rfl
              refine one_ (i := 3) (N := some 33) #[true, true, true, true, true, false, true, false, true, false, false, false] rfl rfl (one_of HT_.out (by kernel_rfl)) (by decide) (fun K hK => ?_)
              refine Kd.R_lit_step (Kd.int .u8) _ 5 ?hg (N := 33) ?hd (xs := ([] : List Int)) (inner := []) (ok := fun _ => True) (okp := fun _ => True) ?hr ?hp (fun _ hk => hk) trivial (Below.refl _ _) (Nat.le_refl _) (by simp) ?_; (case hd => rfl); (case hg => rfl); (case hr => first | (go_simp; done) | (go_simp; rfl)); (case hp => exact (Reps.none _ _))
              intro v255 w33 ho34 hb hg_ hnew_
              clear hg_ hnew_
              (first | rw [← Ny254.out] at ho34 | (simp only [Int.reduceToNat] at ho34; rw [← Ny254.out] at ho34))
              have n0_ := Aside0.mk (Kd.R_elder' (by (with_reducible repeat (first | apply Kd.R_alloc | apply Kd.R_drewN | apply Kd.R_drew)); exact HO262.out) (Kd.R_base ho34) hb)
              have n1_ := Aside0.mk (Kd.R_lower (Kd.R_new' ho34 (Kd.R_lt (by (with_reducible repeat (first | apply Kd.R_alloc | apply Kd.R_drewN | apply Kd.R_drew)); exact HO262.out))) (below_size (by repeat (first | (with_reducible first | exact HB.out | apply below_alloc | apply pw_below_drewN | apply below_drew1 | refine below_set ?_ GE237.out) | exact HB.out))))
              have n2_ := Aside0.mk (blk_below (g := gb237) (o := .cells #[.int .i64 a0_0, .int .i64 a0_1, .int .i64 a0_2, .int .u64 a0_3, .int .u64 a0_4, .int .u64 a0_5] 29 (0, 0)) (by (with_reducible repeat (first | refine blk_drewN ?_ _ | refine blk_drew ?_ | refine blk_alloc ?_ _)); exact BK237.out) hb)
              have n3_ := Aside0.mk (below_step (by repeat (first | (with_reducible first | exact HB.out | apply below_alloc | apply pw_below_drewN | apply below_drew1 | refine below_set ?_ GE237.out) | exact HB.out)) hb)
              clear HO262
              clear BK237
              clear HB
              have HO262 := n0_
              have HO256 := n1_
              have BK237 := n2_
              have HB := n3_
              clear n0_ n1_ n2_ n3_
              clear hb ho34
              refine hK.out _ _ ⟨(blk_cell BK237.out 0).trans rfl, (blk_cell BK237.out 1).trans rfl, (blk_cell BK237.out 2).trans rfl, (blk_cell BK237.out 3).trans rfl, (blk_cell BK237.out 4).trans rfl, (blk_cell BK237.out 5).trans rfl⟩ (fun hHeld => ?_)
              clear hK K
              refine norm_ (a' := ?_) ?_ ?_
              rotate_left
              · show Act.put _ (some 33) _ = _
                simp only [Act.put, List.setIfInBounds_toArray, List.set_cons_zero, List.set_cons_succ, i64_w, i32_w]
                rfl
              refine one_ (i := 5) (N := some 35) #[true, true, true, true, true, true, true, false, true, false, false, false] rfl rfl (one_of HT_.out (by kernel_rfl)) (by decide) (fun K hK => ?_)
              refine Kd.R_append_rows_step (Kd.int .u8) (w0 := w) w.heap.size (by rfl) (.tmp 33) (.tmp 34) 30 5 (.int .u8 0) 1 rfl Try.underlying30 info5 rfl (by decide) (by omega) v255 y254 l1 _ _ _ (fun k_ => some k_ ≠ (v261 : Value).ownBlock) (fun _ => False) rfl rfl ?aO ?aR (fun _ _ h => h) (fun _ h => h.elim) ?aF ?aB ?aS ?aL ?_
              (case aR => repeat (first | exact (Kd.C_below HR1.out HB.out) | (with_reducible refine Kd.C_alloc ?_ _) | (with_reducible refine Kd.C_drewN ?_ _) | (with_reducible refine Kd.C_drew ?_)))
              (case aB => exact (by repeat (first | (with_reducible first | exact HB.out | apply below_alloc | apply pw_below_drewN | apply below_drew1 | refine below_set ?_ GE237.out) | exact HB.out)))
              (case aF => exact (fun k_ hk => Kd.fresh' (Kd.R_lt (by (with_reducible repeat (first | apply Kd.R_alloc | apply Kd.R_drewN | apply Kd.R_drew)); exact HO262.out)) k_ hk))
              (case aO => exact (by (with_reducible repeat (first | apply Kd.R_alloc | apply Kd.R_drewN | apply Kd.R_drew)); exact Kd.R_mono HO256.out (fun _ hk => hk.2)))
              (case aS => exact (below_size (by repeat (first | (with_reducible first | exact HB.out | apply below_alloc | apply pw_below_drewN | apply below_drew1 | refine below_set ?_ GE237.out) | exact HB.out))))
              (case aL => have := LMc23.out; omega)
              intro v258 w35 ho hb hg hat
              rw [← Ny257.out] at ho
              have n0_ := Aside0.mk (blk_grown (g := gb237) (o := .cells #[.int .i64 a0_0, .int .i64 a0_1, .int .i64 a0_2, .int .u64 a0_3, .int .u64 a0_4, .int .u64 a0_5] 29 (0, 0)) (by (with_reducible repeat (first | refine blk_drewN ?_ _ | refine blk_drew ?_ | refine blk_alloc ?_ _)); exact BK237.out) hg (Kd.R_ne HO256.out BK237.out (by decide)))
              have n1_ := Aside0.mk (Kd.R_after (ok := (fun _ => True)) (by (with_reducible repeat (first | apply Kd.R_alloc | apply Kd.R_drewN | apply Kd.R_drew)); exact HO262.out) hg hat)
              have n2_ := Aside0.mk (hb)
              have n3_ := Aside0.mk (ho)
              clear BK237
              clear HO262
              clear HB
              clear HO256
              have BK237 := n0_
              have HO262 := n1_
              have HB := n2_
              have HO259 := n3_
              clear n0_ n1_ n2_ n3_
              clear ho hb hg hat
              refine hK.out _ _ ⟨(blk_cell BK237.out 0).trans rfl, (blk_cell BK237.out 1).trans rfl, (blk_cell BK237.out 2).trans rfl, (blk_cell BK237.out 3).trans rfl, (blk_cell BK237.out 4).trans rfl, (blk_cell BK237.out 5).trans rfl⟩ (fun hHeld => ?_)
              clear hK K
              refine norm_ (a' := ?_) ?_ ?_
              rotate_left
              · show Act.put _ (some 35) _ = _
                simp only [Act.put, List.setIfInBounds_toArray, List.set_cons_zero, List.set_cons_succ, i64_w, i32_w]
                rfl
              exact norm_ (by simp only [putAll, Act.put, List.setIfInBounds_toArray, List.set_cons_zero, List.set_cons_succ]) (hCont (v255, v258, v261) _ ⟨hHeld, (by (with_reducible repeat (first | apply Kd.R_alloc | apply Kd.R_drewN | apply Kd.R_drew)); exact HO259.out), (by (with_reducible repeat (first | apply Kd.R_alloc | apply Kd.R_drewN | apply Kd.R_drew)); exact Kd.R_mono HO262.out (fun _ hk => hk.2)), (by (with_reducible repeat (first | refine blk_drewN ?_ _ | refine blk_drew ?_ | refine blk_alloc ?_ _)); exact BK237.out), (by repeat (first | (with_reducible first | exact HB.out | apply below_alloc | apply pw_below_drewN | apply below_drew1 | refine below_set ?_ GE237.out) | exact HB.out))⟩)
          rintro ⟨v255, v258, v261⟩ w36 ⟨hS_, h0_, h1_, h2_, h3_⟩
          have n0_ : Aside0 (Kd.R (Kd.int .u8) 5 w36 w.heap.size (fun k_ => some k_ ≠ (v261 : Value).ownBlock) v258 y257) := ⟨h0_⟩
          have n1_ : Aside0 (Kd.R (Kd.int .u8) 5 w36 w.heap.size (fun k_ => some k_ ≠ (v258 : Value).ownBlock) v261 y260) := ⟨h1_⟩
          have n2_ : Aside0 (w36.heap[gb237]? = some (.cells #[.int .i64 a0_0, .int .i64 a0_1, .int .i64 a0_2, .int .u64 a0_3, .int .u64 a0_4, .int .u64 a0_5] 29 (0, 0))) := ⟨h2_⟩
          have n3_ : Aside0 (Below w.heap.size w w36) := ⟨h3_⟩
          clear BK237
          clear HB
          clear h0_ h1_ h2_ h3_
          have HO259 := n0_
          have HO262 := n1_
          have BK237 := n2_
          have HB := n3_
          clear n0_ n1_ n2_ n3_
          have hHeld : w36.cell? ⟨gb237, 0, none⟩ = some (.int .i64 a0_0) ∧ w36.cell? ⟨gb237, 1, none⟩ = some (.int .i64 a0_1) ∧ w36.cell? ⟨gb237, 2, none⟩ = some (.int .i64 a0_2) ∧ w36.cell? ⟨gb237, 3, none⟩ = some (.int .u64 a0_3) ∧ w36.cell? ⟨gb237, 4, none⟩ = some (.int .u64 a0_4) ∧ w36.cell? ⟨gb237, 5, none⟩ = some (.int .u64 a0_5) := hS_
          obtain ⟨Ao38, co38, eo38⟩ := Kd.R_slice HO262.out
          (first | subst eo38 | (injection eo38 with f1_ f2_ f3_; have f4_ := f1_.symm; have f5_ := f3_.symm; clear f1_ f2_ f3_; subst f4_; subst f5_))
          refine norm_ (a' := ?_) ?_ ?_
          rotate_left
          · simp only [putAll, Act.put, List.setIfInBounds_toArray, List.set_cons_zero, List.set_cons_succ]
            rfl
          refine one_ (i := 7) (N := some 37) #[true, true, true, true, true, true, true, true, true, false, false, false] rfl rfl (one_of HT_.out (by kernel_rfl)) (by decide) (fun K hK => ?_)
          refine Kd.R_append_rows_step (Kd.int .u8) (w0 := w) w.heap.size (by rfl) (.tmp 35) (.tmp 36) 30 5 (.int .u8 0) 1 rfl Try.underlying30 info5 rfl (by decide) (by omega) v258 y257 y260 _ _ _ (fun k_ => some k_ ≠ (.slice Ao38 y260.length co38 : Value).ownBlock) (fun _ => False) rfl rfl ?aO ?aR (fun _ _ h => h) (fun _ h => h.elim) ?aF ?aB ?aS ?aL ?_
          (case aR => repeat (first | exact (Kd.R_reads' HO262.out).2.2 | (with_reducible refine Kd.C_alloc ?_ _) | (with_reducible refine Kd.C_drewN ?_ _) | (with_reducible refine Kd.C_drew ?_)))
          (case aB => exact (by repeat (first | (with_reducible first | exact HB.out | apply below_alloc | apply pw_below_drewN | apply below_drew1 | refine below_set ?_ GE237.out) | exact HB.out)))
          (case aF => exact (fun k_ hk => Kd.fresh' (Kd.R_lt (by (with_reducible repeat (first | apply Kd.R_alloc | apply Kd.R_drewN | apply Kd.R_drew)); exact HO262.out)) k_ hk))
          (case aO => exact (by (with_reducible repeat (first | apply Kd.R_alloc | apply Kd.R_drewN | apply Kd.R_drew)); exact HO259.out))
          (case aS => exact (below_size (by repeat (first | (with_reducible first | exact HB.out | apply below_alloc | apply pw_below_drewN | apply below_drew1 | refine below_set ?_ GE237.out) | exact HB.out))))
          (case aL => have := LMc24.out; omega)
          intro v264 w37 ho hb hg hat
          rw [← Ny263.out] at ho
          have n0_ := Aside0.mk (blk_grown (g := gb237) (o := .cells #[.int .i64 a0_0, .int .i64 a0_1, .int .i64 a0_2, .int .u64 a0_3, .int .u64 a0_4, .int .u64 a0_5] 29 (0, 0)) (by (with_reducible repeat (first | refine blk_drewN ?_ _ | refine blk_drew ?_ | refine blk_alloc ?_ _)); exact BK237.out) hg (Kd.R_ne HO259.out BK237.out (by decide)))
          have n1_ := Aside0.mk (Kd.R_after (ok := (fun _ => True)) (by (with_reducible repeat (first | apply Kd.R_alloc | apply Kd.R_drewN | apply Kd.R_drew)); exact Kd.R_mono HO262.out (fun _ hk => ⟨trivial, hk⟩)) hg hat)
          have n2_ := Aside0.mk (hb)
          have n3_ := Aside0.mk (ho)
          clear BK237
          clear HO262
          clear HB
          clear HO259
          have BK237 := n0_
          have HO262 := n1_
          have HB := n2_
          have HO265 := n3_
          clear n0_ n1_ n2_ n3_
          clear ho hb hg hat
          refine hK.out _ _ ⟨(blk_cell BK237.out 0).trans rfl, (blk_cell BK237.out 1).trans rfl, (blk_cell BK237.out 2).trans rfl, (blk_cell BK237.out 3).trans rfl, (blk_cell BK237.out 4).trans rfl, (blk_cell BK237.out 5).trans rfl⟩ (fun hHeld => ?_)
          clear hK K
          refine norm_ (a' := ?_) ?_ ?_
          rotate_left
          · show Act.put _ (some 37) _ = _
            simp only [Act.put, List.setIfInBounds_toArray, List.set_cons_zero, List.set_cons_succ, i64_w, i32_w]
            rfl
          refine one_ (i := 9) (N := some 39) #[true, true, true, true, true, true, true, true, true, true, false, false] rfl rfl (one_of HT_.out (by kernel_rfl)) (by decide) (fun K hK => ?_)
          refine Kd.R_append_rows_step (Kd.int .u8) (w0 := w) w.heap.size (by rfl) (.tmp 37) (.tmp 38) 30 5 (.int .u8 0) 1 rfl Try.underlying30 info5 rfl (by decide) (by omega) v264 y263 l2 _ _ _ (fun k_ => some k_ ≠ (.slice Ao38 y260.length co38 : Value).ownBlock) (fun _ => False) rfl rfl ?aO ?aR (fun _ _ h => h) (fun _ h => h.elim) ?aF ?aB ?aS ?aL ?_
          (case aR => repeat (first | exact (Kd.C_below HR2.out HB.out) | (with_reducible refine Kd.C_alloc ?_ _) | (with_reducible refine Kd.C_drewN ?_ _) | (with_reducible refine Kd.C_drew ?_)))
          (case aB => exact (by repeat (first | (with_reducible first | exact HB.out | apply below_alloc | apply pw_below_drewN | apply below_drew1 | refine below_set ?_ GE237.out) | exact HB.out)))
          (case aF => exact (fun k_ hk => Kd.fresh' (Kd.R_lt (by (with_reducible repeat (first | apply Kd.R_alloc | apply Kd.R_drewN | apply Kd.R_drew)); exact HO262.out)) k_ hk))
          (case aO => exact (by (with_reducible repeat (first | apply Kd.R_alloc | apply Kd.R_drewN | apply Kd.R_drew)); exact HO265.out))
          (case aS => exact (below_size (by repeat (first | (with_reducible first | exact HB.out | apply below_alloc | apply pw_below_drewN | apply below_drew1 | refine below_set ?_ GE237.out) | exact HB.out))))
          (case aL => have := LMc25.out; omega)
          intro v267 w39 ho hb hg hat
          rw [← Ny266.out] at ho
          have n0_ := Aside0.mk (blk_grown (g := gb237) (o := .cells #[.int .i64 a0_0, .int .i64 a0_1, .int .i64 a0_2, .int .u64 a0_3, .int .u64 a0_4, .int .u64 a0_5] 29 (0, 0)) (by (with_reducible repeat (first | refine blk_drewN ?_ _ | refine blk_drew ?_ | refine blk_alloc ?_ _)); exact BK237.out) hg (Kd.R_ne HO265.out BK237.out (by decide)))
          have n1_ := Aside0.mk (Kd.R_after (ok := (fun _ => True)) (by (with_reducible repeat (first | apply Kd.R_alloc | apply Kd.R_drewN | apply Kd.R_drew)); exact HO262.out) hg hat)
          have n2_ := Aside0.mk (hb)
          have n3_ := Aside0.mk (ho)
          clear BK237
          clear HO262
          clear HB
          clear HO265
          have BK237 := n0_
          have HO262 := n1_
          have HB := n2_
          have HO268 := n3_
          clear n0_ n1_ n2_ n3_
          clear ho hb hg hat
          obtain ⟨Ao40, co40, eo40⟩ := Kd.R_slice HO268.out
          (first | subst eo40 | (injection eo40 with f1_ f2_ f3_; have f4_ := f1_.symm; have f5_ := f3_.symm; clear f1_ f2_ f3_; subst f4_; subst f5_))
          refine hK.out _ _ ⟨(blk_cell BK237.out 0).trans rfl, (blk_cell BK237.out 1).trans rfl, (blk_cell BK237.out 2).trans rfl, (blk_cell BK237.out 3).trans rfl, (blk_cell BK237.out 4).trans rfl, (blk_cell BK237.out 5).trans rfl⟩ (fun hHeld => ?_)
          clear hK K
          refine norm_ (a' := ?_) ?_ ?_
          rotate_left
          · show Act.put _ (some 39) _ = _
            simp only [Act.put, List.setIfInBounds_toArray, List.set_cons_zero, List.set_cons_succ, i64_w, i32_w]
            rfl
          refine one_ (i := 10) (N := some 40) #[true, true, true, true, true, true, true, true, true, true, true, false] rfl rfl (one_of HT_.out (by kernel_rfl)) (by decide) (fun K hK => ?_)
          refine goes_ Try.func51 (by kernel_rfl) rfl #[.agg #[.int .i64 a0_0, .int .i64 a0_1, .int .i64 a0_2, .int .u64 a0_3, .int .u64 a0_4, .int .u64 a0_5], .int .u64 a0_5, .slice Ao40 y266.length co40] (by rfl) rfl rfl (by (try simp only [List.map_toArray, List.map_cons, List.map_nil]); first | done | rfl | (simp only [List.length_drop, List.length_take]; rfl)) ?_
          with_reducible refine (spec_word.calls k a0_0 a0_1 a0_2 a0_3 a0_4 a0_5 a0_5 _ _ y266 t269 _ ?side1 ?side2 A26.out).mono ?_
          (case side1 => repeat (first | exact (Kd.R_reads' HO268.out).2.2 | (with_reducible refine Kd.C_alloc ?_ _) | (with_reducible refine Kd.C_drewN ?_ _) | (with_reducible refine Kd.C_drew ?_)))
          (case side2 => exact (Kd.R_reads' HO268.out).2.1)
          rintro e w41 ⟨v270, rfl, ho0, hb⟩
          refine ⟨_, rfl, ?_⟩
          have n0_ := Aside0.mk (Kd.R_elder' (by (with_reducible repeat (first | apply Kd.R_alloc | apply Kd.R_drewN | apply Kd.R_drew)); exact HO262.out) (Kd.R_base ho0) hb)
          have n1_ := Aside0.mk (Kd.R_elder' (by (with_reducible repeat (first | apply Kd.R_alloc | apply Kd.R_drewN | apply Kd.R_drew)); exact HO268.out) (Kd.R_base ho0) hb)
          have n2_ := Aside0.mk (Kd.R_lower (Kd.R_new' (Kd.R_new' ho0 (Kd.R_lt (by (with_reducible repeat (first | apply Kd.R_alloc | apply Kd.R_drewN | apply Kd.R_drew)); exact HO262.out))) (Kd.R_lt (by (with_reducible repeat (first | apply Kd.R_alloc | apply Kd.R_drewN | apply Kd.R_drew)); exact HO268.out))) (below_size (by repeat (first | (with_reducible first | exact HB.out | apply below_alloc | apply pw_below_drewN | apply below_drew1 | refine below_set ?_ GE237.out) | exact HB.out))))
          have n3_ := Aside0.mk (blk_below (g := gb237) (o := .cells #[.int .i64 a0_0, .int .i64 a0_1, .int .i64 a0_2, .int .u64 a0_3, .int .u64 a0_4, .int .u64 a0_5] 29 (0, 0)) (by (with_reducible repeat (first | refine blk_drewN ?_ _ | refine blk_drew ?_ | refine blk_alloc ?_ _)); exact BK237.out) hb)
          have n4_ := Aside0.mk (below_step (by repeat (first | (with_reducible first | exact HB.out | apply below_alloc | apply pw_below_drewN | apply below_drew1 | refine below_set ?_ GE237.out) | exact HB.out)) hb)
          clear HO262
          clear HO268
          clear BK237
          clear HB
          have HO262 := n0_
          have HO268 := n1_
          have HO271 := n2_
          have BK237 := n3_
          have HB := n4_
          clear n0_ n1_ n2_ n3_ n4_
          (try clear hb)
          (try clear hb2)
          (try clear hk)
          (try clear hi)
          (try clear ho0)
          refine hK.out _ _ ⟨(blk_cell BK237.out 0).trans rfl, (blk_cell BK237.out 1).trans rfl, (blk_cell BK237.out 2).trans rfl, (blk_cell BK237.out 3).trans rfl, (blk_cell BK237.out 4).trans rfl, (blk_cell BK237.out 5).trans rfl⟩ (fun hHeld => ?_)
          clear hK K
          refine norm_ (a' := ?_) ?_ ?_
          rotate_left
          · show Act.put _ (some 40) _ = _
            simp only [Act.put, List.setIfInBounds_toArray, List.set_cons_zero, List.set_cons_succ, i64_w, i32_w]
            rfl
          refine pure_ (i := 11) (N := some 6) (v := ?_) (a' := ?_) #[true, true, true, true, true, true, true, true, true, true, true, true] rfl rfl (any_of HT_.out (by kernel_rfl)) (fun _ _ _ h => h) (Or.inl ⟨by rfl, ?_⟩) ?_ ?_
          rotate_left
          · intro w'
            go_simp
            with_reducible rfl
          rotate_left
          · simp only [Act.put, List.setIfInBounds_toArray, List.set_cons_zero, List.set_cons_succ, i64_w, i32_w]
            rfl
          refine done_ (done_of HT_.out (by kernel_rfl)) ?_
          try go_wp2
          go_ret
          exact ⟨_, by first | rfl | (simp [errW_none, errW_some] <;> rfl) | (simp [*, errW_none, errW_some] <;> rfl), by (with_reducible repeat (first | apply Kd.R_alloc | apply Kd.R_drewN | apply Kd.R_drew)); exact Kd.R_mono HO271.out (fun _ hk => trivial), by repeat (first | (with_reducible first | exact HB.out | apply below_alloc | apply pw_below_drewN | apply below_drew1 | refine below_set ?_ GE237.out) | exact HB.out)⟩
        · rw [if_neg c25] at H
          exact absurd H (by simp)
      · rw [if_neg c24] at H
        exact absurd H (by simp)
    · rw [if_neg c23] at H
      exact absurd H (by simp)

end Go.Proofs.Ytkmdkmlgahfcpaa.M

