-- Written by a program of ours (wip/xp) out of the translation; Lean checks it.
import Derived.Test.YtkkkaegocinkeaaDoorSq
import Derived.Test.YtkkkaegocinkeaaDoorMm1
namespace Go.Proofs.YtkkkaegocinkeaaDoor.M
open Go.RowKit Go.Proofs.YtkkkaegocinkeaaDoorW.PrintWords Go.Proofs.YtkkkaegocinkeaaDoorW.PrintLast Go.Proofs.YtkkkaegocinkeaaDoorW.PrintMore
attribute [local go_sem] max2_int min2_int max_two min_two max_three min_three max_four min_four   -- for this text's walks alone
set_option linter.unusedVariables false
set_option linter.unusedSimpArgs false

/-! ### compact_RangeNodes: function 23 -/
mutual
def compact_RangeNodes.l0 : Nat → List (S52) → Int → Int → Int → Option ((List (S52)))
 | 0, _, _, _, _ => none
 | k + 1, x2, x7, x8, x9 => if x7 = 0 then (compact_RangeNodes.l1 k x2 x8 x9) else ((bits_TrailingZeros64.f x7).bind fun t128 => (if 0 ≤ (IntKind.u64.wrap (t128)) then ((compact_NewNodeID.f (IntKind.u64.wrap (t128)) (shr .u64 x9 (IntKind.u64.wrap (t128)))).bind fun bt129 => (if x2.length < 8796093022208 then (compact_RangeNodes.l0 k (x2 ++ [(⟨bt129.1, bt129.2⟩ : S52)]) (Go.bits .xor .u64 x7 (shl .u64 1 (IntKind.u64.wrap (t128)))) x8 (IntKind.u64.wrap (x9 + (shl .u64 1 (IntKind.u64.wrap (t128)))))) else (none))) else (none)))
def compact_RangeNodes.l1 : Nat → List (S52) → Int → Int → Option ((List (S52)))
 | 0, _, _, _ => none
 | k + 1, x2, x8, x9 => if x8 = 0 then (some x2) else ((bits_Len64.f x8).bind fun t134 => (if 0 ≤ (IntKind.u64.wrap ((IntKind.u64.wrap (t134)) - 1)) then ((compact_NewNodeID.f (IntKind.u64.wrap ((IntKind.u64.wrap (t134)) - 1)) (shr .u64 x9 (IntKind.u64.wrap ((IntKind.u64.wrap (t134)) - 1)))).bind fun bt135 => (if x2.length < 8796093022208 then (compact_RangeNodes.l1 k (x2 ++ [(⟨bt135.1, bt135.2⟩ : S52)]) (Go.bits .xor .u64 x8 (shl .u64 1 (IntKind.u64.wrap ((IntKind.u64.wrap (t134)) - 1)))) (IntKind.u64.wrap (x9 + (shl .u64 1 (IntKind.u64.wrap ((IntKind.u64.wrap (t134)) - 1)))))) else (none))) else (none)))
end
def compact_RangeNodes.f (k : Nat) (a0 : Int) (a1 : Int) (l2 : List (S52)) : Option ((List (S52))) := (compact_Decompose.f a0 a1).bind fun bt126 => (compact_RangeNodes.l0 k l2 bt126.1 bt126.2 a0)
theorem compact_RangeNodes.mono_l : ∀ k, (∀ y0 y1 y2 y3, LeO (compact_RangeNodes.l0 k y0 y1 y2 y3) (compact_RangeNodes.l0 (k + 1) y0 y1 y2 y3)) ∧ (∀ y0 y1 y2, LeO (compact_RangeNodes.l1 k y0 y1 y2) (compact_RangeNodes.l1 (k + 1) y0 y1 y2))
 | 0 => ⟨fun _ _ _ _ r h => by simp [compact_RangeNodes.l0] at h, fun _ _ _ r h => by simp [compact_RangeNodes.l1] at h⟩
 | k + 1 => by
  obtain ⟨ih0, ih1⟩ := compact_RangeNodes.mono_l k
  refine ⟨?_, ?_⟩
  ·intro y0 y1 y2 y3
   unfold compact_RangeNodes.l0
   repeat' first
   | (with_reducible exact ih0 _ _ _ _)
   | (with_reducible exact ih1 _ _ _)
   | (with_reducible exact LeO.refl _)
   | (with_reducible exact LeO.none _)
   | (with_reducible refine LeO.ite ?_ ?_)
   | (with_reducible refine LeO.bind ?_ (fun _ => ?_))
   | exact ih0 _ _ _ _
   | exact ih1 _ _ _
   | exact LeO.none _
   | refine LeO.ite ?_ ?_
   | refine LeO.bind ?_ (fun _ => ?_)
  ·intro y0 y1 y2
   unfold compact_RangeNodes.l1
   repeat' first
   | (with_reducible exact ih0 _ _ _ _)
   | (with_reducible exact ih1 _ _ _)
   | (with_reducible exact LeO.refl _)
   | (with_reducible exact LeO.none _)
   | (with_reducible refine LeO.ite ?_ ?_)
   | (with_reducible refine LeO.bind ?_ (fun _ => ?_))
   | exact ih0 _ _ _ _
   | exact ih1 _ _ _
   | exact LeO.none _
   | refine LeO.ite ?_ ?_
   | refine LeO.bind ?_ (fun _ => ?_)
theorem compact_RangeNodes.mono : ∀ a0 a1 a2 k, LeO (compact_RangeNodes.f k a0 a1 a2) (compact_RangeNodes.f (k + 1) a0 a1 a2) := by
 intro a0 a1 a2 k
 obtain ⟨ih0, ih1⟩ := compact_RangeNodes.mono_l k
 unfold compact_RangeNodes.f
 repeat' first
   | (with_reducible exact ih0 _ _ _ _)
   | (with_reducible exact ih1 _ _ _)
   | (with_reducible exact LeO.refl _)
   | (with_reducible exact LeO.none _)
   | (with_reducible refine LeO.ite ?_ ?_)
   | (with_reducible refine LeO.bind ?_ (fun _ => ?_))
   | exact ih0 _ _ _ _
   | exact ih1 _ _ _
   | exact LeO.none _
   | refine LeO.ite ?_ ?_
   | refine LeO.bind ?_ (fun _ => ?_)
set_option maxHeartbeats 8000000 in
set_option maxRecDepth 100000 in
theorem compact_RangeNodes.calls (k : Nat) (a0 : Int) (a1 : Int) (P2_ : Nat → Prop) (u9000_ : Value) (l2 : List (S52)) (r : List (S52)) (w0 w : World) (hT : TabOK w0) (hB : Below w0.heap.size w0 w) (ho2 : Kd.R k52 52 w w0.heap.size P2_ u9000_ l2) (h : compact_RangeNodes.f k a0 a1 l2 = some r) :
  Calls Tryd.prog 23 #[.int .u64 a0, .int .u64 a1, u9000_] w fun e w' => ∃ v0_ : Value, e = .returned (v0_) ∧ Kd.R k52 52 w' w0.heap.size (fun k_ => (P2_ k_ ∨ w.heap.size ≤ k_)) v0_ r ∧ Below w0.heap.size w0 w' ∧ Kept w w' (fun k_ => P2_ k_) := by
 have HT := Aside0.mk hT
 clear hT
 have HO2 := Aside0.mk (show Kd.R k52 52 w w0.heap.size (fun k_ => (P2_ k_ ∨ w.heap.size ≤ k_)) u9000_ l2 from Kd.R_mono ho2 (fun k_ hk => (.inl hk)))
 have HK := Aside0.mk (Kept.refl w (fun k_ => P2_ k_))
 have HW0 := Aside0.mk hB.size
 have HB := Aside0.mk hB
 clear hB
 have H : ((compact_Decompose.f a0 a1).bind fun bt126 => (compact_RangeNodes.l0 k l2 bt126.1 bt126.2 a0)) = some r := h
 clear h
 replace H := Option.bind_eq_some_iff.mp H
 obtain ⟨⟨t126, t127⟩, A40, H⟩ := H
 replace H : (compact_RangeNodes.l0 k l2 t126 t127 a0) = some r := H
 have A4 := Aside0.mk A40
 clear A40
 have H' := Aside0.mk H
 clear H
 go_enter Tryd.func23, Tryd.ntmps23
 go_wp2_with (first | ((with_reducible refine gate_callee (f := 27) rfl ?_); refine goesL_ (some 17) rfl rfl Tryd.func27 (by kernel_rfl) rfl #[.int .u64 a0, .int .u64 a1] rfl aV ?_; (with_reducible refine (compact_Decompose.calls a0 a1 t126 t127 _ A4.out).mono ?_); rintro e w' ⟨rfl, ⟨nd, rfl⟩⟩; refine ⟨_, rfl, ?_⟩))
 go_loopg [2, 7, 9] k (fun kq v2 v7 v9 w' => ∃ (x2_1 : List (S52)) (x7_1 : Int) (x9_1 : Int), v7 = .int .u64 x7_1 ∧ v9 = .int .u64 x9_1 ∧ Aside0 (compact_RangeNodes.l0 kq x2_1 x7_1 t127 x9_1 = some r) ∧ Aside0 (kq ≤ k) ∧ Aside0 (Kd.R k52 52 w' w0.heap.size (fun k_ => (P2_ k_ ∨ w.heap.size ≤ k_)) v2 x2_1) ∧ Aside0 (Kept w w' (fun k_ => P2_ k_)) ∧ Aside0 (Below w0.heap.size w0 w'))
 case atStart => exact ⟨(l2), (t126), (a0), (by first | rfl | (simp; done) | (simp [*]; done)), (by first | rfl | (simp; done) | (simp [*]; done)), H', ⟨Nat.le_refl _⟩, ⟨kR HO2.out⟩, ⟨by repeat (first | (with_reducible first | exact HK.out | apply Kept.alloc | apply Kept.drewN | apply Kept.drew) | exact HK.out)⟩, ⟨bB⟩⟩
 case round =>
  clear H'
  try clear c2
  try clear p2
  obtain ⟨x2_1, x7_1, x9_1, rfl, rfl, HA, HK1, HO_2, HK, HB⟩ := hrel
  cases gk with
  | zero => exact absurd HA.out (by simp [compact_RangeNodes.l0])
  | succ k1 =>
   have H := HA.out
   clear HA
   simp only [compact_RangeNodes.l0] at H
   by_cases c5 : x7_1 = 0
   ·rw [if_pos c5] at H
    have c5b0 : (x7_1 == 0) = true := beq_iff_eq.mpr c5
    have c5b1 : (x7_1 != 0) = false := bne_eq_false_iff_eq.mpr c5
    clear c5
    have H' := Aside0.mk H
    clear H
    go_wp2
    go_loopg [2, 8, 9] k1 (fun kq v2 v8 v9 w' => ∃ (x2_2 : List (S52)) (x8_2 : Int) (x9_2 : Int), v8 = .int .u64 x8_2 ∧ v9 = .int .u64 x9_2 ∧ Aside0 (compact_RangeNodes.l1 kq x2_2 x8_2 x9_2 = some r) ∧ Aside0 (kq ≤ k1) ∧ Aside0 (Kd.R k52 52 w' w0.heap.size (fun k_ => (P2_ k_ ∨ w.heap.size ≤ k_)) v2 x2_2) ∧ Aside0 (Kept w w' (fun k_ => P2_ k_)) ∧ Aside0 (Below w0.heap.size w0 w'))
    case atStart => exact ⟨(x2_1), (t127), (x9_1), (by first | rfl | (simp; done) | (simp [*]; done)), (by first | rfl | (simp; done) | (simp [*]; done)), H', ⟨Nat.le_refl _⟩, ⟨kR HO_2.out⟩, ⟨by repeat (first | (with_reducible first | exact HK.out | apply Kept.alloc | apply Kept.drewN | apply Kept.drew) | exact HK.out)⟩, ⟨bB⟩⟩
    case round =>
     clear H'
     try clear c2
     try clear p2
     try clear c5
     try clear c5b0
     try clear c5b1
     try clear p2
     obtain ⟨x2_2, x8_2, x9_2, rfl, rfl, HA, HK2, HO_2, HK, HB⟩ := hrel
     cases gk with
     | zero => exact absurd HA.out (by simp [compact_RangeNodes.l1])
     | succ k2 =>
      have H := HA.out
      clear HA
      simp only [compact_RangeNodes.l1] at H
      by_cases c6 : x8_2 = 0
      ·rw [if_pos c6] at H
       have c6b0 : (x8_2 == 0) = true := beq_iff_eq.mpr c6
       have c6b1 : (x8_2 != 0) = false := bne_eq_false_iff_eq.mpr c6
       clear c6
       obtain rfl := Option.some.inj H
       go_wp2
       go_ret
       exact ⟨_, by first | rfl | (simp [errW_none, errW_some] <;> rfl) | (simp [*, errW_none, errW_some] <;> rfl), by (with_reducible repeat (first | apply Kd.R_alloc | apply Kd.R_drewN | apply Kd.R_drew)); exact HO_2.out, by repeat (first | (with_reducible first | exact HB.out | apply below_alloc | apply pw_below_drewN | apply below_drew1) | exact HB.out), by repeat (first | (with_reducible first | exact HK.out | apply Kept.alloc | apply Kept.drewN | apply Kept.drew) | exact HK.out)⟩
      ·rw [if_neg c6] at H
       have c6b0 : (x8_2 == 0) = false := beq_eq_false_iff_ne.mpr c6
       have c6b1 : (x8_2 != 0) = true := bne_iff_ne.mpr c6
       replace H := Option.bind_eq_some_iff.mp H
       obtain ⟨t134, A70, H⟩ := H
       replace H : (if 0 ≤ (IntKind.u64.wrap ((IntKind.u64.wrap (t134)) - 1)) then ((compact_NewNodeID.f (IntKind.u64.wrap ((IntKind.u64.wrap (t134)) - 1)) (shr .u64 x9_2 (IntKind.u64.wrap ((IntKind.u64.wrap (t134)) - 1)))).bind fun bt135 => (if x2_2.length < 8796093022208 then (compact_RangeNodes.l1 k2 (x2_2 ++ [(⟨bt135.1, bt135.2⟩ : S52)]) (Go.bits .xor .u64 x8_2 (shl .u64 1 (IntKind.u64.wrap ((IntKind.u64.wrap (t134)) - 1)))) (IntKind.u64.wrap (x9_2 + (shl .u64 1 (IntKind.u64.wrap ((IntKind.u64.wrap (t134)) - 1)))))) else (none))) else (none)) = some r := H
       have A7 := Aside0.mk A70
       clear A70
       obtain ⟨ji8, hji8⟩ : ∃ j_ : Int, (IntKind.u64.wrap ((IntKind.u64.wrap (t134)) - 1)) = j_ := ⟨_, rfl⟩
       replace H : (if 0 ≤ (ji8) then ((compact_NewNodeID.f (ji8) (shr .u64 x9_2 (ji8))).bind fun bt135 => (if x2_2.length < 8796093022208 then (compact_RangeNodes.l1 k2 (x2_2 ++ [(⟨bt135.1, bt135.2⟩ : S52)]) (Go.bits .xor .u64 x8_2 (shl .u64 1 (ji8))) (IntKind.u64.wrap (x9_2 + (shl .u64 1 (ji8))))) else (none))) else (none)) = some r := by first | (rw [hji8] at H; exact H) | (simp only [hji8] at H ⊢; exact H)
       (try rw [hji8] at A7)
       by_cases c9 : 0 ≤ (ji8)
       ·rw [if_pos c9] at H
        have c9b0 := eq_true c9
        have c9b1 : decide (0 ≤ (ji8)) = true := decide_eq_true c9
        clear c9
        obtain ⟨ji10, hji10⟩ : ∃ j_ : Int, (shl .u64 1 (ji8)) = j_ := ⟨_, rfl⟩
        replace H : ((compact_NewNodeID.f (ji8) (shr .u64 x9_2 (ji8))).bind fun bt135 => (if x2_2.length < 8796093022208 then (compact_RangeNodes.l1 k2 (x2_2 ++ [(⟨bt135.1, bt135.2⟩ : S52)]) (Go.bits .xor .u64 x8_2 (ji10)) (IntKind.u64.wrap (x9_2 + (ji10)))) else (none))) = some r := by first | (rw [hji10] at H; exact H) | (simp only [hji10] at H ⊢; exact H)
        (try rw [hji10] at A7)
        have hji10_ : (IntKind.u64.wrap (1 * 2 ^ min (ji8).toNat 64)) = ji10 := hji10
        have hji10z : (ji8) ≤ 64 → (IntKind.u64.wrap (1 * 2 ^ (ji8).toNat)) = ji10 := shl_small hji10
        have hji10u : (IntKind.u64.wrap (2 ^ min (ji8).toNat 64)) = ji10 := by have h_ := hji10_; rw [Int.one_mul] at h_; exact h_
        have hji10v : (ji8) ≤ 64 → (IntKind.u64.wrap (2 ^ (ji8).toNat)) = ji10 := fun hle_ => by have h_ := hji10z hle_; rw [Int.one_mul] at h_; exact h_
        have c11b0 := eq_true (dA : 0 ≤ (ji8))
        obtain ⟨ji12, hji12⟩ : ∃ j_ : Int, (shr .u64 x9_2 (ji8)) = j_ := ⟨_, rfl⟩
        replace H : ((compact_NewNodeID.f (ji8) (ji12)).bind fun bt135 => (if x2_2.length < 8796093022208 then (compact_RangeNodes.l1 k2 (x2_2 ++ [(⟨bt135.1, bt135.2⟩ : S52)]) (Go.bits .xor .u64 x8_2 (ji10)) (IntKind.u64.wrap (x9_2 + (ji10)))) else (none))) = some r := by first | (rw [hji12] at H; exact H) | (simp only [hji12] at H ⊢; exact H)
        (try rw [hji12] at A7)
        have hji12_ : (x9_2 / 2 ^ min (ji8).toNat 64) = ji12 := hji12
        have hji12z : (ji8) ≤ 64 → (x9_2 / 2 ^ (ji8).toNat) = ji12 := shr_small hji12
        replace H := Option.bind_eq_some_iff.mp H
        obtain ⟨⟨t135, t136⟩, A130, H⟩ := H
        replace H : (if x2_2.length < 8796093022208 then (compact_RangeNodes.l1 k2 (x2_2 ++ [(⟨t135, t136⟩ : S52)]) (Go.bits .xor .u64 x8_2 (ji10)) (IntKind.u64.wrap (x9_2 + (ji10)))) else (none)) = some r := H
        have A13 := Aside0.mk A130
        clear A130
        by_cases c14 : x2_2.length < 8796093022208
        ·rw [if_pos c14] at H
         have LMc14 := Aside0.mk c14
         clear c14
         obtain ⟨y137, hy137⟩ : ∃ y_ : List (S52), y_ = (x2_2 ++ [(⟨t135, t136⟩ : S52)]) := ⟨_, rfl⟩
         replace H : (compact_RangeNodes.l1 k2 y137 (Go.bits .xor .u64 x8_2 (ji10)) (IntKind.u64.wrap (x9_2 + (ji10)))) = some r := by first | (rw [hy137]; with_reducible exact H) | (have H2_ := (Option.bind_some _ _).symm.trans H; rw [hy137]; with_reducible exact H2_) | (have H2_ := (Option.bind_some _ _).symm.trans H; with_reducible exact H2_) | with_reducible exact H | (rw [hy137]; exact H) | exact H
         have Ny137 := Aside0.mk hy137
         clear hy137
         have H' := Aside0.mk H
         clear H
         go_wp2_with (first | ((with_reducible refine gate_callee (f := 38) rfl ?_); refine goesL_ (some 51) rfl rfl Tryd.func38 (by kernel_rfl) rfl #[.int .u64 x8_2] rfl aV ?_; (with_reducible refine (bits_Len64.calls x8_2 t134 _ A7.out).mono ?_); rintro e w' ⟨rfl, ⟨nd, rfl⟩⟩; refine ⟨_, rfl, ?_⟩) | ((with_reducible refine gate_callee (f := 36) rfl ?_); refine goesL_ (some 61) rfl rfl Tryd.func36 (by kernel_rfl) rfl #[.int .u64 ji8, .int .u64 ji12] rfl (by (try simp only [List.map_toArray, List.map_cons, List.map_nil]); first | done | (simp only [hji12, hji8]; rfl) | rfl | (simp only [List.length_drop, List.length_take]; rfl)) ?_; (with_reducible refine (compact_NewNodeID.calls ji8 ji12 t135 t136 _ A13.out).mono ?_); rintro e w15 ⟨rfl, hb⟩; refine ⟨_, rfl, ?_⟩; have n0_ := Aside0.mk (Kd.R_below (kR HO_2.out) hb); have n1_ := Aside0.mk (Kept.below (S := (fun k_ => P2_ k_)) (by repeat (first | (with_reducible first | exact HK.out | apply Kept.alloc | apply Kept.drewN | apply Kept.drew) | exact HK.out)) hb); have n2_ := Aside0.mk (below_step bB hb); clear HO_2; clear HK; clear HB; have HO_2 := n0_; have HK := n1_; have HB := n2_; clear n0_ n1_ n2_; (try clear hb); (try clear hb2); (try clear hk); (try clear hi)) | ((with_reducible refine gate_builtin (b := .append) (xs := #[.tmp 56, .tmp 62]) rfl ?_); at_builtin; refine Kd.R_append k52 (w0 := w0) w0.heap.size rfl (.tmp 56) (.tmp 62) 51 52 (.agg #[(.int .u64 0), (.int .u64 0)]) 16 rfl Tryd.underlying51 info52 rfl (by decide) (by omega) u2 x2_2 (⟨t135, t136⟩ : S52) [.int .u64 t135, .int .u64 t136] (fun k_ => (P2_ k_ ∨ w.heap.size ≤ k_)) (fun _ => False) rfl rfl ?aP (fun _ hk => hk.elim) ?aF ?aO ?aB ?aS ?aL ?_; (case aP => exact k52_mkM _ _ _ (⟨t135, t136⟩ : S52)); (case aB => exact bB); (case aF => exact (fun k_ hk => (.inr (Nat.le_trans (by first | exact HK.out.1 | exact (show Kept w _ (fun k_ => P2_ k_) from by repeat (first | (with_reducible first | exact HK.out | apply Kept.alloc | apply Kept.drewN | apply Kept.drew) | exact HK.out)).1) hk)))); (case aO => exact (kR HO_2.out)); (case aS => exact (below_size bB)); (case aL => have := LMc14.out; omega); intro v138 w16 ho hb hg hat; rw [← Ny137.out] at ho; have n0_ := Aside0.mk (hb); have n1_ := Aside0.mk (Kept.of_grown (S := (fun k_ => P2_ k_)) hg (by repeat (first | (with_reducible first | exact HK.out | apply Kept.alloc | apply Kept.drewN | apply Kept.drew) | exact HK.out)) (fun k_ e_ => (HO_2.out.1 k_ e_))); have n2_ := Aside0.mk (ho); clear HB; clear HK; clear HO_2; have HB := n0_; have HK := n1_; have HO139 := n2_; clear n0_ n1_ n2_; clear ho hb hg hat))
         go_roundg k2
         case measure => have := HK1.out; have := HK2.out; omega
         case rel => exact ⟨(y137), (Go.bits .xor .u64 x8_2 (ji10)), (IntKind.u64.wrap (x9_2 + (ji10))), (by first | rfl | (simp; done) | (simp only [← hji10] <;> (first | rfl | simp)) | (simp [*]; done)), (by first | rfl | (simp; done) | (simp only [← hji10] <;> (first | rfl | simp)) | (simp [*]; done)), H', ⟨by have := HK1.out; have := HK2.out; omega⟩, ⟨kR HO139.out⟩, ⟨by repeat (first | (with_reducible first | exact HK.out | apply Kept.alloc | apply Kept.drewN | apply Kept.drew) | exact HK.out)⟩, ⟨bB⟩⟩
        ·rw [if_neg c14] at H
         exact absurd H (by simp)
       ·rw [if_neg c9] at H
        exact absurd H (by simp)
   ·rw [if_neg c5] at H
    have c5b0 : (x7_1 == 0) = false := beq_eq_false_iff_ne.mpr c5
    have c5b1 : (x7_1 != 0) = true := bne_iff_ne.mpr c5
    replace H := Option.bind_eq_some_iff.mp H
    obtain ⟨t128, A170, H⟩ := H
    replace H : (if 0 ≤ (IntKind.u64.wrap (t128)) then ((compact_NewNodeID.f (IntKind.u64.wrap (t128)) (shr .u64 x9_1 (IntKind.u64.wrap (t128)))).bind fun bt129 => (if x2_1.length < 8796093022208 then (compact_RangeNodes.l0 k1 (x2_1 ++ [(⟨bt129.1, bt129.2⟩ : S52)]) (Go.bits .xor .u64 x7_1 (shl .u64 1 (IntKind.u64.wrap (t128)))) t127 (IntKind.u64.wrap (x9_1 + (shl .u64 1 (IntKind.u64.wrap (t128)))))) else (none))) else (none)) = some r := H
    have A17 := Aside0.mk A170
    clear A170
    obtain ⟨ji18, hji18⟩ : ∃ j_ : Int, (IntKind.u64.wrap (t128)) = j_ := ⟨_, rfl⟩
    replace H : (if 0 ≤ (ji18) then ((compact_NewNodeID.f (ji18) (shr .u64 x9_1 (ji18))).bind fun bt129 => (if x2_1.length < 8796093022208 then (compact_RangeNodes.l0 k1 (x2_1 ++ [(⟨bt129.1, bt129.2⟩ : S52)]) (Go.bits .xor .u64 x7_1 (shl .u64 1 (ji18))) t127 (IntKind.u64.wrap (x9_1 + (shl .u64 1 (ji18))))) else (none))) else (none)) = some r := by first | (rw [hji18] at H; exact H) | (simp only [hji18] at H ⊢; exact H)
    (try rw [hji18] at A17)
    by_cases c19 : 0 ≤ (ji18)
    ·rw [if_pos c19] at H
     have c19b0 := eq_true c19
     have c19b1 : decide (0 ≤ (ji18)) = true := decide_eq_true c19
     clear c19
     obtain ⟨ji20, hji20⟩ : ∃ j_ : Int, (shl .u64 1 (ji18)) = j_ := ⟨_, rfl⟩
     replace H : ((compact_NewNodeID.f (ji18) (shr .u64 x9_1 (ji18))).bind fun bt129 => (if x2_1.length < 8796093022208 then (compact_RangeNodes.l0 k1 (x2_1 ++ [(⟨bt129.1, bt129.2⟩ : S52)]) (Go.bits .xor .u64 x7_1 (ji20)) t127 (IntKind.u64.wrap (x9_1 + (ji20)))) else (none))) = some r := by first | (rw [hji20] at H; exact H) | (simp only [hji20] at H ⊢; exact H)
     (try rw [hji20] at A17)
     have hji20_ : (IntKind.u64.wrap (1 * 2 ^ min (ji18).toNat 64)) = ji20 := hji20
     have hji20z : (ji18) ≤ 64 → (IntKind.u64.wrap (1 * 2 ^ (ji18).toNat)) = ji20 := shl_small hji20
     have hji20u : (IntKind.u64.wrap (2 ^ min (ji18).toNat 64)) = ji20 := by have h_ := hji20_; rw [Int.one_mul] at h_; exact h_
     have hji20v : (ji18) ≤ 64 → (IntKind.u64.wrap (2 ^ (ji18).toNat)) = ji20 := fun hle_ => by have h_ := hji20z hle_; rw [Int.one_mul] at h_; exact h_
     have c21b0 := eq_true (dA : 0 ≤ (ji18))
     obtain ⟨ji22, hji22⟩ : ∃ j_ : Int, (shr .u64 x9_1 (ji18)) = j_ := ⟨_, rfl⟩
     replace H : ((compact_NewNodeID.f (ji18) (ji22)).bind fun bt129 => (if x2_1.length < 8796093022208 then (compact_RangeNodes.l0 k1 (x2_1 ++ [(⟨bt129.1, bt129.2⟩ : S52)]) (Go.bits .xor .u64 x7_1 (ji20)) t127 (IntKind.u64.wrap (x9_1 + (ji20)))) else (none))) = some r := by first | (rw [hji22] at H; exact H) | (simp only [hji22] at H ⊢; exact H)
     (try rw [hji22] at A17)
     have hji22_ : (x9_1 / 2 ^ min (ji18).toNat 64) = ji22 := hji22
     have hji22z : (ji18) ≤ 64 → (x9_1 / 2 ^ (ji18).toNat) = ji22 := shr_small hji22
     replace H := Option.bind_eq_some_iff.mp H
     obtain ⟨⟨t129, t130⟩, A230, H⟩ := H
     replace H : (if x2_1.length < 8796093022208 then (compact_RangeNodes.l0 k1 (x2_1 ++ [(⟨t129, t130⟩ : S52)]) (Go.bits .xor .u64 x7_1 (ji20)) t127 (IntKind.u64.wrap (x9_1 + (ji20)))) else (none)) = some r := H
     have A23 := Aside0.mk A230
     clear A230
     by_cases c24 : x2_1.length < 8796093022208
     ·rw [if_pos c24] at H
      have LMc24 := Aside0.mk c24
      clear c24
      obtain ⟨y131, hy131⟩ : ∃ y_ : List (S52), y_ = (x2_1 ++ [(⟨t129, t130⟩ : S52)]) := ⟨_, rfl⟩
      replace H : (compact_RangeNodes.l0 k1 y131 (Go.bits .xor .u64 x7_1 (ji20)) t127 (IntKind.u64.wrap (x9_1 + (ji20)))) = some r := by first | (rw [hy131]; with_reducible exact H) | (have H2_ := (Option.bind_some _ _).symm.trans H; rw [hy131]; with_reducible exact H2_) | (have H2_ := (Option.bind_some _ _).symm.trans H; with_reducible exact H2_) | with_reducible exact H | (rw [hy131]; exact H) | exact H
      have Ny131 := Aside0.mk hy131
      clear hy131
      have H' := Aside0.mk H
      clear H
      go_wp2_with (first | ((with_reducible refine gate_callee (f := 37) rfl ?_); refine goesL_ (some 30) rfl rfl Tryd.func37 (by kernel_rfl) rfl #[.int .u64 x7_1] rfl aV ?_; (with_reducible refine (bits_TrailingZeros64.calls x7_1 t128 _ ?side1 A17.out).mono ?_); (case side1 => exact TabOK.below HT.out bB); rintro e w' ⟨rfl, ⟨nd, rfl⟩⟩; refine ⟨_, rfl, ?_⟩) | ((with_reducible refine gate_callee (f := 36) rfl ?_); refine goesL_ (some 39) rfl rfl Tryd.func36 (by kernel_rfl) rfl #[.int .u64 ji18, .int .u64 ji22] rfl (by (try simp only [List.map_toArray, List.map_cons, List.map_nil]); first | done | (simp only [hji18, hji22]; rfl) | rfl | (simp only [List.length_drop, List.length_take]; rfl)) ?_; (with_reducible refine (compact_NewNodeID.calls ji18 ji22 t129 t130 _ A23.out).mono ?_); rintro e w25 ⟨rfl, hb⟩; refine ⟨_, rfl, ?_⟩; have n0_ := Aside0.mk (Kd.R_below (kR HO_2.out) hb); have n1_ := Aside0.mk (Kept.below (S := (fun k_ => P2_ k_)) (by repeat (first | (with_reducible first | exact HK.out | apply Kept.alloc | apply Kept.drewN | apply Kept.drew) | exact HK.out)) hb); have n2_ := Aside0.mk (below_step bB hb); clear HO_2; clear HK; clear HB; have HO_2 := n0_; have HK := n1_; have HB := n2_; clear n0_ n1_ n2_; (try clear hb); (try clear hb2); (try clear hk); (try clear hi)) | ((with_reducible refine gate_builtin (b := .append) (xs := #[.tmp 34, .tmp 40]) rfl ?_); at_builtin; refine Kd.R_append k52 (w0 := w0) w0.heap.size rfl (.tmp 34) (.tmp 40) 51 52 (.agg #[(.int .u64 0), (.int .u64 0)]) 16 rfl Tryd.underlying51 info52 rfl (by decide) (by omega) u2 x2_1 (⟨t129, t130⟩ : S52) [.int .u64 t129, .int .u64 t130] (fun k_ => (P2_ k_ ∨ w.heap.size ≤ k_)) (fun _ => False) rfl rfl ?aP (fun _ hk => hk.elim) ?aF ?aO ?aB ?aS ?aL ?_; (case aP => exact k52_mkM _ _ _ (⟨t129, t130⟩ : S52)); (case aB => exact bB); (case aF => exact (fun k_ hk => (.inr (Nat.le_trans (by first | exact HK.out.1 | exact (show Kept w _ (fun k_ => P2_ k_) from by repeat (first | (with_reducible first | exact HK.out | apply Kept.alloc | apply Kept.drewN | apply Kept.drew) | exact HK.out)).1) hk)))); (case aO => exact (kR HO_2.out)); (case aS => exact (below_size bB)); (case aL => have := LMc24.out; omega); intro v132 w26 ho hb hg hat; rw [← Ny131.out] at ho; have n0_ := Aside0.mk (hb); have n1_ := Aside0.mk (Kept.of_grown (S := (fun k_ => P2_ k_)) hg (by repeat (first | (with_reducible first | exact HK.out | apply Kept.alloc | apply Kept.drewN | apply Kept.drew) | exact HK.out)) (fun k_ e_ => (HO_2.out.1 k_ e_))); have n2_ := Aside0.mk (ho); clear HB; clear HK; clear HO_2; have HB := n0_; have HK := n1_; have HO133 := n2_; clear n0_ n1_ n2_; clear ho hb hg hat))
      go_roundg k1
      case measure => have := HK1.out; omega
      case rel => exact ⟨(y131), (Go.bits .xor .u64 x7_1 (ji20)), (IntKind.u64.wrap (x9_1 + (ji20))), (by first | rfl | (simp; done) | (simp only [← hji20] <;> (first | rfl | simp)) | (simp [*]; done)), (by first | rfl | (simp; done) | (simp only [← hji20] <;> (first | rfl | simp)) | (simp [*]; done)), H', ⟨by have := HK1.out; omega⟩, ⟨kR HO133.out⟩, ⟨by repeat (first | (with_reducible first | exact HK.out | apply Kept.alloc | apply Kept.drewN | apply Kept.drew) | exact HK.out)⟩, ⟨bB⟩⟩
     ·rw [if_neg c24] at H
      exact absurd H (by simp)
    ·rw [if_neg c19] at H
     exact absurd H (by simp)


/-! ### compact_NodeID_Coverage: function 24 -/
def compact_NodeID_Coverage.f (a0_0 : Int) (a0_1 : Int) : Option (Int × Int) := if 0 ≤ a0_0 then (some (shl .u64 a0_1 a0_0, shl .u64 (IntKind.u64.wrap (a0_1 + 1)) a0_0)) else (none)
set_option maxHeartbeats 8000000 in
set_option maxRecDepth 100000 in
theorem compact_NodeID_Coverage.calls (a0_0 : Int) (a0_1 : Int) (r1 : Int) (r2 : Int) (w : World) (h : compact_NodeID_Coverage.f a0_0 a0_1 = some (r1, r2)) :
  Calls Tryd.prog 24 #[.agg #[.int .u64 a0_0, .int .u64 a0_1]] w fun e w' => e = .returned (.tuple #[.int .u64 r1, .int .u64 r2]) ∧ Below w.heap.size w w' := by
 have hu52 := Tryd.underlying52
 have HB := Aside0.mk (Below.refl w.heap.size w)
 have H : (if 0 ≤ a0_0 then (some (shl .u64 a0_1 a0_0, shl .u64 (IntKind.u64.wrap (a0_1 + 1)) a0_0)) else (none)) = some (r1, r2) := h
 clear h
 by_cases c2 : 0 ≤ a0_0
 ·rw [if_pos c2] at H
  have c2b0 := eq_true c2
  have c2b1 : decide (0 ≤ a0_0) = true := decide_eq_true c2
  clear c2
  obtain ⟨ji3, hji3⟩ : ∃ j_ : Int, (shl .u64 a0_1 a0_0) = j_ := ⟨_, rfl⟩
  replace H : (some (ji3, shl .u64 (IntKind.u64.wrap (a0_1 + 1)) a0_0)) = some (r1, r2) := by first | (rw [hji3] at H; exact H) | (simp only [hji3] at H ⊢; exact H)
  have hji3_ : (IntKind.u64.wrap (a0_1 * 2 ^ min a0_0.toNat 64)) = ji3 := hji3
  have hji3z : a0_0 ≤ 64 → (IntKind.u64.wrap (a0_1 * 2 ^ a0_0.toNat)) = ji3 := shl_small hji3
  have c4b0 := eq_true (dA : 0 ≤ a0_0)
  obtain ⟨ji5, hji5⟩ : ∃ j_ : Int, (shl .u64 (IntKind.u64.wrap (a0_1 + 1)) a0_0) = j_ := ⟨_, rfl⟩
  replace H : (some (ji3, ji5)) = some (r1, r2) := by first | (rw [hji5] at H; exact H) | (simp only [hji5] at H ⊢; exact H)
  have hji5_ : (IntKind.u64.wrap ((IntKind.u64.wrap (a0_1 + 1)) * 2 ^ min a0_0.toNat 64)) = ji5 := hji5
  have hji5z : a0_0 ≤ 64 → (IntKind.u64.wrap ((IntKind.u64.wrap (a0_1 + 1)) * 2 ^ a0_0.toNat)) = ji5 := shl_small hji5
  simp only [Option.some.injEq, Prod.mk.injEq] at H
  obtain ⟨rfl, rfl⟩ := H
  go_enter Tryd.func24, Tryd.ntmps24
  go_wp2_with (first | ((with_reducible refine gate_dst (N := 1) rfl ?_); refine box_event ?hg (N := 1) ?hd (cs := #[.int .u64 a0_0, .int .u64 a0_1]) (t := 52) ?hr ?_; (case hd => rfl); (case hg => rfl); (case hr => first | (go_simp; done) | (go_simp; rfl)); intro gb140 hg w6 hbox hb; have n0_ := Aside0.mk (below_step bB hb); have n1_ := Aside0.mk (hbox); have n2_ := Aside0.mk ((by rw [hg]; exact (below_size bB) : w.heap.size ≤ gb140)); have n3_ := Aside0.mk ((by rw [hg]; exact (below_size bB) : w.heap.size ≤ gb140)); clear HB; have HB := n0_; have BK140 := n1_; have GW140 := n2_; have GE140 := n3_; clear n0_ n1_ n2_ n3_; clear hb hbox hg; have hcz7_0 : w6.cell? ⟨gb140, 0, none⟩ = some (.int .u64 a0_0) := (blk_cell BK140.out 0).trans rfl; have hcz7_1 : w6.cell? ⟨gb140, 1, none⟩ = some (.int .u64 a0_1) := (blk_cell BK140.out 1).trans rfl; have hfz7_0 := blk_frozen BK140.out 0; have hfz7_1 := blk_frozen BK140.out 1))
  repeat (go_quiet (first | ((with_reducible refine gate_dst (N := 1) rfl ?_); refine box_event ?hg (N := 1) ?hd (cs := #[.int .u64 a0_0, .int .u64 a0_1]) (t := 52) ?hr ?_; (case hd => rfl); (case hg => rfl); (case hr => first | (go_simp; done) | (go_simp; rfl)); intro gb140 hg w6 hbox hb; have n0_ := Aside0.mk (below_step bB hb); have n1_ := Aside0.mk (hbox); have n2_ := Aside0.mk ((by rw [hg]; exact (below_size bB) : w.heap.size ≤ gb140)); have n3_ := Aside0.mk ((by rw [hg]; exact (below_size bB) : w.heap.size ≤ gb140)); clear HB; have HB := n0_; have BK140 := n1_; have GW140 := n2_; have GE140 := n3_; clear n0_ n1_ n2_ n3_; clear hb hbox hg; have hcz7_0 : w6.cell? ⟨gb140, 0, none⟩ = some (.int .u64 a0_0) := (blk_cell BK140.out 0).trans rfl; have hcz7_1 : w6.cell? ⟨gb140, 1, none⟩ = some (.int .u64 a0_1) := (blk_cell BK140.out 1).trans rfl; have hfz7_0 := blk_frozen BK140.out 0; have hfz7_1 := blk_frozen BK140.out 1)); try go_wp2_with (first | ((with_reducible refine gate_dst (N := 1) rfl ?_); refine box_event ?hg (N := 1) ?hd (cs := #[.int .u64 a0_0, .int .u64 a0_1]) (t := 52) ?hr ?_; (case hd => rfl); (case hg => rfl); (case hr => first | (go_simp; done) | (go_simp; rfl)); intro gb140 hg w6 hbox hb; have n0_ := Aside0.mk (below_step bB hb); have n1_ := Aside0.mk (hbox); have n2_ := Aside0.mk ((by rw [hg]; exact (below_size bB) : w.heap.size ≤ gb140)); have n3_ := Aside0.mk ((by rw [hg]; exact (below_size bB) : w.heap.size ≤ gb140)); clear HB; have HB := n0_; have BK140 := n1_; have GW140 := n2_; have GE140 := n3_; clear n0_ n1_ n2_ n3_; clear hb hbox hg; have hcz7_0 : w6.cell? ⟨gb140, 0, none⟩ = some (.int .u64 a0_0) := (blk_cell BK140.out 0).trans rfl; have hcz7_1 : w6.cell? ⟨gb140, 1, none⟩ = some (.int .u64 a0_1) := (blk_cell BK140.out 1).trans rfl; have hfz7_0 := blk_frozen BK140.out 0; have hfz7_1 := blk_frozen BK140.out 1)))
  go_ret2
  exact ⟨by first | rfl | (simp [errW_none, errW_some] <;> rfl) | (simp only [← hji3, ← hji5]; first | rfl | (simp [errW_none, errW_some] <;> rfl)) | (simp [*, errW_none, errW_some] <;> rfl), bB⟩
 ·rw [if_neg c2] at H
  exact absurd H (by simp)


/-! ### compact_NodeID_Sibling: function 26 -/
def compact_NodeID_Sibling.f (a0_0 : Int) (a0_1 : Int) : Option (Int × Int) := (compact_NewNodeID.f a0_0 (Go.bits .xor .u64 a0_1 1)).bind fun bt143 => (some (bt143.1, bt143.2))
set_option maxHeartbeats 8000000 in
set_option maxRecDepth 100000 in
theorem compact_NodeID_Sibling.calls (a0_0 : Int) (a0_1 : Int) (r1 : Int) (r2 : Int) (w : World) (h : compact_NodeID_Sibling.f a0_0 a0_1 = some (r1, r2)) :
  Calls Tryd.prog 26 #[.agg #[.int .u64 a0_0, .int .u64 a0_1]] w fun e w' => e = .returned (.agg #[.int .u64 r1, .int .u64 r2]) ∧ Below w.heap.size w w' := by
 have hu52 := Tryd.underlying52
 have HB := Aside0.mk (Below.refl w.heap.size w)
 have H : ((compact_NewNodeID.f a0_0 (Go.bits .xor .u64 a0_1 1)).bind fun bt143 => (some (bt143.1, bt143.2))) = some (r1, r2) := h
 clear h
 replace H := Option.bind_eq_some_iff.mp H
 obtain ⟨⟨t143, t144⟩, A20, H⟩ := H
 replace H : (some (t143, t144)) = some (r1, r2) := H
 have A2 := Aside0.mk A20
 clear A20
 simp only [Option.some.injEq, Prod.mk.injEq] at H
 obtain ⟨rfl, rfl⟩ := H
 go_enter Tryd.func26, Tryd.ntmps26
 go_wp2_with (first | ((with_reducible refine gate_dst (N := 1) rfl ?_); refine box_event ?hg (N := 1) ?hd (cs := #[.int .u64 a0_0, .int .u64 a0_1]) (t := 52) ?hr ?_; (case hd => rfl); (case hg => rfl); (case hr => first | (go_simp; done) | (go_simp; rfl)); intro gb141 hg w3 hbox hb; have n0_ := Aside0.mk (below_step bB hb); have n1_ := Aside0.mk (hbox); have n2_ := Aside0.mk ((by rw [hg]; exact (below_size bB) : w.heap.size ≤ gb141)); have n3_ := Aside0.mk ((by rw [hg]; exact (below_size bB) : w.heap.size ≤ gb141)); clear HB; have HB := n0_; have BK141 := n1_; have GW141 := n2_; have GE141 := n3_; clear n0_ n1_ n2_ n3_; clear hb hbox hg) | ((with_reducible refine gate_dst (N := 2) rfl ?_); refine box_event ?hg (N := 2) ?hd (cs := #[.int .u64 0, .int .u64 0]) (t := 52) ?hr ?_; (case hd => rfl); (case hg => rfl); (case hr => first | (go_simp; done) | (go_simp; rfl)); intro gb142 hg w4 hbox hb; have n0_ := Aside0.mk (blk_below (g := gb141) (o := .cells #[.int .u64 a0_0, .int .u64 a0_1] 52 (0, 0)) (kB BK141.out) hb); have n1_ := Aside0.mk (below_step bB hb); have n2_ := Aside0.mk (hbox); have n3_ := Aside0.mk ((by rw [hg]; exact (below_size bB) : w.heap.size ≤ gb142)); have n4_ := Aside0.mk ((by rw [hg]; exact (below_size bB) : w.heap.size ≤ gb142)); have n5_ := Aside0.mk ((by rw [hg]; exact Nat.ne_of_lt (blk_lt (g := gb141) (o := .cells #[.int .u64 a0_0, .int .u64 a0_1] 52 (0, 0)) (kB BK141.out)) : gb141 ≠ gb142)); have n6_ := Aside0.mk ((by rw [hg]; exact Nat.ne_of_gt (blk_lt (g := gb141) (o := .cells #[.int .u64 a0_0, .int .u64 a0_1] 52 (0, 0)) (kB BK141.out)) : gb142 ≠ gb141)); clear BK141; clear HB; have BK141 := n0_; have HB := n1_; have BK142 := n2_; have GW142 := n3_; have GE142 := n4_; have NB141_142 := n5_; have NB142_141 := n6_; clear n0_ n1_ n2_ n3_ n4_ n5_ n6_; clear hb hbox hg; have hnb5 := NB141_142.out; have hnc5 := NB142_141.out; have hcz6_0 : w4.cell? ⟨gb141, 0, none⟩ = some (.int .u64 a0_0) := (blk_cell BK141.out 0).trans rfl; have hcz6_1 : w4.cell? ⟨gb141, 1, none⟩ = some (.int .u64 a0_1) := (blk_cell BK141.out 1).trans rfl; have hfz6_0 := blk_frozen BK141.out 0; have hfz6_1 := blk_frozen BK141.out 1) | ((with_reducible refine gate_callee (f := 36) rfl ?_); refine goesL_ (some 8) rfl rfl Tryd.func36 (by kernel_rfl) rfl #[.int .u64 a0_0, .int .u64 (Go.bits .xor .u64 a0_1 1)] rfl aV ?_; (with_reducible refine (compact_NewNodeID.calls a0_0 (Go.bits .xor .u64 a0_1 1) t143 t144 _ A2.out).mono ?_); rintro e w7 ⟨rfl, hb⟩; refine ⟨_, rfl, ?_⟩; have n0_ := Aside0.mk (blk_below (g := gb141) (o := .cells #[.int .u64 a0_0, .int .u64 a0_1] 52 (0, 0)) (kB BK141.out) hb); have n1_ := Aside0.mk (blk_below (g := gb142) (o := .cells #[.int .u64 0, .int .u64 0] 52 (0, 0)) (kB BK142.out) hb); have n2_ := Aside0.mk (below_step bB hb); clear BK141; clear BK142; clear HB; have BK141 := n0_; have BK142 := n1_; have HB := n2_; clear n0_ n1_ n2_; (try clear hb); (try clear hb2); (try clear hk); (try clear hi); have hcz8_0 : w7.cell? ⟨gb142, 0, none⟩ = some (.int .u64 0) := (blk_cell BK142.out 0).trans rfl; have hcz8_1 : w7.cell? ⟨gb142, 1, none⟩ = some (.int .u64 0) := (blk_cell BK142.out 1).trans rfl; have hfz8_0 := blk_frozen BK142.out 0; have hfz8_1 := blk_frozen BK142.out 1))
 refine bodyPost_ret (results_cell_row rfl _ _ gb142 52 #[.int .u64 t143, .int .u64 t144] (0, 0) _ rfl (by (with_reducible repeat (first | refine blk_drewN ?_ _ | refine blk_drew ?_ | refine blk_alloc ?_ _)); refine blk_put (cs := #[.int .u64 t143, .int .u64 0]) ?_ 1 _ rfl; (with_reducible repeat (first | refine blk_drewN ?_ _ | refine blk_drew ?_ | refine blk_alloc ?_ _)); refine blk_put (cs := #[.int .u64 0, .int .u64 0]) ?_ 0 _ rfl; (with_reducible repeat (first | refine blk_drewN ?_ _ | refine blk_drew ?_ | refine blk_alloc ?_ _)); exact BK142.out) Tryd.underlying52 rfl (by kernel_rfl)) rfl ?_
 exact ⟨by first | rfl | (simp [errW_none, errW_some] <;> rfl) | (simp [*, errW_none, errW_some] <;> rfl), bB⟩


/-! ### bits_OnesCount64: function 41 -/
theorem bits_OnesCount64.walk (x1 x2 x3 x4 x5 x6 r x : Int) (w : World)
  (e1 : IntKind.u64.wrap (Go.bits .and .u64 (x / 2) 6148914691236517205 + Go.bits .and .u64 x 6148914691236517205) = x1)
  (e2 : IntKind.u64.wrap (Go.bits .and .u64 (x1 / 4) 3689348814741910323 + Go.bits .and .u64 x1 3689348814741910323) = x2)
  (e3 : Go.bits .and .u64 (IntKind.u64.wrap (x2 / 16 + x2)) 1085102592571150095 = x3)
  (e4 : IntKind.u64.wrap (x3 + x3 / 256) = x4) (e5 : IntKind.u64.wrap (x4 + x4 / 65536) = x5) (e6 : IntKind.u64.wrap (x5 + x5 / 4294967296) = x6)
  (e7 : Go.bits .and .i64 (wrap64 x6) 127 = r) :
  Calls Tryd.prog 41 #[.int .u64 x] w fun e w' => e = .returned (.int .i64 r) ∧ w' = w := by
 go_enter Tryd.func41, Tryd.ntmps41
 go_wp2
 go_ret
 exact ⟨rfl, rfl⟩
def bits_OnesCount64.f (a0 : Int) : Option (Int) := if 0 ≤ a0 ∧ a0 ≤ 18446744073709551615 then some (Lib.onesCount a0.toNat : Int) else none
theorem bits_OnesCount64.calls (a0 : Int) (r : Int) (w : World) (h : bits_OnesCount64.f a0 = some r) :
  Calls Tryd.prog 41 #[.int .u64 a0] w fun e w' => e = .returned (.int .i64 r) ∧ Drawn0 w w' := by
 unfold bits_OnesCount64.f at h
 split at h
 ·rename_i hc
  injection h with h
  obtain ⟨x, rfl⟩ : ∃ x : Nat, a0 = (x : Int) := ⟨a0.toNat, by omega⟩
  rw [Int.toNat_natCast] at h
  refine (bits_OnesCount64.walk _ _ _ _ _ _ r x w rfl rfl rfl rfl rfl rfl (by rw [← h]; exact Ones.swar x (by omega))).mono ?_
  rintro e w' ⟨rfl, rfl⟩
  exact ⟨rfl, Drawn0.refl _⟩
 ·cases h


/-! ### compact_RangeSize: function 30 -/
def compact_RangeSize.f (a0 : Int) (a1 : Int) : Option (Int) := (compact_Decompose.f a0 a1).bind fun bt145 => ((bits_OnesCount64.f bt145.1).bind fun t147 => ((bits_OnesCount64.f bt145.2).bind fun t148 => (some (wrap64 (t147 + t148)))))
set_option maxHeartbeats 8000000 in
set_option maxRecDepth 100000 in
theorem compact_RangeSize.calls (a0 : Int) (a1 : Int) (r : Int) (w : World) (h : compact_RangeSize.f a0 a1 = some r) :
  Calls Tryd.prog 30 #[.int .u64 a0, .int .u64 a1] w fun e w' => e = .returned (.int .i64 r) ∧ Drawn0 w w' := by
 have H : ((compact_Decompose.f a0 a1).bind fun bt145 => ((bits_OnesCount64.f bt145.1).bind fun t147 => ((bits_OnesCount64.f bt145.2).bind fun t148 => (some (wrap64 (t147 + t148)))))) = some r := h
 clear h
 replace H := Option.bind_eq_some_iff.mp H
 obtain ⟨⟨t145, t146⟩, A30, H⟩ := H
 replace H : ((bits_OnesCount64.f t145).bind fun t147 => ((bits_OnesCount64.f t146).bind fun t148 => (some (wrap64 (t147 + t148))))) = some r := H
 have A3 := Aside0.mk A30
 clear A30
 replace H := Option.bind_eq_some_iff.mp H
 obtain ⟨t147, A40, H⟩ := H
 replace H : ((bits_OnesCount64.f t146).bind fun t148 => (some (wrap64 (t147 + t148)))) = some r := H
 have A4 := Aside0.mk A40
 clear A40
 replace H := Option.bind_eq_some_iff.mp H
 obtain ⟨t148, A50, H⟩ := H
 replace H : (some (wrap64 (t147 + t148))) = some r := H
 have A5 := Aside0.mk A50
 clear A50
 obtain rfl := Option.some.inj H
 go_enter Tryd.func30, Tryd.ntmps30
 go_wp2_with (first | ((with_reducible refine gate_callee (f := 27) rfl ?_); refine goesL_ (some 10) rfl rfl Tryd.func27 (by kernel_rfl) rfl #[.int .u64 a0, .int .u64 a1] rfl aV ?_; (with_reducible refine (compact_Decompose.calls a0 a1 t145 t146 _ A3.out).mono ?_); rintro e w' ⟨rfl, ⟨nd, rfl⟩⟩; refine ⟨_, rfl, ?_⟩) | ((with_reducible refine gate_callee (f := 41) rfl ?_); refine goesL_ (some 14) rfl rfl Tryd.func41 (by kernel_rfl) rfl #[.int .u64 t145] rfl aV ?_; (with_reducible refine (bits_OnesCount64.calls t145 t147 _ A4.out).mono ?_); rintro e w' ⟨rfl, ⟨nd, rfl⟩⟩; refine ⟨_, rfl, ?_⟩) | ((with_reducible refine gate_callee (f := 41) rfl ?_); refine goesL_ (some 16) rfl rfl Tryd.func41 (by kernel_rfl) rfl #[.int .u64 t146] rfl aV ?_; (with_reducible refine (bits_OnesCount64.calls t146 t148 _ A5.out).mono ?_); rintro e w' ⟨rfl, ⟨nd, rfl⟩⟩; refine ⟨_, rfl, ?_⟩))
 go_ret
 exact ⟨by first | rfl | (simp; done) | (simp [*]; done), by repeat (first | exact Drawn0.refl _ | apply Drawn0.step)⟩


/-! ### compact_NodeID_Parent: function 46 -/
def compact_NodeID_Parent.f (a0_0 : Int) (a0_1 : Int) : Option (Int × Int) := (compact_NewNodeID.f (IntKind.u64.wrap (a0_0 + 1)) (a0_1 / 2)).bind fun bt151 => (some (bt151.1, bt151.2))
set_option maxHeartbeats 8000000 in
set_option maxRecDepth 100000 in
theorem compact_NodeID_Parent.calls (a0_0 : Int) (a0_1 : Int) (r1 : Int) (r2 : Int) (w : World) (h : compact_NodeID_Parent.f a0_0 a0_1 = some (r1, r2)) :
  Calls Tryd.prog 46 #[.agg #[.int .u64 a0_0, .int .u64 a0_1]] w fun e w' => e = .returned (.agg #[.int .u64 r1, .int .u64 r2]) ∧ Below w.heap.size w w' := by
 have hu52 := Tryd.underlying52
 have HB := Aside0.mk (Below.refl w.heap.size w)
 have H : ((compact_NewNodeID.f (IntKind.u64.wrap (a0_0 + 1)) (a0_1 / 2)).bind fun bt151 => (some (bt151.1, bt151.2))) = some (r1, r2) := h
 clear h
 replace H := Option.bind_eq_some_iff.mp H
 obtain ⟨⟨t151, t152⟩, A20, H⟩ := H
 replace H : (some (t151, t152)) = some (r1, r2) := H
 have A2 := Aside0.mk A20
 clear A20
 simp only [Option.some.injEq, Prod.mk.injEq] at H
 obtain ⟨rfl, rfl⟩ := H
 go_enter Tryd.func46, Tryd.ntmps46
 go_wp2_with (first | ((with_reducible refine gate_dst (N := 1) rfl ?_); refine box_event ?hg (N := 1) ?hd (cs := #[.int .u64 a0_0, .int .u64 a0_1]) (t := 52) ?hr ?_; (case hd => rfl); (case hg => rfl); (case hr => first | (go_simp; done) | (go_simp; rfl)); intro gb149 hg w3 hbox hb; have n0_ := Aside0.mk (below_step bB hb); have n1_ := Aside0.mk (hbox); have n2_ := Aside0.mk ((by rw [hg]; exact (below_size bB) : w.heap.size ≤ gb149)); have n3_ := Aside0.mk ((by rw [hg]; exact (below_size bB) : w.heap.size ≤ gb149)); clear HB; have HB := n0_; have BK149 := n1_; have GW149 := n2_; have GE149 := n3_; clear n0_ n1_ n2_ n3_; clear hb hbox hg) | ((with_reducible refine gate_dst (N := 2) rfl ?_); refine box_event ?hg (N := 2) ?hd (cs := #[.int .u64 0, .int .u64 0]) (t := 52) ?hr ?_; (case hd => rfl); (case hg => rfl); (case hr => first | (go_simp; done) | (go_simp; rfl)); intro gb150 hg w4 hbox hb; have n0_ := Aside0.mk (blk_below (g := gb149) (o := .cells #[.int .u64 a0_0, .int .u64 a0_1] 52 (0, 0)) (kB BK149.out) hb); have n1_ := Aside0.mk (below_step bB hb); have n2_ := Aside0.mk (hbox); have n3_ := Aside0.mk ((by rw [hg]; exact (below_size bB) : w.heap.size ≤ gb150)); have n4_ := Aside0.mk ((by rw [hg]; exact (below_size bB) : w.heap.size ≤ gb150)); have n5_ := Aside0.mk ((by rw [hg]; exact Nat.ne_of_lt (blk_lt (g := gb149) (o := .cells #[.int .u64 a0_0, .int .u64 a0_1] 52 (0, 0)) (kB BK149.out)) : gb149 ≠ gb150)); have n6_ := Aside0.mk ((by rw [hg]; exact Nat.ne_of_gt (blk_lt (g := gb149) (o := .cells #[.int .u64 a0_0, .int .u64 a0_1] 52 (0, 0)) (kB BK149.out)) : gb150 ≠ gb149)); clear BK149; clear HB; have BK149 := n0_; have HB := n1_; have BK150 := n2_; have GW150 := n3_; have GE150 := n4_; have NB149_150 := n5_; have NB150_149 := n6_; clear n0_ n1_ n2_ n3_ n4_ n5_ n6_; clear hb hbox hg; have hnb5 := NB149_150.out; have hnc5 := NB150_149.out; have hcz6_0 : w4.cell? ⟨gb149, 0, none⟩ = some (.int .u64 a0_0) := (blk_cell BK149.out 0).trans rfl; have hcz6_1 : w4.cell? ⟨gb149, 1, none⟩ = some (.int .u64 a0_1) := (blk_cell BK149.out 1).trans rfl; have hfz6_0 := blk_frozen BK149.out 0; have hfz6_1 := blk_frozen BK149.out 1) | ((with_reducible refine gate_callee (f := 36) rfl ?_); refine goesL_ (some 9) rfl rfl Tryd.func36 (by kernel_rfl) rfl #[.int .u64 (IntKind.u64.wrap (a0_0 + 1)), .int .u64 (a0_1 / 2)] rfl aV ?_; (with_reducible refine (compact_NewNodeID.calls (IntKind.u64.wrap (a0_0 + 1)) (a0_1 / 2) t151 t152 _ A2.out).mono ?_); rintro e w7 ⟨rfl, hb⟩; refine ⟨_, rfl, ?_⟩; have n0_ := Aside0.mk (blk_below (g := gb149) (o := .cells #[.int .u64 a0_0, .int .u64 a0_1] 52 (0, 0)) (kB BK149.out) hb); have n1_ := Aside0.mk (blk_below (g := gb150) (o := .cells #[.int .u64 0, .int .u64 0] 52 (0, 0)) (kB BK150.out) hb); have n2_ := Aside0.mk (below_step bB hb); clear BK149; clear BK150; clear HB; have BK149 := n0_; have BK150 := n1_; have HB := n2_; clear n0_ n1_ n2_; (try clear hb); (try clear hb2); (try clear hk); (try clear hi); have hcz8_0 : w7.cell? ⟨gb150, 0, none⟩ = some (.int .u64 0) := (blk_cell BK150.out 0).trans rfl; have hcz8_1 : w7.cell? ⟨gb150, 1, none⟩ = some (.int .u64 0) := (blk_cell BK150.out 1).trans rfl; have hfz8_0 := blk_frozen BK150.out 0; have hfz8_1 := blk_frozen BK150.out 1))
 refine bodyPost_ret (results_cell_row rfl _ _ gb150 52 #[.int .u64 t151, .int .u64 t152] (0, 0) _ rfl (by (with_reducible repeat (first | refine blk_drewN ?_ _ | refine blk_drew ?_ | refine blk_alloc ?_ _)); refine blk_put (cs := #[.int .u64 t151, .int .u64 0]) ?_ 1 _ rfl; (with_reducible repeat (first | refine blk_drewN ?_ _ | refine blk_drew ?_ | refine blk_alloc ?_ _)); refine blk_put (cs := #[.int .u64 0, .int .u64 0]) ?_ 0 _ rfl; (with_reducible repeat (first | refine blk_drewN ?_ _ | refine blk_drew ?_ | refine blk_alloc ?_ _)); exact BK150.out) Tryd.underlying52 rfl (by kernel_rfl)) rfl ?_
 exact ⟨by first | rfl | (simp [errW_none, errW_some] <;> rfl) | (simp [*, errW_none, errW_some] <;> rfl), bB⟩


/-! ### proof_reverse: function 47 -/
def proof_reverse.l0 : Nat → List (S52) → Int → Int → Option ((List (S52)))
 | 0, _, _, _ => none
 | k + 1, x0, x2, x3 => if x2 < x3 then (if 0 ≤ x3 then (if x3 < (x0.length : Int) then (if 0 ≤ x2 then (if x2 < (x0.length : Int) then (proof_reverse.l0 k ((x0.set (x2 : Int).toNat (⟨(rd_T52 x0 x3).f0, (rd_T52 x0 x3).f1⟩ : S52)).set (x3 : Int).toNat (⟨(rd_T52 x0 x2).f0, (rd_T52 x0 x2).f1⟩ : S52)) (wrap64 (x2 + 1)) (wrap64 (x3 - 1))) else (none)) else (none)) else (none)) else (none)) else (some x0)
def proof_reverse.f (k : Nat) (l0 : List (S52)) : Option ((List (S52))) := proof_reverse.l0 k l0 0 (wrap64 ((l0.length : Int) - 1))
theorem proof_reverse.mono_l : ∀ k, (∀ y0 y1 y2, LeO (proof_reverse.l0 k y0 y1 y2) (proof_reverse.l0 (k + 1) y0 y1 y2))
 | 0 => fun _ _ _ r h => by simp [proof_reverse.l0] at h
 | k + 1 => by
  have ih0 := proof_reverse.mono_l k
  ·intro y0 y1 y2
   unfold proof_reverse.l0
   repeat' first
   | (with_reducible exact ih0 _ _ _)
   | (with_reducible exact LeO.refl _)
   | (with_reducible exact LeO.none _)
   | (with_reducible refine LeO.ite ?_ ?_)
   | (with_reducible refine LeO.bind ?_ (fun _ => ?_))
   | exact ih0 _ _ _
   | exact LeO.none _
   | refine LeO.ite ?_ ?_
   | refine LeO.bind ?_ (fun _ => ?_)
theorem proof_reverse.mono : ∀ a0 k, LeO (proof_reverse.f k a0) (proof_reverse.f (k + 1) a0) := by
 intro a0 k
 have ih0 := proof_reverse.mono_l k
 unfold proof_reverse.f
 repeat' first
   | (with_reducible exact ih0 _ _ _)
   | (with_reducible exact LeO.refl _)
   | (with_reducible exact LeO.none _)
   | (with_reducible refine LeO.ite ?_ ?_)
   | (with_reducible refine LeO.bind ?_ (fun _ => ?_))
   | exact ih0 _ _ _
   | exact LeO.none _
   | refine LeO.ite ?_ ?_
   | refine LeO.bind ?_ (fun _ => ?_)
def proof_reverse.T3 : Bool × List (List Nat × List Nat) := (true, [([], []), ([], []), ([], []), ([], []), ([], []), ([], []), ([4, 5], [4, 5]), ([6], [6]), ([], []), ([], []), ([8, 9], [8, 9]), ([10], [10]), ([0, 1, 0, 1, 4, 5, 6, 7, 11], [0, 1]), ([12, 7, 0, 1, 4, 5, 6, 7, 11], [7, 12]), ([2, 3, 0, 1, 2, 3, 4, 5, 6, 7, 8, 9, 10, 11, 12, 13], [2, 3]), ([14, 11, 13, 0, 1, 2, 3, 4, 5, 6, 7, 8, 9, 10, 11, 12, 13], [11, 14])])
def proof_reverse.B3 : List Nat := [0, 0, 0, 0, 0, 0, 48, 112, 0, 0, 768, 1792, 4083, 8179, 16383, 32767]
theorem proof_reverse.tab3 : rtab .any (opsOf Tryd.f47 3) = proof_reverse.T3 := by kernel_rfl
theorem proof_reverse.bits3 : waitsOk proof_reverse.T3.2 proof_reverse.B3 = true := by kernel_rfl
theorem reverse_nil (A : Option Addr) (c : Nat) (w : World) :
  Calls Tryd.prog 47 #[.slice A 0 c] w fun e w' => e = .returned (.tuple #[]) ∧ w' = w := by
 go_enter Tryd.func47, Tryd.ntmps47
 go_wp2
 go_loopg [2, 3] 1 (fun kq v2 v3 w' => v2 = .int .i64 0 ∧ v3 = .int .i64 (-1) ∧ w' = w)
 case atStart => exact ⟨rfl, rfl, rfl⟩
 case round =>
  obtain ⟨rfl, rfl, rfl⟩ := hrel
  go_wp2
  go_end0
  exact ⟨rfl, rfl⟩
set_option maxHeartbeats 8000000 in
set_option maxRecDepth 100000 in
theorem reverse_cut (k : Nat) (P0_ : Nat → Prop) (g o2 cap c' : Nat) (T l : List (S52)) (rv : List (S52)) (w0 w : World) (hB : Below w0.heap.size w0 w) (hTo : o2 = T.length * 2)
  (ho0 : Kd.R k52 52 w w0.heap.size P0_ (.slice (some ⟨g, 0, none⟩) (T ++ l).length cap) (T ++ l)) (h : proof_reverse.f k l = some rv) :
  Calls Tryd.prog 47 #[.slice (some ⟨g, o2, none⟩) l.length c'] w fun e w' => e = .returned (.tuple #[]) ∧ Kd.R k52 52 w' w0.heap.size (fun k_ => (P0_ k_ ∨ w.heap.size ≤ k_)) (.slice (some ⟨g, 0, none⟩) (T ++ l).length cap) (T ++ rv) ∧ Below w0.heap.size w0 w' ∧ Kept w w' (fun k_ => P0_ k_) := by
 have hu52 := Tryd.underlying52
 have HO0 := Aside0.mk (show Kd.R k52 52 w w0.heap.size (fun k_ => (P0_ k_ ∨ w.heap.size ≤ k_)) (.slice (some ⟨g, 0, none⟩) (T ++ l).length cap) (T ++ l) from Kd.R_mono ho0 (fun k_ hk => (.inl hk)))
 have HK := Aside0.mk (Kept.refl w (fun k_ => P0_ k_))
 have HMg := Aside0.mk (ho0.1 g rfl)
 clear ho0
 have HB := Aside0.mk hB
 clear hB
 have H : (proof_reverse.l0 k l 0 (wrap64 ((l.length : Int) - 1))) = some rv := h
 clear h
 have H' := Aside0.mk H
 clear H
 have HTO := Aside0.mk hTo
 clear hTo
 generalize hnn : (T ++ l).length = nn at HO0 ⊢
 have HNN := Aside0.mk hnn
 clear hnn
 go_enter Tryd.func47, Tryd.ntmps47
 go_wp2
 go_loopg [2, 3] k (fun kq v2 v3 w' => ∃ (x0_1 : List (S52)) (x2_1 : Int) (x3_1 : Int), v2 = .int .i64 x2_1 ∧ v3 = .int .i64 x3_1 ∧ Aside0 (x0_1.length = l.length) ∧ Aside0 (proof_reverse.l0 kq x0_1 x2_1 x3_1 = some rv) ∧ Aside0 (kq ≤ k) ∧ Aside0 (Kd.R k52 52 w' w0.heap.size (fun k_ => (P0_ k_ ∨ w.heap.size ≤ k_)) (.slice (some ⟨g, 0, none⟩) nn cap) (T ++ x0_1)) ∧ Aside0 (Kept w w' (fun k_ => P0_ k_)) ∧ Aside0 (Below w0.heap.size w0 w'))
 case atStart => exact ⟨(l), (0), (wrap64 ((l.length : Int) - 1)), rfl, rfl, ⟨rfl⟩, H', ⟨Nat.le_refl _⟩, HO0, HK, HB⟩
 case round =>
  clear H' HO0 HK HB
  obtain ⟨x0_1, x2_1, x3_1, rfl, rfl, HLN, HA, HK1, HO_0, HK, HB⟩ := hrel
  cases gk with
  | zero => exact absurd HA.out (by simp [proof_reverse.l0])
  | succ k1 =>
   have H := HA.out
   clear HA
   simp only [proof_reverse.l0] at H
   by_cases c3 : x2_1 < x3_1
   ·rw [if_pos c3] at H
    by_cases c4 : 0 ≤ x3_1
    ·rw [if_pos c4] at H
     by_cases c5 : x3_1 < (x0_1.length : Int)
     ·rw [if_pos c5] at H
      by_cases c6 : 0 ≤ x2_1
      ·rw [if_pos c6] at H
       by_cases c7 : x2_1 < (x0_1.length : Int)
       ·rw [if_pos c7] at H
        have hl := HLN.out
        have d5 : x3_1 < (l.length : Int) := by omega
        have d7 : x2_1 < (l.length : Int) := by omega
        have hto := HTO.out
        have i3 : ((T.length : Int) + x3_1).toNat * 2 = o2 + x3_1.toNat * 2 := by omega
        have i2 : ((T.length : Int) + x2_1).toNat * 2 = o2 + x2_1.toNat * 2 := by omega
        have j3 : ((T.length : Int) + x3_1).toNat = T.length + x3_1.toNat := by omega
        have j2 : ((T.length : Int) + x2_1).toNat = T.length + x2_1.toNat := by omega
        have e3 : (T ++ x0_1).getD ((T.length : Int) + x3_1).toNat z52 = rd_T52 x0_1 x3_1 := by
         unfold rd_T52
         rw [j3, List.getD_eq_getElem?_getD, List.getD_eq_getElem?_getD, List.getElem?_append_right (by omega), Nat.add_sub_cancel_left]
        have e2 : (T ++ x0_1).getD ((T.length : Int) + x2_1).toNat z52 = rd_T52 x0_1 x2_1 := by
         unfold rd_T52
         rw [j2, List.getD_eq_getElem?_getD, List.getD_eq_getElem?_getD, List.getElem?_append_right (by omega), Nat.add_sub_cancel_left]
        obtain ⟨y565, hy565⟩ : ∃ y_ : List (S52), y_ = (x0_1.set (x2_1 : Int).toNat (⟨(rd_T52 x0_1 x3_1).f0, (rd_T52 x0_1 x3_1).f1⟩ : S52)) := ⟨_, rfl⟩
        rw [← hy565] at H
        obtain ⟨y566, hy566⟩ : ∃ y_ : List (S52), y_ = (y565.set (x3_1 : Int).toNat (⟨(rd_T52 x0_1 x2_1).f0, (rd_T52 x0_1 x2_1).f1⟩ : S52)) := ⟨_, rfl⟩
        rw [← hy566] at H
        have s565 : T ++ y565 = (T ++ x0_1).set ((T.length : Int) + x2_1).toNat (⟨(rd_T52 x0_1 x3_1).f0, (rd_T52 x0_1 x3_1).f1⟩ : S52) := by rw [hy565, j2, List.set_append_right _ _ (by omega), Nat.add_sub_cancel_left]
        have s566 : T ++ y566 = (T ++ y565).set ((T.length : Int) + x3_1).toNat (⟨(rd_T52 x0_1 x2_1).f0, (rd_T52 x0_1 x2_1).f1⟩ : S52) := by rw [hy566, j3, List.set_append_right _ _ (by omega), Nat.add_sub_cancel_left]
        have hl6 : y566.length = l.length := by rw [hy566, List.length_set, hy565, List.length_set, hl]
        have HL6 := Aside0.mk hl6
        clear hl6
        have H' := Aside0.mk H
        clear H
        have n0_ := Aside0.mk (Kd.R_drew HO_0.out)
        have n1_ := Aside0.mk (Kept.drew HK.out)
        have n2_ := Aside0.mk (below_drew1 HB.out)
        clear HO_0 HK HB
        have HO_0 := n0_
        have HK := n1_
        have HB := n2_
        clear n0_ n1_ n2_
        have hnl : nn = (T ++ x0_1).length := (Kd.R_reads' HO_0.out).1
        have q3 : (T.length : Int) + x3_1 < (nn : Int) := by rw [hnl, List.length_append]; omega
        have q2 : (T.length : Int) + x2_1 < (nn : Int) := by rw [hnl, List.length_append]; omega
        obtain ⟨ce7, hcl7, hM7, hcc7, hfr7⟩ := Kd.R_elem HO_0.out z52 ((T.length : Int) + x3_1) (by omega) q3
        obtain rfl := k52_openM hM7
        have hx563_0 := hcc7 0 _ rfl
        have hx563_1 := hcc7 1 _ rfl
        obtain ⟨ce8, hcl8, hM8, hcc8, hfr8⟩ := Kd.R_elem HO_0.out z52 ((T.length : Int) + x2_1) (by omega) q2
        obtain rfl := k52_openM hM8
        have hx8_0 := hcc8 0 _ rfl
        have hx8_1 := hcc8 1 _ rfl
        have hf8_0 := hfr8 0
        have hf8_1 := hfr8 1
        have HP11 := (Kd.R_seg HO_0.out ((T.length : Int) + x2_1) (by omega) q2 (seg := [.int .u64 ((rd_T52 x0_1 x3_1).f0), .int .u64 ((rd_T52 x0_1 x3_1).f1)]) (j := 0) hcl8 hcc8 (show 2 ≤ 2 from by decide) (x' := (⟨(rd_T52 x0_1 x3_1).f0, (rd_T52 x0_1 x3_1).f1⟩ : S52)) (k52_mkM _ _ _ (⟨(rd_T52 x0_1 x3_1).f0, (rd_T52 x0_1 x3_1).f1⟩ : S52)) (fun _ hk => hk)).1
        rw [← s565] at HP11
        have HQ11 := Aside0.mk HP11
        clear HP11
        obtain ⟨ce9, hcl9, hM9, hcc9, hfr9⟩ := Kd.R_elem HQ11.out z52 ((T.length : Int) + x3_1) (by omega) q3
        obtain rfl := k52_openM hM9
        have HP12 := (Kd.R_seg HQ11.out ((T.length : Int) + x3_1) (by omega) q3 (seg := [.int .u64 ((rd_T52 x0_1 x2_1).f0), .int .u64 ((rd_T52 x0_1 x2_1).f1)]) (j := 0) hcl9 hcc9 (show 2 ≤ 2 from by decide) (x' := (⟨(rd_T52 x0_1 x2_1).f0, (rd_T52 x0_1 x2_1).f1⟩ : S52)) (k52_mkM _ _ _ (⟨(rd_T52 x0_1 x2_1).f0, (rd_T52 x0_1 x2_1).f1⟩ : S52)) (fun _ hk => hk)).1
        rw [← s566] at HP12
        have HQ12 := Aside0.mk HP12
        clear HP12 hcl7 hcc7 hM7 hcl8 hcc8 hfr8 hM8 hcl9 hcc9 hfr9 hM9 s565 s566 hy565 hy566 j2 j3 hto hl hnl
        have hf7_0 := hfr7 0
        have hf7_1 := hfr7 1
        change World.cell? _ ⟨g, ((T.length : Int) + x3_1).toNat * 2, none⟩ = _ at hx563_0
        change World.cell? _ ⟨g, ((T.length : Int) + x3_1).toNat * 2 + 1, none⟩ = _ at hx563_1
        change World.cell? _ ⟨g, ((T.length : Int) + x2_1).toNat * 2, none⟩ = _ at hx8_0
        change World.cell? _ ⟨g, ((T.length : Int) + x2_1).toNat * 2 + 1, none⟩ = _ at hx8_1
        change World.frozen? _ ⟨g, ((T.length : Int) + x2_1).toNat * 2, none⟩ = _ at hf8_0
        change World.frozen? _ ⟨g, ((T.length : Int) + x2_1).toNat * 2 + 1, none⟩ = _ at hf8_1
        change World.frozen? _ ⟨g, ((T.length : Int) + x3_1).toNat * 2, none⟩ = _ at hf7_0
        change World.frozen? _ ⟨g, ((T.length : Int) + x3_1).toNat * 2 + 1, none⟩ = _ at hf7_1
        obtain ⟨p, hp⟩ : ∃ p, o2 + x2_1.toNat * 2 = p := ⟨_, rfl⟩
        obtain ⟨q, hq⟩ : ∃ q, o2 + x3_1.toNat * 2 = q := ⟨_, rfl⟩
        have npq : ¬ p = q := by omega
        have nqp : ¬ q = p := by omega
        have np1 : ¬ p + 1 = q := by omega
        have nq1 : ¬ q + 1 = p := by omega
        have np2 : ¬ p = q + 1 := by omega
        have nq2 : ¬ q = p + 1 := by omega
        rw [i3, hq, e3] at hx563_0 hx563_1
        rw [i2, hp, e2] at hx8_0 hx8_1
        rw [i3, hq] at hf7_0 hf7_1
        rw [i2, hp] at hf8_0 hf8_1
        clear hfr7
        clear e2 e3 q2 q3
        have b3 : decide (x2_1 < x3_1) = true := decide_eq_true c3
        go_wp2
        refine start_ (n := 16) (S := fun w' => w'.cell? ⟨g, q, none⟩ = some (.int .u64 ((rd_T52 x0_1 x3_1).f0)) ∧ w'.cell? ⟨g, q + 1, none⟩ = some (.int .u64 ((rd_T52 x0_1 x3_1).f1)) ∧ w'.cell? ⟨g, p, none⟩ = some (.int .u64 ((rd_T52 x0_1 x2_1).f0)) ∧ w'.cell? ⟨g, p + 1, none⟩ = some (.int .u64 ((rd_T52 x0_1 x2_1).f1))) (ds := [13, 15]) #[false, false, false, false, false, false, false, false, false, false, false, false, false, false, false, false] (by kernel_rfl) rfl rfl ⟨hx563_0, hx563_1, hx8_0, hx8_1⟩ (fun hHeld => ?_); refine with_tabW proof_reverse.tab3 proof_reverse.bits3 (fun HT_ HW_ => ?_)
        generalize wr.drew = w10 at *
        refine pure_ (i := 0) (N := some 14) (v := ?_) (a' := ?_) #[true, false, false, false, false, false, false, false, false, false, false, false, false, false, false, false] rfl rfl (any_of HT_.out (by kernel_rfl)) (fun _ _ _ h => h) (Or.inl ⟨by rfl, ?_⟩) ?_ ?_
        rotate_left
        ·intro w'
         go_simp
         with_reducible rfl
        rotate_left
        ·simp only [Act.put, List.setIfInBounds_toArray, List.set_cons_zero, List.set_cons_succ, i64_w, i32_w]
         rfl
        refine pure_ (i := 1) (N := some 15) (v := ?_) (a' := ?_) #[true, true, false, false, false, false, false, false, false, false, false, false, false, false, false, false] rfl rfl (any_of HT_.out (by kernel_rfl)) (fun _ _ _ h => h) (Or.inl ⟨by rfl, ?_⟩) ?_ ?_
        rotate_left
        ·intro w'
         go_simp
         with_reducible rfl
        rotate_left
        ·simp only [Act.put, List.setIfInBounds_toArray, List.set_cons_zero, List.set_cons_succ, i64_w, i32_w]
         rfl
        refine pure_ (i := 2) (N := some 16) (v := ?_) (a' := ?_) #[true, true, true, false, false, false, false, false, false, false, false, false, false, false, false, false] rfl rfl (any_of HT_.out (by kernel_rfl)) (fun _ _ _ h => h) (Or.inl ⟨by rfl, ?_⟩) ?_ ?_
        rotate_left
        ·intro w'
         go_simp
         with_reducible rfl
        rotate_left
        ·simp only [Act.put, List.setIfInBounds_toArray, List.set_cons_zero, List.set_cons_succ, i64_w, i32_w]
         rfl
        refine pure_ (i := 3) (N := some 17) (v := ?_) (a' := ?_) #[true, true, true, true, false, false, false, false, false, false, false, false, false, false, false, false] rfl rfl (any_of HT_.out (by kernel_rfl)) (fun _ _ _ h => h) (Or.inl ⟨by rfl, ?_⟩) ?_ ?_
        rotate_left
        ·intro w'
         go_simp
         with_reducible rfl
        rotate_left
        ·simp only [Act.put, List.setIfInBounds_toArray, List.set_cons_zero, List.set_cons_succ, i64_w, i32_w]
         rfl
        refine pure_ (i := 4) (N := some 18) (v := ?_) (a' := ?_) #[true, true, true, true, true, false, false, false, false, false, false, false, false, false, false, false] rfl rfl (any_of HT_.out (by kernel_rfl)) (fun _ _ _ h => h) (Or.inl ⟨by rfl, ?_⟩) ?_ ?_
        rotate_left
        ·intro w'
         go_simp
         with_reducible rfl
        rotate_left
        ·simp only [Act.put, List.setIfInBounds_toArray, List.set_cons_zero, List.set_cons_succ, i64_w, i32_w]
         rfl
        refine pure_ (i := 5) (N := some 19) (v := ?_) (a' := ?_) #[true, true, true, true, true, true, false, false, false, false, false, false, false, false, false, false] rfl rfl (any_of HT_.out (by kernel_rfl)) (fun _ _ _ h => h) (Or.inl ⟨by rfl, ?_⟩) ?_ ?_
        rotate_left
        ·intro w'
         go_simp
         with_reducible rfl
        rotate_left
        ·simp only [Act.put, List.setIfInBounds_toArray, List.set_cons_zero, List.set_cons_succ, i64_w, i32_w]
         rfl
        refine pure_ (i := 6) (N := some 20) (v := ?_) (a' := ?_) #[true, true, true, true, true, true, true, false, false, false, false, false, false, false, false, false] rfl rfl (any_of HT_.out (by kernel_rfl)) (fun _ _ _ h => h) (Or.inl ⟨by rfl, ?_⟩) ?_ ?_
        rotate_left
        ·intro w'
         go_simp
         with_reducible rfl
        rotate_left
        ·simp only [Act.put, List.setIfInBounds_toArray, List.set_cons_zero, List.set_cons_succ, i64_w, i32_w]
         rfl
        refine pure_ (i := 8) (N := some 22) (v := ?_) (a' := ?_) #[true, true, true, true, true, true, true, false, true, false, false, false, false, false, false, false] rfl rfl (any_of HT_.out (by kernel_rfl)) (fun _ _ _ h => h) (Or.inl ⟨by rfl, ?_⟩) ?_ ?_
        rotate_left
        ·intro w'
         go_simp
         with_reducible rfl
        rotate_left
        ·simp only [Act.put, List.setIfInBounds_toArray, List.set_cons_zero, List.set_cons_succ, i64_w, i32_w]
         rfl
        refine pure_ (i := 9) (N := some 23) (v := ?_) (a' := ?_) #[true, true, true, true, true, true, true, false, true, true, false, false, false, false, false, false] rfl rfl (any_of HT_.out (by kernel_rfl)) (fun _ _ _ h => h) (Or.inl ⟨by rfl, ?_⟩) ?_ ?_
        rotate_left
        ·intro w'
         go_simp
         with_reducible rfl
        rotate_left
        ·simp only [Act.put, List.setIfInBounds_toArray, List.set_cons_zero, List.set_cons_succ, i64_w, i32_w]
         rfl
        refine pure_ (i := 10) (N := some 24) (v := ?_) (a' := ?_) #[true, true, true, true, true, true, true, false, true, true, true, false, false, false, false, false] rfl rfl (any_of HT_.out (by kernel_rfl)) (fun _ _ _ h => h) (Or.inl ⟨by rfl, ?_⟩) ?_ ?_
        rotate_left
        ·intro w'
         go_simp
         with_reducible rfl
        rotate_left
        ·simp only [Act.put, List.setIfInBounds_toArray, List.set_cons_zero, List.set_cons_succ, i64_w, i32_w]
         rfl
        refine take_ (i := 7) (N := some 21) (v := ?_) (a' := ?_) #[true, true, true, true, true, true, true, true, true, true, true, false, false, false, false, false] rfl rfl (take_ofW HT_.out HW_.out (by kernel_rfl)) (fun _ _ _ h => h) (Or.inl ⟨by rfl, ?_⟩) hHeld ?_ ?_
        rotate_left
        ·rintro w' ⟨s0, s1, s2, s3⟩
         go_simp
         with_reducible rfl
        rotate_left
        ·simp only [Act.put, List.setIfInBounds_toArray, List.set_cons_zero, List.set_cons_succ, i64_w, i32_w]
         rfl
        refine take_ (i := 11) (N := some 25) (v := ?_) (a' := ?_) #[true, true, true, true, true, true, true, true, true, true, true, true, false, false, false, false] rfl rfl (take_ofW HT_.out HW_.out (by kernel_rfl)) (fun _ _ _ h => h) (Or.inl ⟨by rfl, ?_⟩) hHeld ?_ ?_
        rotate_left
        ·rintro w' ⟨s0, s1, s2, s3⟩
         go_simp
         with_reducible rfl
        rotate_left
        ·simp only [Act.put, List.setIfInBounds_toArray, List.set_cons_zero, List.set_cons_succ, i64_w, i32_w]
         rfl
        refine pure_ (i := 12) (N := some 26) (v := ?_) (a' := ?_) #[true, true, true, true, true, true, true, true, true, true, true, true, true, false, false, false] rfl rfl (any_of HT_.out (by kernel_rfl)) (fun _ _ _ h => h) (Or.inl ⟨by rfl, ?_⟩) ?_ ?_
        rotate_left
        ·intro w'
         go_simp
         with_reducible rfl
        rotate_left
        ·simp only [Act.put, List.setIfInBounds_toArray, List.set_cons_zero, List.set_cons_succ, i64_w, i32_w]
         rfl
        refine last_ (i := 13) (N := none) #[true, true, true, true, true, true, true, true, true, true, true, true, true, true, false, false] rfl rfl (one_of HT_.out (by kernel_rfl)) (by decide) (fun K hK => ?_)
        refine skip_ (w1 := ?_) (by rfl) rfl ?_ ?_
        rotate_left
        ·go_simp
         rfl
        refine hK.out _ _ ?_
        clear hK K
        refine pure_ (i := 14) (N := some 27) (v := ?_) (a' := ?_) #[true, true, true, true, true, true, true, true, true, true, true, true, true, true, true, false] rfl rfl (any_of HT_.out (by kernel_rfl)) (fun _ _ _ h => h) (Or.inl ⟨by rfl, ?_⟩) ?_ ?_
        rotate_left
        ·intro w'
         go_simp
         with_reducible rfl
        rotate_left
        ·simp only [Act.put, List.setIfInBounds_toArray, List.set_cons_zero, List.set_cons_succ, i64_w, i32_w]
         rfl
        refine last_ (i := 15) (N := none) #[true, true, true, true, true, true, true, true, true, true, true, true, true, true, true, true] rfl rfl (one_of HT_.out (by kernel_rfl)) (by decide) (fun K hK => ?_)
        refine skip_ (w1 := ?_) (by rfl) rfl ?_ ?_
        rotate_left
        ·go_simp
         rfl
        refine hK.out _ _ ?_
        clear hK K
        refine done_ (done_of HT_.out (by kernel_rfl)) ?_
        try go_wp2
        go_roundg k1
        case measure => have := HK1.out; omega
        case rel =>
         have HMg2 : P0_ g ∨ w.heap.size ≤ g := .inl HMg.out
         refine ⟨(y566), (wrap64 (x2_1 + 1)), (wrap64 (x3_1 - 1)), (by first | rfl | (simp; done) | (simp [*]; done)), (by first | rfl | (simp; done) | (simp [*]; done)), HL6, H', ⟨by have := HK1.out; omega⟩, ⟨?_⟩, ⟨?_⟩, ⟨?_⟩⟩
         ·have hqr := HQ12.out
          have ez : k52.sz = 2 := rfl
          rw [ez, i2, i3, hp, hq] at hqr
          exact hqr
         ·repeat (first | (with_reducible first | exact HK.out | apply Kept.alloc | apply Kept.drewN | apply Kept.drew | refine Kept.setCell ?_ HMg2 _) | exact HK.out)
         ·have hgb := Kd.R_base HQ12.out g rfl
          repeat (first | (with_reducible first | exact HB.out | refine below_set ?_ hgb) | exact HB.out)
       ·rw [if_neg c7] at H
        exact absurd H (by simp)
      ·rw [if_neg c6] at H
       exact absurd H (by simp)
     ·rw [if_neg c5] at H
      exact absurd H (by simp)
    ·rw [if_neg c4] at H
     exact absurd H (by simp)
   ·rw [if_neg c3] at H
    have c3b0 : decide (x2_1 < x3_1) = false := decide_eq_false c3
    clear c3
    obtain rfl := Option.some.inj H
    go_wp2
    first | go_end0 | ((try simp only [Exit.inBlock, Exit.then]); refine bodyPost_ret (results_none rfl _ _ _) rfl ?_)
    exact ⟨rfl, HO_0.out, HB.out, HK.out⟩

end Go.Proofs.YtkkkaegocinkeaaDoor.M

