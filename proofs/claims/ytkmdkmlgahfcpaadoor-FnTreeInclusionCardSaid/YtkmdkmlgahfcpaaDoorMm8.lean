-- Written by a program of ours (wip/xp) out of the translation; Lean checks it.
import Derived.Test.YtkmdkmlgahfcpaaDoorSq
import Derived.Test.YtkmdkmlgahfcpaaDoorMm1
import Derived.Test.YtkmdkmlgahfcpaaDoorMm6
import Derived.Test.YtkmdkmlgahfcpaaDoorMm7
namespace Go.Proofs.YtkmdkmlgahfcpaaDoor.M
open Go.RowKit Go.Proofs.YtkmdkmlgahfcpaaDoorW.PrintWords Go.Proofs.YtkmdkmlgahfcpaaDoorW.PrintLast Go.Proofs.YtkmdkmlgahfcpaaDoorW.PrintMore
attribute [local go_sem] max2_int min2_int max_two min_two max_three min_three max_four min_four   -- for this text's walks alone
set_option linter.unusedVariables false
set_option linter.unusedSimpArgs false

/-! ### proof_reverse: function 117 -/
def proof_reverse.l0 : Nat → List (S106) → Int → Int → Option ((List (S106)))
 | 0, _, _, _ => none
 | k + 1, x0, x2, x3 => if x2 < x3 then (if 0 ≤ x3 then (if x3 < (x0.length : Int) then (if 0 ≤ x2 then (if x2 < (x0.length : Int) then (proof_reverse.l0 k ((x0.set (x2 : Int).toNat (⟨(rd_T106 x0 x3).f0, (rd_T106 x0 x3).f1⟩ : S106)).set (x3 : Int).toNat (⟨(rd_T106 x0 x2).f0, (rd_T106 x0 x2).f1⟩ : S106)) (wrap64 (x2 + 1)) (wrap64 (x3 - 1))) else (none)) else (none)) else (none)) else (none)) else (some x0)
def proof_reverse.f (k : Nat) (l0 : List (S106)) : Option ((List (S106))) := proof_reverse.l0 k l0 0 (wrap64 ((l0.length : Int) - 1))
theorem proof_reverse.mono_l : ∀ k, (∀ y0 y1 y2, LeO (proof_reverse.l0 k y0 y1 y2) (proof_reverse.l0 (k + 1) y0 y1 y2))
 | 0 => fun _ _ _ r h => by simp [proof_reverse.l0] at h
 | k + 1 => by
  have ih0 := proof_reverse.mono_l k
  ·intro y0 y1 y2
   unfold proof_reverse.l0
   repeat' first
   | (with_reducible exact ih0 _ _ _)
   | (with_reducible exact LeO.refl _)
   | (with_reducible exact LeO.none _)
   | (with_reducible refine LeO.ite ?_ ?_)
   | (with_reducible refine LeO.bind ?_ (fun _ => ?_))
   | exact ih0 _ _ _
   | exact LeO.none _
   | refine LeO.ite ?_ ?_
   | refine LeO.bind ?_ (fun _ => ?_)
theorem proof_reverse.mono : ∀ a0 k, LeO (proof_reverse.f k a0) (proof_reverse.f (k + 1) a0) := by
 intro a0 k
 have ih0 := proof_reverse.mono_l k
 unfold proof_reverse.f
 repeat' first
   | (with_reducible exact ih0 _ _ _)
   | (with_reducible exact LeO.refl _)
   | (with_reducible exact LeO.none _)
   | (with_reducible refine LeO.ite ?_ ?_)
   | (with_reducible refine LeO.bind ?_ (fun _ => ?_))
   | exact ih0 _ _ _
   | exact LeO.none _
   | refine LeO.ite ?_ ?_
   | refine LeO.bind ?_ (fun _ => ?_)
def proof_reverse.T3 : Bool × List (List Nat × List Nat) := (true, [([], []), ([], []), ([], []), ([], []), ([], []), ([], []), ([4, 5], [4, 5]), ([6], [6]), ([], []), ([], []), ([8, 9], [8, 9]), ([10], [10]), ([0, 1, 0, 1, 4, 5, 6, 7, 11], [0, 1]), ([12, 7, 0, 1, 4, 5, 6, 7, 11], [7, 12]), ([2, 3, 0, 1, 2, 3, 4, 5, 6, 7, 8, 9, 10, 11, 12, 13], [2, 3]), ([14, 11, 13, 0, 1, 2, 3, 4, 5, 6, 7, 8, 9, 10, 11, 12, 13], [11, 14])])
def proof_reverse.B3 : List Nat := [0, 0, 0, 0, 0, 0, 48, 112, 0, 0, 768, 1792, 4083, 8179, 16383, 32767]
theorem proof_reverse.tab3 : rtab .any (opsOf Tryd.f117 3) = proof_reverse.T3 := by kernel_rfl
theorem proof_reverse.bits3 : waitsOk proof_reverse.T3.2 proof_reverse.B3 = true := by kernel_rfl
theorem reverse_nil (A : Option Addr) (c : Nat) (w : World) :
  Calls Tryd.prog 117 #[.slice A 0 c] w fun e w' => e = .returned (.tuple #[]) ∧ w' = w := by
 go_enter Tryd.func117, Tryd.ntmps117
 go_wp2
 go_loopg [2, 3] 1 (fun kq v2 v3 w' => v2 = .int .i64 0 ∧ v3 = .int .i64 (-1) ∧ w' = w)
 case atStart => exact ⟨rfl, rfl, rfl⟩
 case round =>
  obtain ⟨rfl, rfl, rfl⟩ := hrel
  go_wp2
  go_end0
  exact ⟨rfl, rfl⟩
set_option maxHeartbeats 8000000 in
set_option maxRecDepth 100000 in
theorem reverse_cut (k : Nat) (P0_ : Nat → Prop) (g o2 cap c' : Nat) (T l : List (S106)) (rv : List (S106)) (w0 w : World) (hB : Below w0.heap.size w0 w) (hTo : o2 = T.length * 2)
  (ho0 : Kd.R k106 106 w w0.heap.size P0_ (.slice (some ⟨g, 0, none⟩) (T ++ l).length cap) (T ++ l)) (h : proof_reverse.f k l = some rv) :
  Calls Tryd.prog 117 #[.slice (some ⟨g, o2, none⟩) l.length c'] w fun e w' => e = .returned (.tuple #[]) ∧ Kd.R k106 106 w' w0.heap.size (fun k_ => (P0_ k_ ∨ w.heap.size ≤ k_)) (.slice (some ⟨g, 0, none⟩) (T ++ l).length cap) (T ++ rv) ∧ Below w0.heap.size w0 w' ∧ Kept w w' (fun k_ => P0_ k_) := by
 have hu106 := Tryd.underlying106
 have HO0 := Aside0.mk (show Kd.R k106 106 w w0.heap.size (fun k_ => (P0_ k_ ∨ w.heap.size ≤ k_)) (.slice (some ⟨g, 0, none⟩) (T ++ l).length cap) (T ++ l) from Kd.R_mono ho0 (fun k_ hk => (.inl hk)))
 have HK := Aside0.mk (Kept.refl w (fun k_ => P0_ k_))
 have HMg := Aside0.mk (ho0.1 g rfl)
 clear ho0
 have HB := Aside0.mk hB
 clear hB
 have H : (proof_reverse.l0 k l 0 (wrap64 ((l.length : Int) - 1))) = some rv := h
 clear h
 have H' := Aside0.mk H
 clear H
 have HTO := Aside0.mk hTo
 clear hTo
 generalize hnn : (T ++ l).length = nn at HO0 ⊢
 have HNN := Aside0.mk hnn
 clear hnn
 go_enter Tryd.func117, Tryd.ntmps117
 go_wp2
 go_loopg [2, 3] k (fun kq v2 v3 w' => ∃ (x0_1 : List (S106)) (x2_1 : Int) (x3_1 : Int), v2 = .int .i64 x2_1 ∧ v3 = .int .i64 x3_1 ∧ Aside0 (x0_1.length = l.length) ∧ Aside0 (proof_reverse.l0 kq x0_1 x2_1 x3_1 = some rv) ∧ Aside0 (kq ≤ k) ∧ Aside0 (Kd.R k106 106 w' w0.heap.size (fun k_ => (P0_ k_ ∨ w.heap.size ≤ k_)) (.slice (some ⟨g, 0, none⟩) nn cap) (T ++ x0_1)) ∧ Aside0 (Kept w w' (fun k_ => P0_ k_)) ∧ Aside0 (Below w0.heap.size w0 w'))
 case atStart => exact ⟨(l), (0), (wrap64 ((l.length : Int) - 1)), rfl, rfl, ⟨rfl⟩, H', ⟨Nat.le_refl _⟩, HO0, HK, HB⟩
 case round =>
  clear H' HO0 HK HB
  obtain ⟨x0_1, x2_1, x3_1, rfl, rfl, HLN, HA, HK1, HO_0, HK, HB⟩ := hrel
  cases gk with
  | zero => exact absurd HA.out (by simp [proof_reverse.l0])
  | succ k1 =>
   have H := HA.out
   clear HA
   simp only [proof_reverse.l0] at H
   by_cases c3 : x2_1 < x3_1
   ·rw [if_pos c3] at H
    by_cases c4 : 0 ≤ x3_1
    ·rw [if_pos c4] at H
     by_cases c5 : x3_1 < (x0_1.length : Int)
     ·rw [if_pos c5] at H
      by_cases c6 : 0 ≤ x2_1
      ·rw [if_pos c6] at H
       by_cases c7 : x2_1 < (x0_1.length : Int)
       ·rw [if_pos c7] at H
        have hl := HLN.out
        have d5 : x3_1 < (l.length : Int) := by omega
        have d7 : x2_1 < (l.length : Int) := by omega
        have hto := HTO.out
        have i3 : ((T.length : Int) + x3_1).toNat * 2 = o2 + x3_1.toNat * 2 := by omega
        have i2 : ((T.length : Int) + x2_1).toNat * 2 = o2 + x2_1.toNat * 2 := by omega
        have j3 : ((T.length : Int) + x3_1).toNat = T.length + x3_1.toNat := by omega
        have j2 : ((T.length : Int) + x2_1).toNat = T.length + x2_1.toNat := by omega
        have e3 : (T ++ x0_1).getD ((T.length : Int) + x3_1).toNat z106 = rd_T106 x0_1 x3_1 := by
         unfold rd_T106
         rw [j3, List.getD_eq_getElem?_getD, List.getD_eq_getElem?_getD, List.getElem?_append_right (by omega), Nat.add_sub_cancel_left]
        have e2 : (T ++ x0_1).getD ((T.length : Int) + x2_1).toNat z106 = rd_T106 x0_1 x2_1 := by
         unfold rd_T106
         rw [j2, List.getD_eq_getElem?_getD, List.getD_eq_getElem?_getD, List.getElem?_append_right (by omega), Nat.add_sub_cancel_left]
        obtain ⟨y565, hy565⟩ : ∃ y_ : List (S106), y_ = (x0_1.set (x2_1 : Int).toNat (⟨(rd_T106 x0_1 x3_1).f0, (rd_T106 x0_1 x3_1).f1⟩ : S106)) := ⟨_, rfl⟩
        rw [← hy565] at H
        obtain ⟨y566, hy566⟩ : ∃ y_ : List (S106), y_ = (y565.set (x3_1 : Int).toNat (⟨(rd_T106 x0_1 x2_1).f0, (rd_T106 x0_1 x2_1).f1⟩ : S106)) := ⟨_, rfl⟩
        rw [← hy566] at H
        have s565 : T ++ y565 = (T ++ x0_1).set ((T.length : Int) + x2_1).toNat (⟨(rd_T106 x0_1 x3_1).f0, (rd_T106 x0_1 x3_1).f1⟩ : S106) := by rw [hy565, j2, List.set_append_right _ _ (by omega), Nat.add_sub_cancel_left]
        have s566 : T ++ y566 = (T ++ y565).set ((T.length : Int) + x3_1).toNat (⟨(rd_T106 x0_1 x2_1).f0, (rd_T106 x0_1 x2_1).f1⟩ : S106) := by rw [hy566, j3, List.set_append_right _ _ (by omega), Nat.add_sub_cancel_left]
        have hl6 : y566.length = l.length := by rw [hy566, List.length_set, hy565, List.length_set, hl]
        have HL6 := Aside0.mk hl6
        clear hl6
        have H' := Aside0.mk H
        clear H
        have n0_ := Aside0.mk (Kd.R_drew HO_0.out)
        have n1_ := Aside0.mk (Kept.drew HK.out)
        have n2_ := Aside0.mk (below_drew1 HB.out)
        clear HO_0 HK HB
        have HO_0 := n0_
        have HK := n1_
        have HB := n2_
        clear n0_ n1_ n2_
        have hnl : nn = (T ++ x0_1).length := (Kd.R_reads' HO_0.out).1
        have q3 : (T.length : Int) + x3_1 < (nn : Int) := by rw [hnl, List.length_append]; omega
        have q2 : (T.length : Int) + x2_1 < (nn : Int) := by rw [hnl, List.length_append]; omega
        obtain ⟨ce7, hcl7, hM7, hcc7, hfr7⟩ := Kd.R_elem HO_0.out z106 ((T.length : Int) + x3_1) (by omega) q3
        obtain rfl := k106_openM hM7
        have hx563_0 := hcc7 0 _ rfl
        have hx563_1 := hcc7 1 _ rfl
        obtain ⟨ce8, hcl8, hM8, hcc8, hfr8⟩ := Kd.R_elem HO_0.out z106 ((T.length : Int) + x2_1) (by omega) q2
        obtain rfl := k106_openM hM8
        have hx8_0 := hcc8 0 _ rfl
        have hx8_1 := hcc8 1 _ rfl
        have hf8_0 := hfr8 0
        have hf8_1 := hfr8 1
        have HP11 := (Kd.R_seg HO_0.out ((T.length : Int) + x2_1) (by omega) q2 (seg := [.int .u64 ((rd_T106 x0_1 x3_1).f0), .int .u64 ((rd_T106 x0_1 x3_1).f1)]) (j := 0) hcl8 hcc8 (show 2 ≤ 2 from by decide) (x' := (⟨(rd_T106 x0_1 x3_1).f0, (rd_T106 x0_1 x3_1).f1⟩ : S106)) (k106_mkM _ _ _ (⟨(rd_T106 x0_1 x3_1).f0, (rd_T106 x0_1 x3_1).f1⟩ : S106)) (fun _ hk => hk)).1
        rw [← s565] at HP11
        have HQ11 := Aside0.mk HP11
        clear HP11
        obtain ⟨ce9, hcl9, hM9, hcc9, hfr9⟩ := Kd.R_elem HQ11.out z106 ((T.length : Int) + x3_1) (by omega) q3
        obtain rfl := k106_openM hM9
        have HP12 := (Kd.R_seg HQ11.out ((T.length : Int) + x3_1) (by omega) q3 (seg := [.int .u64 ((rd_T106 x0_1 x2_1).f0), .int .u64 ((rd_T106 x0_1 x2_1).f1)]) (j := 0) hcl9 hcc9 (show 2 ≤ 2 from by decide) (x' := (⟨(rd_T106 x0_1 x2_1).f0, (rd_T106 x0_1 x2_1).f1⟩ : S106)) (k106_mkM _ _ _ (⟨(rd_T106 x0_1 x2_1).f0, (rd_T106 x0_1 x2_1).f1⟩ : S106)) (fun _ hk => hk)).1
        rw [← s566] at HP12
        have HQ12 := Aside0.mk HP12
        clear HP12 hcl7 hcc7 hM7 hcl8 hcc8 hfr8 hM8 hcl9 hcc9 hfr9 hM9 s565 s566 hy565 hy566 j2 j3 hto hl hnl
        have hf7_0 := hfr7 0
        have hf7_1 := hfr7 1
        change World.cell? _ ⟨g, ((T.length : Int) + x3_1).toNat * 2, none⟩ = _ at hx563_0
        change World.cell? _ ⟨g, ((T.length : Int) + x3_1).toNat * 2 + 1, none⟩ = _ at hx563_1
        change World.cell? _ ⟨g, ((T.length : Int) + x2_1).toNat * 2, none⟩ = _ at hx8_0
        change World.cell? _ ⟨g, ((T.length : Int) + x2_1).toNat * 2 + 1, none⟩ = _ at hx8_1
        change World.frozen? _ ⟨g, ((T.length : Int) + x2_1).toNat * 2, none⟩ = _ at hf8_0
        change World.frozen? _ ⟨g, ((T.length : Int) + x2_1).toNat * 2 + 1, none⟩ = _ at hf8_1
        change World.frozen? _ ⟨g, ((T.length : Int) + x3_1).toNat * 2, none⟩ = _ at hf7_0
        change World.frozen? _ ⟨g, ((T.length : Int) + x3_1).toNat * 2 + 1, none⟩ = _ at hf7_1
        obtain ⟨p, hp⟩ : ∃ p, o2 + x2_1.toNat * 2 = p := ⟨_, rfl⟩
        obtain ⟨q, hq⟩ : ∃ q, o2 + x3_1.toNat * 2 = q := ⟨_, rfl⟩
        have npq : ¬ p = q := by omega
        have nqp : ¬ q = p := by omega
        have np1 : ¬ p + 1 = q := by omega
        have nq1 : ¬ q + 1 = p := by omega
        have np2 : ¬ p = q + 1 := by omega
        have nq2 : ¬ q = p + 1 := by omega
        rw [i3, hq, e3] at hx563_0 hx563_1
        rw [i2, hp, e2] at hx8_0 hx8_1
        rw [i3, hq] at hf7_0 hf7_1
        rw [i2, hp] at hf8_0 hf8_1
        clear hfr7
        clear e2 e3 q2 q3
        have b3 : decide (x2_1 < x3_1) = true := decide_eq_true c3
        go_wp2
        refine start_ (n := 16) (S := fun w' => w'.cell? ⟨g, q, none⟩ = some (.int .u64 ((rd_T106 x0_1 x3_1).f0)) ∧ w'.cell? ⟨g, q + 1, none⟩ = some (.int .u64 ((rd_T106 x0_1 x3_1).f1)) ∧ w'.cell? ⟨g, p, none⟩ = some (.int .u64 ((rd_T106 x0_1 x2_1).f0)) ∧ w'.cell? ⟨g, p + 1, none⟩ = some (.int .u64 ((rd_T106 x0_1 x2_1).f1))) (ds := [13, 15]) #[false, false, false, false, false, false, false, false, false, false, false, false, false, false, false, false] (by kernel_rfl) rfl rfl ⟨hx563_0, hx563_1, hx8_0, hx8_1⟩ (fun hHeld => ?_); refine with_tabW proof_reverse.tab3 proof_reverse.bits3 (fun HT_ HW_ => ?_)
        generalize wr.drew = w10 at *
        refine pure_ (i := 0) (N := some 14) (v := ?_) (a' := ?_) #[true, false, false, false, false, false, false, false, false, false, false, false, false, false, false, false] rfl rfl (any_of HT_.out (by kernel_rfl)) (fun _ _ _ h => h) (Or.inl ⟨by rfl, ?_⟩) ?_ ?_
        rotate_left
        ·intro w'
         go_simp
         with_reducible rfl
        rotate_left
        ·simp only [Act.put, List.setIfInBounds_toArray, List.set_cons_zero, List.set_cons_succ, i64_w, i32_w]
         rfl
        refine pure_ (i := 1) (N := some 15) (v := ?_) (a' := ?_) #[true, true, false, false, false, false, false, false, false, false, false, false, false, false, false, false] rfl rfl (any_of HT_.out (by kernel_rfl)) (fun _ _ _ h => h) (Or.inl ⟨by rfl, ?_⟩) ?_ ?_
        rotate_left
        ·intro w'
         go_simp
         with_reducible rfl
        rotate_left
        ·simp only [Act.put, List.setIfInBounds_toArray, List.set_cons_zero, List.set_cons_succ, i64_w, i32_w]
         rfl
        refine pure_ (i := 2) (N := some 16) (v := ?_) (a' := ?_) #[true, true, true, false, false, false, false, false, false, false, false, false, false, false, false, false] rfl rfl (any_of HT_.out (by kernel_rfl)) (fun _ _ _ h => h) (Or.inl ⟨by rfl, ?_⟩) ?_ ?_
        rotate_left
        ·intro w'
         go_simp
         with_reducible rfl
        rotate_left
        ·simp only [Act.put, List.setIfInBounds_toArray, List.set_cons_zero, List.set_cons_succ, i64_w, i32_w]
         rfl
        refine pure_ (i := 3) (N := some 17) (v := ?_) (a' := ?_) #[true, true, true, true, false, false, false, false, false, false, false, false, false, false, false, false] rfl rfl (any_of HT_.out (by kernel_rfl)) (fun _ _ _ h => h) (Or.inl ⟨by rfl, ?_⟩) ?_ ?_
        rotate_left
        ·intro w'
         go_simp
         with_reducible rfl
        rotate_left
        ·simp only [Act.put, List.setIfInBounds_toArray, List.set_cons_zero, List.set_cons_succ, i64_w, i32_w]
         rfl
        refine pure_ (i := 4) (N := some 18) (v := ?_) (a' := ?_) #[true, true, true, true, true, false, false, false, false, false, false, false, false, false, false, false] rfl rfl (any_of HT_.out (by kernel_rfl)) (fun _ _ _ h => h) (Or.inl ⟨by rfl, ?_⟩) ?_ ?_
        rotate_left
        ·intro w'
         go_simp
         with_reducible rfl
        rotate_left
        ·simp only [Act.put, List.setIfInBounds_toArray, List.set_cons_zero, List.set_cons_succ, i64_w, i32_w]
         rfl
        refine pure_ (i := 5) (N := some 19) (v := ?_) (a' := ?_) #[true, true, true, true, true, true, false, false, false, false, false, false, false, false, false, false] rfl rfl (any_of HT_.out (by kernel_rfl)) (fun _ _ _ h => h) (Or.inl ⟨by rfl, ?_⟩) ?_ ?_
        rotate_left
        ·intro w'
         go_simp
         with_reducible rfl
        rotate_left
        ·simp only [Act.put, List.setIfInBounds_toArray, List.set_cons_zero, List.set_cons_succ, i64_w, i32_w]
         rfl
        refine pure_ (i := 6) (N := some 20) (v := ?_) (a' := ?_) #[true, true, true, true, true, true, true, false, false, false, false, false, false, false, false, false] rfl rfl (any_of HT_.out (by kernel_rfl)) (fun _ _ _ h => h) (Or.inl ⟨by rfl, ?_⟩) ?_ ?_
        rotate_left
        ·intro w'
         go_simp
         with_reducible rfl
        rotate_left
        ·simp only [Act.put, List.setIfInBounds_toArray, List.set_cons_zero, List.set_cons_succ, i64_w, i32_w]
         rfl
        refine pure_ (i := 8) (N := some 22) (v := ?_) (a' := ?_) #[true, true, true, true, true, true, true, false, true, false, false, false, false, false, false, false] rfl rfl (any_of HT_.out (by kernel_rfl)) (fun _ _ _ h => h) (Or.inl ⟨by rfl, ?_⟩) ?_ ?_
        rotate_left
        ·intro w'
         go_simp
         with_reducible rfl
        rotate_left
        ·simp only [Act.put, List.setIfInBounds_toArray, List.set_cons_zero, List.set_cons_succ, i64_w, i32_w]
         rfl
        refine pure_ (i := 9) (N := some 23) (v := ?_) (a' := ?_) #[true, true, true, true, true, true, true, false, true, true, false, false, false, false, false, false] rfl rfl (any_of HT_.out (by kernel_rfl)) (fun _ _ _ h => h) (Or.inl ⟨by rfl, ?_⟩) ?_ ?_
        rotate_left
        ·intro w'
         go_simp
         with_reducible rfl
        rotate_left
        ·simp only [Act.put, List.setIfInBounds_toArray, List.set_cons_zero, List.set_cons_succ, i64_w, i32_w]
         rfl
        refine pure_ (i := 10) (N := some 24) (v := ?_) (a' := ?_) #[true, true, true, true, true, true, true, false, true, true, true, false, false, false, false, false] rfl rfl (any_of HT_.out (by kernel_rfl)) (fun _ _ _ h => h) (Or.inl ⟨by rfl, ?_⟩) ?_ ?_
        rotate_left
        ·intro w'
         go_simp
         with_reducible rfl
        rotate_left
        ·simp only [Act.put, List.setIfInBounds_toArray, List.set_cons_zero, List.set_cons_succ, i64_w, i32_w]
         rfl
        refine take_ (i := 7) (N := some 21) (v := ?_) (a' := ?_) #[true, true, true, true, true, true, true, true, true, true, true, false, false, false, false, false] rfl rfl (take_ofW HT_.out HW_.out (by kernel_rfl)) (fun _ _ _ h => h) (Or.inl ⟨by rfl, ?_⟩) hHeld ?_ ?_
        rotate_left
        ·rintro w' ⟨s0, s1, s2, s3⟩
         go_simp
         with_reducible rfl
        rotate_left
        ·simp only [Act.put, List.setIfInBounds_toArray, List.set_cons_zero, List.set_cons_succ, i64_w, i32_w]
         rfl
        refine take_ (i := 11) (N := some 25) (v := ?_) (a' := ?_) #[true, true, true, true, true, true, true, true, true, true, true, true, false, false, false, false] rfl rfl (take_ofW HT_.out HW_.out (by kernel_rfl)) (fun _ _ _ h => h) (Or.inl ⟨by rfl, ?_⟩) hHeld ?_ ?_
        rotate_left
        ·rintro w' ⟨s0, s1, s2, s3⟩
         go_simp
         with_reducible rfl
        rotate_left
        ·simp only [Act.put, List.setIfInBounds_toArray, List.set_cons_zero, List.set_cons_succ, i64_w, i32_w]
         rfl
        refine pure_ (i := 12) (N := some 26) (v := ?_) (a' := ?_) #[true, true, true, true, true, true, true, true, true, true, true, true, true, false, false, false] rfl rfl (any_of HT_.out (by kernel_rfl)) (fun _ _ _ h => h) (Or.inl ⟨by rfl, ?_⟩) ?_ ?_
        rotate_left
        ·intro w'
         go_simp
         with_reducible rfl
        rotate_left
        ·simp only [Act.put, List.setIfInBounds_toArray, List.set_cons_zero, List.set_cons_succ, i64_w, i32_w]
         rfl
        refine last_ (i := 13) (N := none) #[true, true, true, true, true, true, true, true, true, true, true, true, true, true, false, false] rfl rfl (one_of HT_.out (by kernel_rfl)) (by decide) (fun K hK => ?_)
        refine skip_ (w1 := ?_) (by rfl) rfl ?_ ?_
        rotate_left
        ·go_simp
         rfl
        refine hK.out _ _ ?_
        clear hK K
        refine pure_ (i := 14) (N := some 27) (v := ?_) (a' := ?_) #[true, true, true, true, true, true, true, true, true, true, true, true, true, true, true, false] rfl rfl (any_of HT_.out (by kernel_rfl)) (fun _ _ _ h => h) (Or.inl ⟨by rfl, ?_⟩) ?_ ?_
        rotate_left
        ·intro w'
         go_simp
         with_reducible rfl
        rotate_left
        ·simp only [Act.put, List.setIfInBounds_toArray, List.set_cons_zero, List.set_cons_succ, i64_w, i32_w]
         rfl
        refine last_ (i := 15) (N := none) #[true, true, true, true, true, true, true, true, true, true, true, true, true, true, true, true] rfl rfl (one_of HT_.out (by kernel_rfl)) (by decide) (fun K hK => ?_)
        refine skip_ (w1 := ?_) (by rfl) rfl ?_ ?_
        rotate_left
        ·go_simp
         rfl
        refine hK.out _ _ ?_
        clear hK K
        refine done_ (done_of HT_.out (by kernel_rfl)) ?_
        try go_wp2
        go_roundg k1
        case measure => have := HK1.out; omega
        case rel =>
         have HMg2 : P0_ g ∨ w.heap.size ≤ g := .inl HMg.out
         refine ⟨(y566), (wrap64 (x2_1 + 1)), (wrap64 (x3_1 - 1)), (by first | rfl | (simp; done) | (simp [*]; done)), (by first | rfl | (simp; done) | (simp [*]; done)), HL6, H', ⟨by have := HK1.out; omega⟩, ⟨?_⟩, ⟨?_⟩, ⟨?_⟩⟩
         ·have hqr := HQ12.out
          have ez : k106.sz = 2 := rfl
          rw [ez, i2, i3, hp, hq] at hqr
          exact hqr
         ·repeat (first | (with_reducible first | exact HK.out | apply Kept.alloc | apply Kept.drewN | apply Kept.drew | refine Kept.setCell ?_ HMg2 _) | exact HK.out)
         ·have hgb := Kd.R_base HQ12.out g rfl
          repeat (first | (with_reducible first | exact HB.out | refine below_set ?_ hgb) | exact HB.out)
       ·rw [if_neg c7] at H
        exact absurd H (by simp)
      ·rw [if_neg c6] at H
       exact absurd H (by simp)
     ·rw [if_neg c5] at H
      exact absurd H (by simp)
    ·rw [if_neg c4] at H
     exact absurd H (by simp)
   ·rw [if_neg c3] at H
    have c3b0 : decide (x2_1 < x3_1) = false := decide_eq_false c3
    clear c3
    obtain rfl := Option.some.inj H
    go_wp2
    first | go_end0 | ((try simp only [Exit.inBlock, Exit.then]); refine bodyPost_ret (results_none rfl _ _ _) rfl ?_)
    exact ⟨rfl, HO_0.out, HB.out, HK.out⟩


/-! ### proof_nodes: function 102 -/
def sibs : Nat → Int → Int → Int → List S106 → Option (List S106)
 | 0, _, _, _, _ => none
 | k + 1, lv, ix, fl, acc => if lv < fl then (if acc.length < 1099511627776 then (compact_NodeID_Sibling.f lv ix).bind fun s => (compact_NodeID_Parent.f lv ix).bind fun p => sibs k p.1 p.2 fl (acc ++ [(⟨s.1, s.2⟩ : S106)]) else none) else some acc
set_option maxRecDepth 100000 in
theorem reverse_end (k : Nat) (P0_ : Nat → Prop) (A : Option Addr) (cap : Nat) (xs rv : List S106) (j : Nat) (w0 w : World) (hj : j ≤ xs.length) (hB : Below w0.heap.size w0 w) (ho0 : Kd.R k106 106 w w0.heap.size P0_ (.slice A xs.length cap) xs) (h : proof_reverse.f k (xs.drop j) = some rv) :
  Calls Tryd.prog 117 #[.slice (if cap = j then A else A.map (·.add (j * 2))) (xs.length - j) (cap - j)] w fun e w' => e = .returned (.tuple #[]) ∧ Kd.R k106 106 w' w0.heap.size (fun k_ => (P0_ k_ ∨ w.heap.size ≤ k_)) (.slice A xs.length cap) (xs.take j ++ rv) ∧ Below w0.heap.size w0 w' ∧ Kept w w' (fun k_ => P0_ k_) := by
 by_cases hz : xs.length - j = 0
 ·rw [hz]
  refine (reverse_nil _ _ w).mono fun e w' ⟨he, hw⟩ => ?_
  subst hw
  have e0 : xs.drop j = [] := List.drop_of_length_le (by omega)
  rw [e0] at h
  have hrv : rv = [] := by
   unfold proof_reverse.f at h
   cases k with
   | zero => simp [proof_reverse.l0] at h
   | succ k => simp [proof_reverse.l0, wrap64] at h; exact h
  subst hrv
  rw [List.take_of_length_le (by omega), List.append_nil]
  exact ⟨he, Kd.R_mono ho0 (fun _ h => .inl h), hB, Kept.refl _ _⟩
 ·have hcap := (Kd.R_reads' ho0).2.1
  rw [if_neg (by omega)]
  cases A with
  | none =>
   exfalso
   obtain ⟨_, inner, ho, _⟩ := ho0
   rcases ho.2 with ⟨_, h0⟩ | ⟨g', cap', cur, hv', _⟩
   ·omega
   ·cases hv'
  | some ad =>
   obtain ⟨g, rfl⟩ := Kd.R_head ho0
   have hl : (xs.take j).length = j := by rw [List.length_take]; omega
   have hd : (xs.drop j).length = xs.length - j := List.length_drop
   have ha : xs.take j ++ xs.drop j = xs := List.take_append_drop j xs
   have := reverse_cut k P0_ g (j * 2) cap (cap - j) (xs.take j) (xs.drop j) rv w0 w hB (by rw [hl]) (by rw [ha]; exact ho0) h
   rw [ha, hd] at this
   have e : (some (⟨g, 0, none⟩ : Addr)).map (·.add (j * 2)) = some ⟨g, j * 2, none⟩ := by rw [Option.map_some, add_at, Nat.zero_add]
   rw [e]
   exact this
theorem reverse_endv (k : Nat) (P0_ : Nat → Prop) (v : Value) (A : Option Addr) (cap : Nat) (xs rv : List S106) (j : Nat) (w0 w : World) (hv : v = .slice (if cap = j then A else A.map (·.add (j * 2))) (xs.length - j) (cap - j)) (hj : j ≤ xs.length) (hB : Below w0.heap.size w0 w) (ho0 : Kd.R k106 106 w w0.heap.size P0_ (.slice A xs.length cap) xs) (h : proof_reverse.f k (xs.drop j) = some rv) :
  Calls Tryd.prog 117 #[v] w fun e w' => e = .returned (.tuple #[]) ∧ Kd.R k106 106 w' w0.heap.size (fun k_ => (P0_ k_ ∨ w.heap.size ≤ k_)) (.slice A xs.length cap) (xs.take j ++ rv) ∧ Below w0.heap.size w0 w' ∧ Kept w w' (fun k_ => P0_ k_) := by
 subst hv
 exact reverse_end k P0_ A cap xs rv j w0 w hj hB ho0 h
theorem nd_cut (A : Option Addr) (c n j : Nat) (hj : j ≤ n) : ∃ v : Value, v = .slice (if c = j then A else A.map (·.add (j * 2))) (n - j) (c - j) ∧ ∀ W, (Instr.slice 120 (.slice A n c) (some (.int .i64 (j : Int))) none none).run Tryd.prog W = .ok v W := by
 obtain ⟨i0, hi, _, hsz, _⟩ := info_parts info106
 refine ⟨_, rfl, fun W => ?_⟩
 have h := cut_from (P := Tryd.prog) 120 106 .i64 Tryd.underlying120 hi 2 hsz A n c (j : Int) (by omega) (by omega) W
 rw [Int.toNat_natCast] at h
 exact h
set_option maxRecDepth 100000 in
theorem nd_made (P : Nat → Prop) (W : World) (B : Nat) (M : Array Value) (c : Nat) (hM : M.size = c * 2) (hb : B ≤ W.heap.size) (hc : c ≤ maxLen) (hP : P W.heap.size) :
  Kd.R k106 106 (W.alloc (.cells M 106)) B P (.slice (some ⟨W.heap.size, 0, none⟩) 0 c) [] := by
 refine ⟨fun k hk => ?_, [], World.ownsRow_made W M c hb hc hM, ?_⟩
 ·have : W.heap.size = k := by simpa [Value.ownBlock] using hk
  rw [← this]; exact hP
 ·exact ⟨rfl, fun j p hj => by simp at hj⟩
theorem nd_size (W : World) (o : Obj) : (W.alloc o).heap.size = W.heap.size + 1 := by simp
set_option maxRecDepth 100000 in
theorem nd_lit (W : World) (b : Nat) (x y : Int) (h : W.heap[b]? = some (.cells #[.int .u64 x, .int .u64 y] 106 (0, 0))) : Kd.C k106 W (some ⟨b, 0, none⟩) 1 [(⟨x, y⟩ : S106)] := by
 refine ⟨rfl, by decide, fun _ => ⟨_, rfl, fun j p hj => ?_⟩⟩
 match j, hj with
 | 0, hj =>
  injection hj with hj
  subst hj
  refine ⟨[.int .u64 x, .int .u64 y], rfl, ⟨[.int .u64 x], [.int .u64 y], rfl, rfl, rfl⟩, fun i u hu => ?_⟩
  ·match i, hu with
   | 0, hu => injection hu with hu; subst hu; exact (blk_cell h 0).trans rfl
   | 1, hu => injection hu with hu; subst hu; exact (blk_cell h 1).trans rfl
set_option maxHeartbeats 8000000 in
set_option maxRecDepth 100000 in
theorem nodes_a (k : Nat) (a0 a1 a2 : Int) (w : World) (hT : TabOK w) (s1 x1 inn fl fi c1 c2 lf rt : Int) (b0 : 0 ≤ a1) (b1 : a1 ≤ 63) (hs1 : shr .u64 a2 a1 = s1) (hx1 : Go.bits .xor .u64 a0 s1 = x1) (hL : bits_Len64.f x1 = some (inn + 1)) (i0 : 0 ≤ inn) (i1 : inn ≤ 63)
  (hfl : a1 + inn = fl) (hfi : shr .u64 a0 inn = fi) (hcv : compact_NodeID_Coverage.f fl fi = some (c1, c2)) (hlf : compact_RangeSize.f 0 c1 = some lf) (hrt : compact_RangeSize.f c2 a2 = some rt) (l0 : 0 ≤ lf) (l1 : lf ≤ 200) (r0 : 0 ≤ rt) (r1 : rt ≤ 200) (n1 : List S106) (hn1 : sibs k a1 a0 fl [(⟨a1, a0⟩ : S106)] = some n1)
  (n2 v2 n3 v3 : List S106) (e1 e2 : Int) (hn2 : compact_RangeNodes.f k c2 a2 n1 = some n2) (g2 : rt ≤ (n2.length : Int)) (q2 : n2.length ≤ 1099511627776) (hv2 : proof_reverse.f k (n2.drop ((n2.length : Int) - rt).toNat) = some v2) (hn3 : compact_RangeNodes.f k 0 c1 (n2.take ((n2.length : Int) - rt).toNat ++ v2) = some n3) (g3 : lf ≤ (n3.length : Int)) (q3 : n3.length ≤ 1099511627776) (hv3 : proof_reverse.f k (n3.drop ((n3.length : Int) - lf).toNat) = some v3) (he : compact_NodeID_Sibling.f fl fi = some (e1, e2)) (hl2 : (n2.take ((n2.length : Int) - rt).toNat ++ v2).length = n2.length) (hl3 : (n3.take ((n3.length : Int) - lf).toNat ++ v3).length = n3.length) :
  Calls Tryd.prog 102 #[.int .u64 a0, .int .u64 a1, .int .u64 a2] w fun e w' => ∃ v0_ : Value, e = .returned (.agg #[v0_, .int .i64 (if n2.length ≤ n1.length then 0 else (n1.length : Int)), .int .i64 (if n2.length ≤ n1.length then 0 else (n2.length : Int)), .int .u64 e1, .int .u64 e2]) ∧ Kd.R k106 106 w' w.heap.size (fun _ => True) v0_ (n3.take ((n3.length : Int) - lf).toNat ++ v3) ∧ Below w.heap.size w w' := by
 have hu := Tryd.underlying122
 have hu2 := Tryd.underlying106
 have hs1z : a2 / 2 ^ a1.toNat = s1 := shr_small hs1 (by show a1 ≤ 64; omega)
 have hfiz : a0 / 2 ^ inn.toNat = fi := shr_small hfi (by show inn ≤ 64; omega)
 have HT := Aside0.mk hT
 have HLn := Aside0.mk hL
 have HCV := Aside0.mk hcv
 have HLF := Aside0.mk hlf
 have HRT := Aside0.mk hrt
 clear hT hL hcv hlf hrt
 go_enter Tryd.func102, Tryd.ntmps102
 go_upto_region 7 with (first
  | (go_at_call 109; (with_reducible refine (bits_Len64.calls x1 (inn + 1) _ HLn.out).mono ?_); rintro e w1 ⟨rfl, ⟨nd, rfl⟩⟩; have kR := blk_drewN (blk_new w (Obj.cells #[.slice none 0 0, .int .i64 0, .int .i64 0, .int .u64 0, .int .u64 0] 122)) nd; have hB0 := pw_below_drewN (below_alloc (Below.refl w.heap.size w) (Obj.cells #[.slice none 0 0, .int .i64 0, .int .i64 0, .int .u64 0, .int .u64 0] 122)) nd; generalize World.drewN (World.alloc w _) nd = W1 at kR hB0 ⊢)
  | (go_at_call 92; (with_reducible refine (compact_NewNodeID.calls fl fi fl fi _ rfl).mono ?_); rintro e w2 ⟨rfl, hB⟩; replace kR := blk_below kR hB; replace hB0 := below_step hB0 hB; clear hB)
  | (go_at_call 92; (with_reducible refine (compact_NewNodeID.calls a1 a0 a1 a0 _ rfl).mono ?_); rintro e w6 ⟨rfl, hB⟩; replace kR := blk_below kR hB; replace kF := blk_below kF hB; replace hB0 := below_step hB0 hB; clear hB)
  | (go_at_call 115; (with_reducible refine (compact_NodeID_Coverage.calls fl fi c1 c2 _ HCV.out).mono ?_); rintro e w3 ⟨rfl, hB⟩; have kF := blk_below (blk_new w2 (Obj.cells #[.int .u64 fl, .int .u64 fi] 106)) hB; have nFR := blk_lt kR; replace kR := blk_below (blk_alloc kR _) hB; replace hB0 := below_step (below_alloc hB0 _) hB; clear hB; generalize w2.heap.size = bF at kF nFR ⊢)
  | (go_at_call 91; (with_reducible refine (compact_RangeSize.calls 0 c1 lf _ HLF.out).mono ?_); rintro e w' ⟨rfl, ⟨nd, rfl⟩⟩; replace kR := blk_drewN kR nd; replace kF := blk_drewN kF nd; replace hB0 := pw_below_drewN hB0 nd; generalize World.drewN w3 nd = w4 at kR kF hB0 ⊢)
  | (go_at_call 91; (with_reducible refine (compact_RangeSize.calls c2 a2 rt _ HRT.out).mono ?_); rintro e w' ⟨rfl, ⟨nd, rfl⟩⟩; replace kR := blk_drewN kR nd; replace kF := blk_drewN kF nd; replace hB0 := pw_below_drewN hB0 nd; generalize World.drewN w4 nd = w5 at kR kF hB0 ⊢))
 have kN := blk_new w6 (Obj.cells #[.int .u64 a1, .int .u64 a0] 106)
 have nNF := blk_lt kF
 replace kF := blk_alloc kF (Obj.cells #[.int .u64 a1, .int .u64 a0] 106)
 replace kR := blk_alloc kR (Obj.cells #[.int .u64 a1, .int .u64 a0] 106)
 replace hB0 := below_alloc hB0 (Obj.cells #[.int .u64 a1, .int .u64 a0] 106)
 generalize w6.heap.size = bN at kN nNF ⊢
 generalize World.alloc w6 _ = w7 at kN kF kR hB0 ⊢
 have HKR := Aside0.mk kR
 have HKF := Aside0.mk kF
 have HKN := Aside0.mk kN
 have HB0 := Aside0.mk hB0
 have nNl := blk_lt kN
 clear kR kF hB0
 obtain ⟨cp, hcp⟩ : ∃ cp, 1 + inn + rt + lf = cp := ⟨_, rfl⟩
 go_cut [14] from 45 to 54 (fun v14 wc => Aside0 (Kd.R k106 106 wc w.heap.size (fun k_ => w7.heap.size ≤ k_) v14 [(⟨a1, a0⟩ : S106)]) ∧ Aside0 (Below w7.heap.size w7 wc))
 case first =>
  have ecN0 : w7.cell? ⟨bN, 0, none⟩ = some (.int .u64 a1) := (blk_cell kN 0).trans rfl
  have ecN1 : w7.cell? ⟨bN, 1, none⟩ = some (.int .u64 a0) := (blk_cell kN 1).trans rfl
  clear kN
  obtain ⟨cn, hcn⟩ := Int.eq_ofNat_of_zero_le (show 0 ≤ cp by omega)
  subst hcn
  have cn1 : cn ≤ 1000 := by omega
  obtain ⟨p1, hp1⟩ : ∃ p1, 1 + inn = p1 := ⟨_, rfl⟩
  obtain ⟨p2, hp2⟩ : ∃ p2, p1 + rt = p2 := ⟨_, rfl⟩
  have hw1 : IntKind.i64.wrap (1 + inn) = p1 := by rw [i64_w]; unfold wrap64; omega
  have hw2 : IntKind.i64.wrap (p1 + rt) = p2 := by rw [i64_w]; unfold wrap64; omega
  have hw3 : IntKind.i64.wrap (p2 + lf) = (cn : Int) := by rw [i64_w]; unfold wrap64; omega
  clear hp1 hp2
  obtain ⟨M, hM, hmk⟩ : ∃ M : Array Value, M.size = cn * 2 ∧ ∀ W : World, (Instr.makeSlice 120 (.int .i64 0) (.int .i64 (cn : Int))).run Tryd.prog W = .ok (.slice (some ⟨W.heap.size, 0, none⟩) 0 cn) (W.alloc (.cells M 106)) := by
   obtain ⟨i0, hi, hzz⟩ := Option.map_eq_some_iff.1 info106
   simp only [Prod.mk.injEq] at hzz
   obtain ⟨hz0, hz1, hz2⟩ := hzz
   refine ⟨madeCells (Value.agg #[.int .u64 0, .int .u64 0]).cells (cn * 2), size_madeCells _ _, fun W => ?_⟩
   have h := run_make (P := Tryd.prog) W 120 106 i0 _ Tryd.underlying120 hi hz0 .i64 .i64 0 (cn : Int) (by decide) (by omega) (by rw [hz2]; omega) (by omega)
   rw [hz1] at h
   exact h
  have HM := Aside0.mk hM
  clear hM
  go_region_law (first | (refine Kd.R_append_rows_step k106 (Rr := k106.K _) (w0 := w7) w7.heap.size (by rfl) (.tmp 51) (.tmp 53) 120 106 (.agg #[.int .u64 0, .int .u64 0]) 16 (by rfl) Tryd.underlying120 info106 rfl (by decide) (by decide) (.slice (some ⟨w7.heap.size, 0, none⟩) 0 cn) ([] : List S106) [(⟨a1, a0⟩ : S106)] (some ⟨w7.heap.size + 1, 0, none⟩) 1 1 (fun k_ => w7.heap.size ≤ k_) (fun _ => False) (by rfl) (by rfl) (Kd.R_drew (Kd.R_alloc (nd_made (fun k_ => w7.heap.size ≤ k_) w7 w7.heap.size M cn HM.out (Nat.le_refl _) (by unfold maxLen; omega) (Nat.le_refl _)) _)) (nd_lit _ _ a1 a0 (by have h := blk_drew (blk_new (w7.alloc (Obj.cells M 106)) (Obj.cells #[.int .u64 a1, .int .u64 a0] 106)); rwa [nd_size] at h)) (fun x cs hx => hx) (fun _ h => h.elim) (fun k_ h_ => Nat.le_trans (below_drew (below_alloc (below_alloc (Below.refl w7.heap.size w7) (Obj.cells M 106)) (Obj.cells #[.int .u64 a1, .int .u64 a0] 106))).size h_) (below_drew (below_alloc (below_alloc (Below.refl w7.heap.size w7) (Obj.cells M 106)) (Obj.cells #[.int .u64 a1, .int .u64 a0] 106))) (below_drew (below_alloc (below_alloc (Below.refl w7.heap.size w7) (Obj.cells M 106)) (Obj.cells #[.int .u64 a1, .int .u64 a0] 106))).size (by simp) ?_; intro v1 w1 hR1 hb1 hg1 hat1) | (refine Kd.R_append_rows_step k106 (Rr := k106.K _) (w0 := w7) w7.heap.size (by rfl) (.tmp 51) (.tmp 53) 120 106 (.agg #[.int .u64 0, .int .u64 0]) 16 (by rfl) Tryd.underlying120 info106 rfl (by decide) (by decide) (.slice (some ⟨w7.heap.size + 1, 0, none⟩) 0 cn) ([] : List S106) [(⟨a1, a0⟩ : S106)] (some ⟨w7.heap.size, 0, none⟩) 1 1 (fun k_ => w7.heap.size ≤ k_) (fun _ => False) (by rfl) (by rfl) (by have h := Kd.R_drew (nd_made (fun k_ => w7.heap.size ≤ k_) (w7.alloc (Obj.cells #[.int .u64 a1, .int .u64 a0] 106)) w7.heap.size M cn HM.out (by rw [nd_size]; omega) (by unfold maxLen; omega) (by rw [nd_size]; omega)); rwa [nd_size] at h) (nd_lit _ _ a1 a0 (blk_drew (blk_alloc (blk_new w7 (Obj.cells #[.int .u64 a1, .int .u64 a0] 106)) (Obj.cells M 106)))) (fun x cs hx => hx) (fun _ h => h.elim) (fun k_ h_ => Nat.le_trans (below_drew (below_alloc (below_alloc (Below.refl w7.heap.size w7) (Obj.cells #[.int .u64 a1, .int .u64 a0] 106)) (Obj.cells M 106))).size h_) (below_drew (below_alloc (below_alloc (Below.refl w7.heap.size w7) (Obj.cells #[.int .u64 a1, .int .u64 a0] 106)) (Obj.cells M 106))) (below_drew (below_alloc (below_alloc (Below.refl w7.heap.size w7) (Obj.cells #[.int .u64 a1, .int .u64 a0] 106)) (Obj.cells M 106))).size (by simp) ?_; intro v1 w1 hR1 hb1 hg1 hat1))
  all_goals
   go_wp2
   go_meet
   case rel => exact ⟨⟨Kd.R_lower hR1 HB0.out.size⟩, ⟨hb1⟩⟩
 case rest =>
  obtain ⟨HR0, HBc⟩ := hcut
  clear kN
  have hbs := HBc.out.size
  have HK1 := Aside0.mk (blk_below HKR.out HBc.out)
  have HK2 := Aside0.mk (blk_below HKF.out HBc.out)
  have HK3 := Aside0.mk (blk_below HKN.out HBc.out)
  have HB1 := Aside0.mk (below_step HB0.out HBc.out)
  have HR1 := Aside0.mk (Kd.R_mono (ok' := (fun k_ => k_ ≠ w.heap.size ∧ k_ ≠ bF ∧ k_ ≠ bN)) HR0.out (fun k_ hk => ⟨by omega, by omega, by omega⟩))
  have HS := Aside0.mk hn1
  clear hn1 HR0 HBc HKR HKF HKN HB0
  go_wp2
  go_loopg [14] k (fun kq v14 w' => ∃ (lv ix : Int) (xs : List S106), Aside0 (w'.heap[bN]? = some (.cells #[.int .u64 lv, .int .u64 ix] 106 (0, 0))) ∧ Aside0 (sibs kq lv ix fl xs = some n1) ∧ Aside0 (kq ≤ k) ∧ Aside0 (Kd.R k106 106 w' w.heap.size (fun k_ => k_ ≠ w.heap.size ∧ k_ ≠ bF ∧ k_ ≠ bN) v14 xs) ∧ Aside0 (w'.heap[bF]? = some (.cells #[.int .u64 fl, .int .u64 fi] 106 (0, 0))) ∧ Aside0 (w'.heap[w.heap.size]? = some (.cells #[.slice none 0 0, .int .i64 0, .int .i64 0, .int .u64 0, .int .u64 0] 122 (0, 0))) ∧ Aside0 (Below w.heap.size w w'))
  case atStart => exact ⟨a1, a0, _, HK3, HS, ⟨Nat.le_refl _⟩, HR1, HK2, HK1, HB1⟩
  case round =>
   clear HK1 HK2 HK3 HB1 HR1 HS
   obtain ⟨lv, ix, xs, HKn, HA, HKq, HR, HKf, HKr, HB⟩ := hrel
   cases gk with
   | zero => exact absurd HA.out (by simp [sibs])
   | succ kk =>
    have H := HA.out
    clear HA
    simp only [sibs] at H
    have eN0 : wr.cell? ⟨bN, 0, none⟩ = some (.int .u64 lv) := (blk_cell HKn.out 0).trans rfl
    have eN1 : wr.cell? ⟨bN, 1, none⟩ = some (.int .u64 ix) := (blk_cell HKn.out 1).trans rfl
    have eF0 : wr.cell? ⟨bF, 0, none⟩ = some (.int .u64 fl) := (blk_cell HKf.out 0).trans rfl
    have eF1 : wr.cell? ⟨bF, 1, none⟩ = some (.int .u64 fi) := (blk_cell HKf.out 1).trans rfl
    by_cases c : lv < fl
    ·rw [if_pos c] at H
     by_cases cl : xs.length < 1099511627776
     ·rw [if_pos cl] at H
      obtain ⟨⟨s1', s2'⟩, hs, H⟩ := Option.bind_eq_some_iff.mp H
      obtain ⟨⟨p1', p2'⟩, hp, H⟩ := Option.bind_eq_some_iff.mp H
      have HSb := Aside0.mk hs
      have HPa := Aside0.mk hp
      have HN := Aside0.mk H
      clear hs hp H
      obtain ⟨A9, c9, rfl⟩ := Kd.R_slice HR.out
      go_wp2_with (first
       | (go_at_call 116; (with_reducible refine (compact_NodeID_Sibling.calls lv ix s1' s2' _ HSb.out).mono ?_); rintro e w1 ⟨rfl, hB⟩; replace eN0 := (hB.cell (World.block_lt_of_cell? wr _ eN0)).trans eN0; replace eN1 := (hB.cell (World.block_lt_of_cell? wr _ eN1)).trans eN1; have HR2 := Aside0.mk (Kd.R_below HR.out hB); have HKn2 := Aside0.mk (blk_below HKn.out hB); have HKf2 := Aside0.mk (blk_below HKf.out hB); have HKr2 := Aside0.mk (blk_below HKr.out hB); have HB2 := Aside0.mk (below_step HB.out hB); clear hB)
       | ((with_reducible refine gate_builtin (b := .append) (xs := #[.tmp 62, .tmp 65]) rfl ?_); at_builtin; refine Kd.R_append k106 (w0 := w) w.heap.size rfl (.tmp 62) (.tmp 65) 120 106 (.agg #[.int .u64 0, .int .u64 0]) 16 rfl Tryd.underlying120 info106 rfl (by decide) (by omega) (.slice A9 xs.length c9) xs (⟨s1', s2'⟩ : S106) [.int .u64 s1', .int .u64 s2'] (fun k_ => k_ ≠ w.heap.size ∧ k_ ≠ bF ∧ k_ ≠ bN) (fun _ => False) rfl rfl (k106_mkM _ _ _ (⟨s1', s2'⟩ : S106)) (fun _ hk => hk.elim) (fun k_ hk => ⟨by have := blk_lt HKr2.out; omega, by have := blk_lt HKf2.out; omega, by have := blk_lt HKn2.out; omega⟩) HR2.out HB2.out HB2.out.size (by omega) ?_; intro v8 w8 ho hb hg hat; have HR3 := Aside0.mk ho; have HB3 := Aside0.mk hb; have HKn3 := Aside0.mk (blk_grown HKn2.out hg (fun e => (HR2.out.1 _ e.symm).2.2 rfl)); have HKf3 := Aside0.mk (blk_grown HKf2.out hg (fun e => (HR2.out.1 _ e.symm).2.1 rfl)); have HKr3 := Aside0.mk (blk_grown HKr2.out hg (fun e => (HR2.out.1 _ e.symm).1 rfl)); clear ho hb hg hat; clear eN0 eN1; have eN0 : w8.cell? ⟨bN, 0, none⟩ = some (.int .u64 lv) := (blk_cell HKn3.out 0).trans rfl; have eN1 : w8.cell? ⟨bN, 1, none⟩ = some (.int .u64 ix) := (blk_cell HKn3.out 1).trans rfl)
       | (go_at_call 66; (with_reducible refine (compact_NodeID_Parent.calls lv ix p1' p2' _ HPa.out).mono ?_); rintro e w9 ⟨rfl, hB⟩; replace eN0 := (hB.cell (World.block_lt_of_cell? w8 _ eN0)).trans eN0; replace eN1 := (hB.cell (World.block_lt_of_cell? w8 _ eN1)).trans eN1; have HR4 := Aside0.mk (Kd.R_below HR3.out hB); have HKn4 := Aside0.mk (blk_below HKn3.out hB); have HKf4 := Aside0.mk (blk_below HKf3.out hB); have HKr4 := Aside0.mk (blk_below HKr3.out hB); have HB4 := Aside0.mk (below_step HB3.out hB); have f0 := blk_frozen HKn4.out 0; have f1 := blk_frozen HKn4.out 1; clear hB))
      go_roundg kk
      case measure => have := HKq.out; omega
      case rel =>
       have hne1 : ∀ k_, k_ ≠ w.heap.size ∧ k_ ≠ bF ∧ k_ ≠ bN → k_ ≠ bN := fun _ h => h.2.2
       exact ⟨p1', p2', xs ++ [(⟨s1', s2'⟩ : S106)], ⟨blk_put (blk_put HKn4.out 0 _ rfl) 1 _ rfl⟩, HN, ⟨by have := HKq.out; omega⟩, ⟨Kd.R_far (p := ⟨bN, 1, none⟩) (Kd.R_far (p := ⟨bN, 0, none⟩) HR4.out hne1 _) hne1 _⟩, ⟨blk_far (blk_far HKf4.out (by simp; omega) _) (by simp; omega) _⟩, ⟨blk_far (blk_far HKr4.out (by simp; omega) _) (by simp; omega) _⟩, ⟨(HB4.out.setCell (by simp; omega) _).setCell (by simp; omega) _⟩⟩
     ·rw [if_neg cl] at H; exact absurd H (by simp)
    ·rw [if_neg c] at H
     have HXN := Aside0.mk (Option.some.inj H)
     clear H
     have bc : decide (lv < fl) = false := decide_eq_false c
     have GG := Aside0.mk HXN.out
     rw [HXN.out] at HR
     clear HXN
     obtain ⟨A9, c9, rfl⟩ := Kd.R_slice HR.out
     obtain ⟨j2, hj2⟩ : ∃ j2 : Nat, (n2.length : Int) - rt = (j2 : Int) := ⟨((n2.length : Int) - rt).toNat, by omega⟩
     obtain ⟨j3, hj3⟩ : ∃ j3 : Nat, (n3.length : Int) - lf = (j3 : Int) := ⟨((n3.length : Int) - lf).toNat, by omega⟩
     have hw2 : IntKind.i64.wrap ((n2.length : Int) - rt) = (j2 : Int) := by rw [i64_w]; unfold wrap64; omega
     have hw3 : IntKind.i64.wrap ((n3.length : Int) - lf) = (j3 : Int) := by rw [i64_w]; unfold wrap64; omega
     rw [hj2, Int.toNat_natCast] at hv2 hn3 hl2
     rw [hj3, Int.toNat_natCast] at hv3 hl3
     obtain ⟨z2, hz2⟩ : ∃ z, z = n2.take j2 ++ v2 := ⟨_, rfl⟩
     obtain ⟨z3, hz3⟩ : ∃ z, z = n3.take j3 ++ v3 := ⟨_, rfl⟩
     have HJ3 := Aside0.mk hj3
     rw [← hz2] at hn3 hl2
     rw [← hz3] at hl3
     have HZ2 := Aside0.mk hz2
     have HZ3 := Aside0.mk hz3
     have HL2 := Aside0.mk hl2
     have HL3 := Aside0.mk hl3
     have HN2 := Aside0.mk hn2
     have HV2 := Aside0.mk hv2
     have HN3 := Aside0.mk hn3
     have HV3 := Aside0.mk hv3
     have HE := Aside0.mk he
     have jb2 : j2 ≤ n2.length := by omega
     have jb3 : j3 ≤ n3.length := by omega
     clear hn2 hv2 hn3 hv3 he hl2 hl3 hz2 hz3
     go_upto_region 13 with (go_at_call 79; (with_reducible refine (compact_RangeNodes.calls k c2 a2 (fun k_ => k_ ≠ w.heap.size ∧ k_ ≠ bF ∧ k_ ≠ bN) _ n1 n2 w _ HT.out HB.out HR.out HN2.out).mono ?_); rintro e w11 ⟨v, rfl, hR, hB, hK⟩; obtain ⟨A11, c11, rfl⟩ := Kd.R_slice hR; have HR11 := Aside0.mk (Kd.R_mono (ok' := (fun k_ => k_ ≠ w.heap.size ∧ k_ ≠ bF ∧ k_ ≠ bN)) hR (fun k_ hk => hk.elim id (fun hk => ⟨by have := blk_lt HKr.out; omega, by have := blk_lt HKf.out; omega, by have := blk_lt HKn.out; omega⟩))); have HKn11 := Aside0.mk ((hK.2 _ (blk_lt HKn.out) (fun h => h.2.2 rfl)).trans HKn.out); have HKf11 := Aside0.mk ((hK.2 _ (blk_lt HKf.out) (fun h => h.2.1 rfl)).trans HKf.out); have HKr11 := Aside0.mk ((hK.2 _ (blk_lt HKr.out) (fun h => h.1 rfl)).trans HKr.out); have HB11 := Aside0.mk hB; clear hR hB hK)
     obtain ⟨q2v, hq2, hc2⟩ := nd_cut A11 c11 n2.length j2 jb2
     have HQ2 := Aside0.mk hq2
     clear hq2
     go_upto_region 16 with (first | (go_at_call 117; (with_reducible refine (reverse_endv k (fun k_ => k_ ≠ w.heap.size ∧ k_ ≠ bF ∧ k_ ≠ bN) q2v A11 c11 n2 v2 j2 w _ HQ2.out (by omega) HB11.out HR11.out HV2.out).mono ?_); rintro e w12 ⟨rfl, hR, hB, hK⟩; have HR12 := Aside0.mk (show Kd.R k106 106 w12 w.heap.size (fun k_ => k_ ≠ w.heap.size ∧ k_ ≠ bF ∧ k_ ≠ bN) (.slice A11 n2.length c11) z2 from by rw [HZ2.out]; exact Kd.R_mono (ok' := (fun k_ => k_ ≠ w.heap.size ∧ k_ ≠ bF ∧ k_ ≠ bN)) hR (fun k_ hk => hk.elim id (fun hk => ⟨by have := blk_lt HKr11.out; omega, by have := blk_lt HKf11.out; omega, by have := blk_lt HKn11.out; omega⟩))); have HKn12 := Aside0.mk ((hK.2 _ (blk_lt HKn11.out) (fun h => h.2.2 rfl)).trans HKn11.out); have HKf12 := Aside0.mk ((hK.2 _ (blk_lt HKf11.out) (fun h => h.2.1 rfl)).trans HKf11.out); have HKr12 := Aside0.mk ((hK.2 _ (blk_lt HKr11.out) (fun h => h.1 rfl)).trans HKr11.out); have HB12 := Aside0.mk hB; clear hR hB hK) | (go_at_call 79; (with_reducible refine (compact_RangeNodes.calls k 0 c1 (fun k_ => k_ ≠ w.heap.size ∧ k_ ≠ bF ∧ k_ ≠ bN) _ z2 n3 w _ HT.out HB12.out HR12.out HN3.out).mono ?_); rintro e w13 ⟨v, rfl, hR, hB, hK⟩; obtain ⟨A13, c13, rfl⟩ := Kd.R_slice hR; have HR13 := Aside0.mk (Kd.R_mono (ok' := (fun k_ => k_ ≠ w.heap.size ∧ k_ ≠ bF ∧ k_ ≠ bN)) hR (fun k_ hk => hk.elim id (fun hk => ⟨by have := blk_lt HKr12.out; omega, by have := blk_lt HKf12.out; omega, by have := blk_lt HKn12.out; omega⟩))); have HKn13 := Aside0.mk ((hK.2 _ (blk_lt HKn12.out) (fun h => h.2.2 rfl)).trans HKn12.out); have HKf13 := Aside0.mk ((hK.2 _ (blk_lt HKf12.out) (fun h => h.2.1 rfl)).trans HKf12.out); have HKr13 := Aside0.mk ((hK.2 _ (blk_lt HKr12.out) (fun h => h.1 rfl)).trans HKr12.out); have HB13 := Aside0.mk hB; clear hR hB hK))
     obtain ⟨q3v, hq3, hc3⟩ := nd_cut A13 c13 n3.length j3 jb3
     have HQ3 := Aside0.mk hq3
     clear hq3
     by_cases cc : n2.length ≤ n1.length
     ·have cc0 : (n2.length : Int) ≤ (n1.length : Int) := by omega
      have cc1 : decide ((n2.length : Int) ≤ (n1.length : Int)) = true := decide_eq_true cc0
      go_wp2_with (first
       | (go_at_call 117; (with_reducible refine (reverse_endv k (fun k_ => k_ ≠ w.heap.size ∧ k_ ≠ bF ∧ k_ ≠ bN) q3v A13 c13 n3 v3 j3 w _ HQ3.out (by omega) HB13.out HR13.out HV3.out).mono ?_); rintro e w14 ⟨rfl, hR, hB, hK⟩; have HR14 := Aside0.mk (show Kd.R k106 106 w14 w.heap.size (fun k_ => k_ ≠ w.heap.size ∧ k_ ≠ bF ∧ k_ ≠ bN) (.slice A13 n3.length c13) z3 from by rw [HZ3.out]; exact Kd.R_mono (ok' := (fun k_ => k_ ≠ w.heap.size ∧ k_ ≠ bF ∧ k_ ≠ bN)) hR (fun k_ hk => hk.elim id (fun hk => ⟨by have := blk_lt HKr13.out; omega, by have := blk_lt HKf13.out; omega, by have := blk_lt HKn13.out; omega⟩))); have HKf14 := Aside0.mk ((hK.2 _ (blk_lt HKf13.out) (fun h => h.2.1 rfl)).trans HKf13.out); have HKr14 := Aside0.mk ((hK.2 _ (blk_lt HKr13.out) (fun h => h.1 rfl)).trans HKr13.out); have HB14 := Aside0.mk hB; clear hR hB hK; have gF0 : w14.cell? ⟨bF, 0, none⟩ = some (.int .u64 fl) := (blk_cell HKf14.out 0).trans rfl; have gF1 : w14.cell? ⟨bF, 1, none⟩ = some (.int .u64 fi) := (blk_cell HKf14.out 1).trans rfl)
       | (go_at_call 116; (with_reducible refine (compact_NodeID_Sibling.calls fl fi e1 e2 _ HE.out).mono ?_); rintro e w15 ⟨rfl, hB⟩; have HR15 := Aside0.mk (Kd.R_below HR14.out hB); have HKr15 := Aside0.mk (blk_below HKr14.out hB); have HB15 := Aside0.mk (below_step HB14.out hB); clear hB; have f0 := blk_frozen HKr15.out 0; have f1 := blk_frozen HKr15.out 1; have f2 := blk_frozen HKr15.out 2; have f3 := blk_frozen HKr15.out 3; have f4 := blk_frozen HKr15.out 4; have r0 : w15.cell? ⟨w.heap.size, 0, none⟩ = some (.slice none 0 0) := (blk_cell HKr15.out 0).trans rfl; have r1 : w15.cell? ⟨w.heap.size, 1, none⟩ = some (.int .i64 0) := (blk_cell HKr15.out 1).trans rfl; have r2 : w15.cell? ⟨w.heap.size, 2, none⟩ = some (.int .i64 0) := (blk_cell HKr15.out 2).trans rfl; have r3 : w15.cell? ⟨w.heap.size, 3, none⟩ = some (.int .u64 0) := (blk_cell HKr15.out 3).trans rfl; have r4 : w15.cell? ⟨w.heap.size, 4, none⟩ = some (.int .u64 0) := (blk_cell HKr15.out 4).trans rfl))
      have hne1 : ∀ k_, k_ ≠ w.heap.size ∧ k_ ≠ bF ∧ k_ ≠ bN → k_ ≠ w.heap.size := fun _ h => h.1
      refine bodyPost_ret (results_cell_row rfl _ _ w.heap.size 122 #[(.slice A13 n3.length c13), (.int .i64 0), (.int .i64 0), (.int .u64 e1), (.int .u64 e2)] (0, 0) _ rfl (blk_put (cs := #[(.slice A13 n3.length c13), (.int .i64 0), (.int .i64 0), (.int .u64 e1), (.int .u64 0)]) (blk_put (cs := #[(.slice A13 n3.length c13), (.int .i64 0), (.int .i64 0), (.int .u64 0), (.int .u64 0)]) (blk_put (cs := #[(.slice A13 n3.length c13), (.int .i64 0), (.int .i64 0), (.int .u64 0), (.int .u64 0)]) (blk_put (cs := #[(.slice A13 n3.length c13), (.int .i64 0), (.int .i64 0), (.int .u64 0), (.int .u64 0)]) (blk_put (cs := #[(.slice none 0 0), (.int .i64 0), (.int .i64 0), (.int .u64 0), (.int .u64 0)]) HKr15.out 0 _ rfl) 1 _ rfl) 2 _ rfl) 3 _ rfl) 4 _ rfl) Tryd.underlying122 rfl (by kernel_rfl)) rfl ?_
      refine ⟨.slice A13 n3.length c13, ?_, ?_, (below_set (below_set (below_set (below_set (below_set HB15.out (Nat.le_refl _)) (Nat.le_refl _)) (Nat.le_refl _)) (Nat.le_refl _)) (Nat.le_refl _))⟩
      ·first | rfl | rw [if_pos cc, if_pos cc]
      ·first | rw [← HZ3.out] | rw [HJ3.out, Int.toNat_natCast, ← HZ3.out]
       exact Kd.R_mono (Kd.R_far (p := ⟨w.heap.size, 4, none⟩) (Kd.R_far (p := ⟨w.heap.size, 3, none⟩) (Kd.R_far (p := ⟨w.heap.size, 2, none⟩) (Kd.R_far (p := ⟨w.heap.size, 1, none⟩) (Kd.R_far (p := ⟨w.heap.size, 0, none⟩) HR15.out hne1 (.slice A13 n3.length c13)) hne1 (.int .i64 0)) hne1 (.int .i64 0)) hne1 (.int .u64 e1)) hne1 (.int .u64 e2)) (fun _ _ => trivial)
     ·have cc0 : ¬ (n2.length : Int) ≤ (n1.length : Int) := by omega
      have cc1 : decide ((n2.length : Int) ≤ (n1.length : Int)) = false := decide_eq_false cc0
      go_wp2_with (first
       | (go_at_call 117; (with_reducible refine (reverse_endv k (fun k_ => k_ ≠ w.heap.size ∧ k_ ≠ bF ∧ k_ ≠ bN) q3v A13 c13 n3 v3 j3 w _ HQ3.out (by omega) HB13.out HR13.out HV3.out).mono ?_); rintro e w14 ⟨rfl, hR, hB, hK⟩; have HR14 := Aside0.mk (show Kd.R k106 106 w14 w.heap.size (fun k_ => k_ ≠ w.heap.size ∧ k_ ≠ bF ∧ k_ ≠ bN) (.slice A13 n3.length c13) z3 from by rw [HZ3.out]; exact Kd.R_mono (ok' := (fun k_ => k_ ≠ w.heap.size ∧ k_ ≠ bF ∧ k_ ≠ bN)) hR (fun k_ hk => hk.elim id (fun hk => ⟨by have := blk_lt HKr13.out; omega, by have := blk_lt HKf13.out; omega, by have := blk_lt HKn13.out; omega⟩))); have HKf14 := Aside0.mk ((hK.2 _ (blk_lt HKf13.out) (fun h => h.2.1 rfl)).trans HKf13.out); have HKr14 := Aside0.mk ((hK.2 _ (blk_lt HKr13.out) (fun h => h.1 rfl)).trans HKr13.out); have HB14 := Aside0.mk hB; clear hR hB hK; have gF0 : w14.cell? ⟨bF, 0, none⟩ = some (.int .u64 fl) := (blk_cell HKf14.out 0).trans rfl; have gF1 : w14.cell? ⟨bF, 1, none⟩ = some (.int .u64 fi) := (blk_cell HKf14.out 1).trans rfl)
       | (go_at_call 116; (with_reducible refine (compact_NodeID_Sibling.calls fl fi e1 e2 _ HE.out).mono ?_); rintro e w15 ⟨rfl, hB⟩; have HR15 := Aside0.mk (Kd.R_below HR14.out hB); have HKr15 := Aside0.mk (blk_below HKr14.out hB); have HB15 := Aside0.mk (below_step HB14.out hB); clear hB; have f0 := blk_frozen HKr15.out 0; have f1 := blk_frozen HKr15.out 1; have f2 := blk_frozen HKr15.out 2; have f3 := blk_frozen HKr15.out 3; have f4 := blk_frozen HKr15.out 4; have r0 : w15.cell? ⟨w.heap.size, 0, none⟩ = some (.slice none 0 0) := (blk_cell HKr15.out 0).trans rfl; have r1 : w15.cell? ⟨w.heap.size, 1, none⟩ = some (.int .i64 0) := (blk_cell HKr15.out 1).trans rfl; have r2 : w15.cell? ⟨w.heap.size, 2, none⟩ = some (.int .i64 0) := (blk_cell HKr15.out 2).trans rfl; have r3 : w15.cell? ⟨w.heap.size, 3, none⟩ = some (.int .u64 0) := (blk_cell HKr15.out 3).trans rfl; have r4 : w15.cell? ⟨w.heap.size, 4, none⟩ = some (.int .u64 0) := (blk_cell HKr15.out 4).trans rfl))
      have hne1 : ∀ k_, k_ ≠ w.heap.size ∧ k_ ≠ bF ∧ k_ ≠ bN → k_ ≠ w.heap.size := fun _ h => h.1
      refine bodyPost_ret (results_cell_row rfl _ _ w.heap.size 122 #[(.slice A13 n3.length c13), (.int .i64 (n1.length : Int)), (.int .i64 (n2.length : Int)), (.int .u64 e1), (.int .u64 e2)] (0, 0) _ rfl (blk_put (cs := #[(.slice A13 n3.length c13), (.int .i64 (n1.length : Int)), (.int .i64 (n2.length : Int)), (.int .u64 e1), (.int .u64 0)]) (blk_put (cs := #[(.slice A13 n3.length c13), (.int .i64 (n1.length : Int)), (.int .i64 (n2.length : Int)), (.int .u64 0), (.int .u64 0)]) (blk_put (cs := #[(.slice A13 n3.length c13), (.int .i64 (n1.length : Int)), (.int .i64 0), (.int .u64 0), (.int .u64 0)]) (blk_put (cs := #[(.slice A13 n3.length c13), (.int .i64 0), (.int .i64 0), (.int .u64 0), (.int .u64 0)]) (blk_put (cs := #[(.slice none 0 0), (.int .i64 0), (.int .i64 0), (.int .u64 0), (.int .u64 0)]) HKr15.out 0 _ rfl) 1 _ rfl) 2 _ rfl) 3 _ rfl) 4 _ rfl) Tryd.underlying122 rfl (by kernel_rfl)) rfl ?_
      refine ⟨.slice A13 n3.length c13, ?_, ?_, (below_set (below_set (below_set (below_set (below_set HB15.out (Nat.le_refl _)) (Nat.le_refl _)) (Nat.le_refl _)) (Nat.le_refl _)) (Nat.le_refl _))⟩
      ·first | rfl | rw [if_neg cc, if_neg cc]
      ·first | rw [← HZ3.out] | rw [HJ3.out, Int.toNat_natCast, ← HZ3.out]
       exact Kd.R_mono (Kd.R_far (p := ⟨w.heap.size, 4, none⟩) (Kd.R_far (p := ⟨w.heap.size, 3, none⟩) (Kd.R_far (p := ⟨w.heap.size, 2, none⟩) (Kd.R_far (p := ⟨w.heap.size, 1, none⟩) (Kd.R_far (p := ⟨w.heap.size, 0, none⟩) HR15.out hne1 (.slice A13 n3.length c13)) hne1 (.int .i64 (n1.length : Int))) hne1 (.int .i64 (n2.length : Int))) hne1 (.int .u64 e1)) hne1 (.int .u64 e2)) (fun _ _ => trivial)
def proof_nodes.f (k : Nat) (a0 a1 a2 : Int) : Option (List S106 × Int × Int × Int × Int) :=
 if 0 ≤ a1 ∧ a1 ≤ 63 then (bits_Len64.f (Go.bits .xor .u64 a0 (shr .u64 a2 a1))).bind fun L => if 1 ≤ L ∧ L ≤ 64 then
  (compact_NodeID_Coverage.f (a1 + (L - 1)) (shr .u64 a0 (L - 1))).bind fun c => (compact_RangeSize.f 0 c.1).bind fun lf => (compact_RangeSize.f c.2 a2).bind fun rt => if 0 ≤ lf ∧ lf ≤ 200 ∧ 0 ≤ rt ∧ rt ≤ 200 then
   (sibs k a1 a0 (a1 + (L - 1)) [(⟨a1, a0⟩ : S106)]).bind fun n1 => (compact_RangeNodes.f k c.2 a2 n1).bind fun n2 => if rt ≤ (n2.length : Int) ∧ n2.length ≤ 1099511627776 then
    (proof_reverse.f k (n2.drop ((n2.length : Int) - rt).toNat)).bind fun v2 => if (n2.take ((n2.length : Int) - rt).toNat ++ v2).length = n2.length then (compact_RangeNodes.f k 0 c.1 (n2.take ((n2.length : Int) - rt).toNat ++ v2)).bind fun n3 => if lf ≤ (n3.length : Int) ∧ n3.length ≤ 1099511627776 then
     (proof_reverse.f k (n3.drop ((n3.length : Int) - lf).toNat)).bind fun v3 => if (n3.take ((n3.length : Int) - lf).toNat ++ v3).length = n3.length then (compact_NodeID_Sibling.f (a1 + (L - 1)) (shr .u64 a0 (L - 1))).bind fun e =>
      some (n3.take ((n3.length : Int) - lf).toNat ++ v3, (if n2.length ≤ n1.length then 0 else (n1.length : Int)), (if n2.length ≤ n1.length then 0 else (n2.length : Int)), e.1, e.2)
     else none else none else none else none else none else none else none
theorem sibs.mono : ∀ (k : Nat) (lv ix fl : Int) (acc : List S106), LeO (sibs k lv ix fl acc) (sibs (k + 1) lv ix fl acc)
 | 0, lv, ix, fl, acc => fun r h => by simp [sibs] at h
 | k + 1, lv, ix, fl, acc => by
  rw [sibs, sibs]
  repeat' first
   | exact sibs.mono k _ _ _ _
   | exact LeO.refl _
   | refine LeO.ite ?_ ?_
   | refine LeO.bind ?_ (fun _ => ?_)
theorem proof_nodes.mono : ∀ a0 a1 a2 k, LeO (proof_nodes.f k a0 a1 a2) (proof_nodes.f (k + 1) a0 a1 a2) := by
 intro a0 a1 a2 k
 unfold proof_nodes.f
 repeat' first
  | exact sibs.mono _ _ _ _ _
  | exact compact_RangeNodes.mono _ _ _ _
  | exact proof_reverse.mono _ _
  | exact LeO.refl _
  | refine LeO.ite ?_ ?_
  | refine LeO.bind ?_ (fun _ => ?_)
theorem proof_nodes.calls (k : Nat) (a0 a1 a2 : Int) (r1 : List S106) (r2 r3 r4 r5 : Int) (w : World) (hT : TabOK w) (h : proof_nodes.f k a0 a1 a2 = some (r1, r2, r3, r4, r5)) :
  Calls Tryd.prog 102 #[.int .u64 a0, .int .u64 a1, .int .u64 a2] w fun e w' => ∃ v0_ : Value, e = .returned (.agg #[v0_, .int .i64 r2, .int .i64 r3, .int .u64 r4, .int .u64 r5]) ∧ Kd.R k106 106 w' w.heap.size (fun _ => True) v0_ r1 ∧ Below w.heap.size w w' := by
 unfold proof_nodes.f at h
 by_cases b : 0 ≤ a1 ∧ a1 ≤ 63
 ·rw [if_pos b] at h
  obtain ⟨L, hL, h⟩ := Option.bind_eq_some_iff.mp h
  by_cases i : 1 ≤ L ∧ L ≤ 64
  ·rw [if_pos i] at h
   obtain ⟨⟨c1, c2⟩, hcv, h⟩ := Option.bind_eq_some_iff.mp h
   obtain ⟨lf, hlf, h⟩ := Option.bind_eq_some_iff.mp h
   obtain ⟨rt, hrt, h⟩ := Option.bind_eq_some_iff.mp h
   by_cases l : 0 ≤ lf ∧ lf ≤ 200 ∧ 0 ≤ rt ∧ rt ≤ 200
   ·rw [if_pos l] at h
    obtain ⟨n1, hn1, h⟩ := Option.bind_eq_some_iff.mp h
    obtain ⟨n2, hn2, h⟩ := Option.bind_eq_some_iff.mp h
    by_cases g2 : rt ≤ (n2.length : Int) ∧ n2.length ≤ 1099511627776
    ·rw [if_pos g2] at h
     obtain ⟨v2, hv2, h⟩ := Option.bind_eq_some_iff.mp h
     by_cases y2 : (n2.take ((n2.length : Int) - rt).toNat ++ v2).length = n2.length
     ·rw [if_pos y2] at h
      obtain ⟨n3, hn3, h⟩ := Option.bind_eq_some_iff.mp h
      by_cases g3 : lf ≤ (n3.length : Int) ∧ n3.length ≤ 1099511627776
      ·rw [if_pos g3] at h
       obtain ⟨v3, hv3, h⟩ := Option.bind_eq_some_iff.mp h
       by_cases y3 : (n3.take ((n3.length : Int) - lf).toNat ++ v3).length = n3.length
       ·rw [if_pos y3] at h
        obtain ⟨⟨e1, e2⟩, he, h⟩ := Option.bind_eq_some_iff.mp h
        simp only [Option.some.injEq, Prod.mk.injEq] at h
        obtain ⟨rfl, rfl, rfl, rfl, rfl⟩ := h
        exact nodes_a k a0 a1 a2 w hT _ _ (L - 1) _ _ c1 c2 lf rt b.1 b.2 rfl rfl (by rw [hL]; congr 1; omega) (by omega) (by omega) rfl rfl hcv hlf hrt l.1 l.2.1 l.2.2.1 l.2.2.2 n1 hn1 n2 v2 n3 v3 e1 e2 hn2 g2.1 g2.2 hv2 hn3 g3.1 g3.2 hv3 he y2 y3
       ·rw [if_neg y3] at h; cases h
      ·rw [if_neg g3] at h; cases h
     ·rw [if_neg y2] at h; cases h
    ·rw [if_neg g2] at h; cases h
   ·rw [if_neg l] at h; cases h
  ·rw [if_neg i] at h; cases h
 ·rw [if_neg b] at h; cases h


/-! ### proof_Nodes_skipFirst: function 103 -/
def proof_Nodes_skipFirst.f (l0_0 : List (S106)) (a0_1 : Int) (a0_2 : Int) (a0_3 : Int) (a0_4 : Int) : Option ((List (S106)) × Int × Int × Int × Int) := if 1 ≤ (l0_0.length : Int) then ((some (l0_0.drop 1 : List (S106))).bind fun y304 => (if a0_1 < a0_2 then (some (y304, wrap64 (a0_1 - 1), wrap64 (a0_2 - 1), a0_3, a0_4)) else (some (y304, a0_1, a0_2, a0_3, a0_4)))) else (none)
set_option maxHeartbeats 8000000 in
set_option maxRecDepth 100000 in
theorem proof_Nodes_skipFirst.calls (P0_0_ : Nat → Prop) (A0_0 : Option Addr) (c0_0 : Nat) (l0_0 : List (S106)) (a0_1 : Int) (a0_2 : Int) (a0_3 : Int) (a0_4 : Int) (r1 : List (S106)) (r2 : Int) (r3 : Int) (r4 : Int) (r5 : Int) (w : World) (hs0_0 : Kd.V k106 106 w w.heap.size (fun k_ => P0_0_ k_) (.slice A0_0 l0_0.length c0_0) l0_0) (h : proof_Nodes_skipFirst.f l0_0 a0_1 a0_2 a0_3 a0_4 = some (r1, r2, r3, r4, r5)) :
  Calls Tryd.prog 103 #[.agg #[.slice A0_0 l0_0.length c0_0, .int .i64 a0_1, .int .i64 a0_2, .int .u64 a0_3, .int .u64 a0_4]] w fun e w' => ∃ v0_ : Value, e = .returned (.agg #[v0_, .int .i64 r2, .int .i64 r3, .int .u64 r4, .int .u64 r5]) ∧ Kd.V k106 106 w' w.heap.size (fun k_ => (P0_0_ k_ ∨ w.heap.size ≤ k_)) v0_ r1 ∧ Below w.heap.size w w' := by
 have hu122 := Tryd.underlying122
 have HO0_0 := Aside0.mk (show Kd.V k106 106 w w.heap.size (fun k_ => (P0_0_ k_ ∨ w.heap.size ≤ k_)) (.slice A0_0 l0_0.length c0_0) l0_0 from Kd.V_mono hs0_0 (fun k_ hk => .inl hk))
 have HB := Aside0.mk (Below.refl w.heap.size w)
 have H : (if 1 ≤ (l0_0.length : Int) then ((some (l0_0.drop 1 : List (S106))).bind fun y304 => (if a0_1 < a0_2 then (some (y304, wrap64 (a0_1 - 1), wrap64 (a0_2 - 1), a0_3, a0_4)) else (some (y304, a0_1, a0_2, a0_3, a0_4)))) else (none)) = some (r1, r2, r3, r4, r5) := h
 clear h
 by_cases c2 : 1 ≤ (l0_0.length : Int)
 ·rw [if_pos c2] at H
  have c2b0 := eq_true c2
  have c2b1 : decide (1 ≤ (l0_0.length : Int)) = true := decide_eq_true c2
  clear c2
  obtain ⟨y304, hy304⟩ : ∃ y_ : List (S106), y_ = (l0_0.drop 1) := ⟨_, rfl⟩
  replace H : (if a0_1 < a0_2 then (some (y304, wrap64 (a0_1 - 1), wrap64 (a0_2 - 1), a0_3, a0_4)) else (some (y304, a0_1, a0_2, a0_3, a0_4))) = some (r1, r2, r3, r4, r5) := by first | (rw [hy304]; with_reducible exact H) | (have H2_ := (Option.bind_some _ _).symm.trans H; rw [hy304]; with_reducible exact H2_) | (have H2_ := (Option.bind_some _ _).symm.trans H; with_reducible exact H2_) | with_reducible exact H | (rw [hy304]; exact H) | exact H
  have Ny304 := Aside0.mk hy304
  clear hy304
  by_cases c3 : a0_1 < a0_2
  ·rw [if_pos c3] at H
   have c3b0 : decide (a0_1 < a0_2) = true := decide_eq_true c3
   clear c3
   simp only [Option.some.injEq, Prod.mk.injEq] at H
   obtain ⟨rfl, rfl, rfl, rfl, rfl⟩ := H
   go_enter Tryd.func103, Tryd.ntmps103
   go_wp2_with (first | ((with_reducible refine gate_dst (N := 1) rfl ?_); refine box_event ?hg (N := 1) ?hd (cs := #[.slice A0_0 l0_0.length c0_0, .int .i64 a0_1, .int .i64 a0_2, .int .u64 a0_3, .int .u64 a0_4]) (t := 122) ?hr ?_; (case hd => rfl); (case hg => rfl); (case hr => first | (go_simp; done) | (go_simp; rfl)); intro gb302 hg w4 hbox hb; have n0_ := Aside0.mk (Kd.V_below (Kd.V_elderB (kV HO0_0.out) gb302 (Nat.le_of_eq hg.symm)) hb); have n1_ := Aside0.mk (below_step bB hb); have n2_ := Aside0.mk (hbox); have n3_ := Aside0.mk ((by rw [hg]; exact (below_size bB) : w.heap.size ≤ gb302)); have n4_ := Aside0.mk ((by rw [hg]; exact (below_size bB) : w.heap.size ≤ gb302)); clear HO0_0; clear HB; have HO0_0 := n0_; have HB := n1_; have BK302 := n2_; have GW302 := n3_; have GE302 := n4_; clear n0_ n1_ n2_ n3_ n4_; clear hb hbox hg) | ((with_reducible refine gate_dst (N := 2) rfl ?_); refine box_event ?hg (N := 2) ?hd (cs := #[.slice none 0 0, .int .i64 0, .int .i64 0, .int .u64 0, .int .u64 0]) (t := 122) ?hr ?_; (case hd => rfl); (case hg => rfl); (case hr => first | (go_simp; done) | (go_simp; rfl)); intro gb303 hg w5 hbox hb; have n0_ := Aside0.mk (Kd.V_below (Kd.V_elderB (kV HO0_0.out) gb303 (Nat.le_of_eq hg.symm)) hb); have n1_ := Aside0.mk (blk_below (g := gb302) (o := .cells #[.slice A0_0 l0_0.length c0_0, .int .i64 a0_1, .int .i64 a0_2, .int .u64 a0_3, .int .u64 a0_4] 122 (0, 0)) (kB BK302.out) hb); have n2_ := Aside0.mk (below_step bB hb); have n3_ := Aside0.mk (hbox); have n4_ := Aside0.mk ((by rw [hg]; exact (below_size bB) : w.heap.size ≤ gb303)); have n5_ := Aside0.mk ((by rw [hg]; exact (below_size bB) : w.heap.size ≤ gb303)); have n6_ := Aside0.mk ((by rw [hg]; exact Nat.ne_of_lt (blk_lt (g := gb302) (o := .cells #[.slice A0_0 l0_0.length c0_0, .int .i64 a0_1, .int .i64 a0_2, .int .u64 a0_3, .int .u64 a0_4] 122 (0, 0)) (kB BK302.out)) : gb302 ≠ gb303)); have n7_ := Aside0.mk ((by rw [hg]; exact Nat.ne_of_gt (blk_lt (g := gb302) (o := .cells #[.slice A0_0 l0_0.length c0_0, .int .i64 a0_1, .int .i64 a0_2, .int .u64 a0_3, .int .u64 a0_4] 122 (0, 0)) (kB BK302.out)) : gb303 ≠ gb302)); clear HO0_0; clear BK302; clear HB; have HO0_0 := n0_; have BK302 := n1_; have HB := n2_; have BK303 := n3_; have GW303 := n4_; have GE303 := n5_; have NB302_303 := n6_; have NB303_302 := n7_; clear n0_ n1_ n2_ n3_ n4_ n5_ n6_ n7_; clear hb hbox hg; have hnb6 := NB302_303.out; have hnc6 := NB303_302.out; have hcz7_0 : w5.cell? ⟨gb302, 0, none⟩ = some (.slice A0_0 l0_0.length c0_0) := (blk_cell BK302.out 0).trans rfl; have hcz7_1 : w5.cell? ⟨gb302, 1, none⟩ = some (.int .i64 a0_1) := (blk_cell BK302.out 1).trans rfl; have hcz7_2 : w5.cell? ⟨gb302, 2, none⟩ = some (.int .i64 a0_2) := (blk_cell BK302.out 2).trans rfl; have hcz7_3 : w5.cell? ⟨gb302, 3, none⟩ = some (.int .u64 a0_3) := (blk_cell BK302.out 3).trans rfl; have hcz7_4 : w5.cell? ⟨gb302, 4, none⟩ = some (.int .u64 a0_4) := (blk_cell BK302.out 4).trans rfl; have hfz7_0 := blk_frozen BK302.out 0; have hfz7_1 := blk_frozen BK302.out 1; have hfz7_2 := blk_frozen BK302.out 2; have hfz7_3 := blk_frozen BK302.out 3; have hfz7_4 := blk_frozen BK302.out 4; have q8 : (1 : Int) ≤ ((l0_0.length : Int) : Int) := dA; obtain ⟨i08, hi08, _, hsz8, _⟩ := info_parts info106; have hroom8 : l0_0.length ≤ c0_0 := (Kd.V_reads' HO0_0.out).2.1; have hC8 : Kd.F k106 _ _ A0_0 l0_0.length l0_0 := (Kd.V_at (base := w.heap.size) HO0_0.out).2.2; have hcut8 := cut_from (P := Tryd.prog) 120 106 .i64 Tryd.underlying120 hi08 2 hsz8 A0_0 l0_0.length c0_0 1 (by omega) q8; have hr8 := Kd.F_cut (m := (1 : Int).toNat) (c := c0_0) hC8 (by omega) hroom8; obtain ⟨A8, hA8⟩ : ∃ Aq_, Aq_ = (if c0_0 = (1 : Int).toNat then A0_0 else (A0_0 : Option Addr).map (·.add ((1 : Int).toNat * 2))) := ⟨_, rfl⟩; obtain ⟨c8, hc8⟩ : ∃ cq_, cq_ = c0_0 - (1 : Int).toNat := ⟨_, rfl⟩; have hy8 : y304.length = l0_0.length - (1 : Int).toNat := (by rw [Ny304.out, List.length_drop] <;> omega); rw [show (l0_0).drop (1 : Int).toNat = y304 from Ny304.out.symm] at hr8; replace hr8 : Kd.F k106 _ _ A8 y304.length y304 := (by rw [hA8]; exact hr8); rw [← hy8, ← hA8, ← hc8] at hcut8; have HO308 := Aside0.mk (show Kd.V k106 106 _ w.heap.size _ (.slice A8 y304.length c8) y304 from Kd.V_mk (by rw [hy8, hc8]; exact Nat.sub_le_sub_right hroom8 _) hr8); have HC308 := Aside0.mk (show y304.length ≤ c8 from by rw [hy8, hc8]; exact Nat.sub_le_sub_right hroom8 _); clear hr8 hC8 hroom8 hi08 hsz8 hc8; have KY8 := Aside0.mk hy8; have KA8 := Aside0.mk hA8; clear hy8 hA8; replace q8 := eq_true q8; have hcz9_0 : w5.cell? ⟨gb303, 0, none⟩ = some (.slice none 0 0) := (blk_cell BK303.out 0).trans rfl; have hcz9_1 : w5.cell? ⟨gb303, 1, none⟩ = some (.int .i64 0) := (blk_cell BK303.out 1).trans rfl; have hcz9_2 : w5.cell? ⟨gb303, 2, none⟩ = some (.int .i64 0) := (blk_cell BK303.out 2).trans rfl; have hcz9_3 : w5.cell? ⟨gb303, 3, none⟩ = some (.int .u64 0) := (blk_cell BK303.out 3).trans rfl; have hcz9_4 : w5.cell? ⟨gb303, 4, none⟩ = some (.int .u64 0) := (blk_cell BK303.out 4).trans rfl; have hfz9_0 := blk_frozen BK303.out 0; have hfz9_1 := blk_frozen BK303.out 1; have hfz9_2 := blk_frozen BK303.out 2; have hfz9_3 := blk_frozen BK303.out 3; have hfz9_4 := blk_frozen BK303.out 4))
   refine bodyPost_ret (results_cell_row rfl _ _ gb303 122 #[.slice A8 y304.length c8, .int .i64 (wrap64 (a0_1 - 1)), .int .i64 (wrap64 (a0_2 - 1)), .int .u64 a0_3, .int .u64 a0_4] (0, 0) _ rfl (by (with_reducible repeat (first | refine blk_drewN ?_ _ | refine blk_drew ?_ | refine blk_alloc ?_ _)); refine blk_put (cs := #[.slice A8 y304.length c8, .int .i64 (wrap64 (a0_1 - 1)), .int .i64 (wrap64 (a0_2 - 1)), .int .u64 a0_3, .int .u64 0]) ?_ 4 _ rfl; (with_reducible repeat (first | refine blk_drewN ?_ _ | refine blk_drew ?_ | refine blk_alloc ?_ _)); refine blk_put (cs := #[.slice A8 y304.length c8, .int .i64 (wrap64 (a0_1 - 1)), .int .i64 (wrap64 (a0_2 - 1)), .int .u64 0, .int .u64 0]) ?_ 3 _ rfl; (with_reducible repeat (first | refine blk_drewN ?_ _ | refine blk_drew ?_ | refine blk_alloc ?_ _)); refine blk_put (cs := #[.slice A8 y304.length c8, .int .i64 (wrap64 (a0_1 - 1)), .int .i64 0, .int .u64 0, .int .u64 0]) ?_ 2 _ rfl; (with_reducible repeat (first | refine blk_drewN ?_ _ | refine blk_drew ?_ | refine blk_alloc ?_ _)); refine blk_put (cs := #[.slice A8 y304.length c8, .int .i64 0, .int .i64 0, .int .u64 0, .int .u64 0]) ?_ 1 _ rfl; (with_reducible repeat (first | refine blk_drewN ?_ _ | refine blk_drew ?_ | refine blk_alloc ?_ _)); refine blk_put (cs := #[.slice none 0 0, .int .i64 0, .int .i64 0, .int .u64 0, .int .u64 0]) ?_ 0 _ rfl; (with_reducible repeat (first | refine blk_drewN ?_ _ | refine blk_drew ?_ | refine blk_alloc ?_ _)); refine blk_far ?_ NB303_302.out _; (with_reducible repeat (first | refine blk_drewN ?_ _ | refine blk_drew ?_ | refine blk_alloc ?_ _)); refine blk_far ?_ NB303_302.out _; (with_reducible repeat (first | refine blk_drewN ?_ _ | refine blk_drew ?_ | refine blk_alloc ?_ _)); refine blk_far ?_ NB303_302.out _; (with_reducible repeat (first | refine blk_drewN ?_ _ | refine blk_drew ?_ | refine blk_alloc ?_ _)); exact BK303.out) Tryd.underlying122 rfl (by kernel_rfl)) rfl ?_
   exact ⟨_, by first | rfl | (simp [errW_none, errW_some] <;> rfl) | (simp [*, errW_none, errW_some] <;> rfl), by (with_reducible repeat (first | apply Kd.V_alloc | apply Kd.V_drewN | apply Kd.V_drew)); exact Kd.V_mono (Kd.V_far (p := ⟨gb303, 4, none⟩) (Kd.V_far (p := ⟨gb303, 3, none⟩) (Kd.V_far (p := ⟨gb303, 2, none⟩) (Kd.V_far (p := ⟨gb303, 1, none⟩) (Kd.V_far (p := ⟨gb303, 0, none⟩) (Kd.V_far (p := ⟨gb302, 2, none⟩) (Kd.V_far (p := ⟨gb302, 1, none⟩) (Kd.V_far (p := ⟨gb302, 0, none⟩) (Kd.V_mono (Kd.V_mono HO308.out (fun k_ hk => (⟨hk, hk.1.2⟩ : _ ∧ k_ ≠ gb302))) (fun k_ hk => (⟨hk, hk.1.2⟩ : _ ∧ k_ ≠ gb303))) (fun _ hk => hk.1.2) (.slice A8 y304.length c8)) (fun _ hk => hk.1.2) (.int .i64 (wrap64 (a0_1 - 1)))) (fun _ hk => hk.1.2) (.int .i64 (wrap64 (a0_2 - 1)))) (fun _ hk => hk.2) (.slice A8 y304.length c8)) (fun _ hk => hk.2) (.int .i64 (wrap64 (a0_1 - 1)))) (fun _ hk => hk.2) (.int .i64 (wrap64 (a0_2 - 1)))) (fun _ hk => hk.2) (.int .u64 a0_3)) (fun _ hk => hk.2) (.int .u64 a0_4)) (fun _ hk => hk.1.1.1.1), bB⟩
  ·rw [if_neg c3] at H
   have c3b0 : decide (a0_1 < a0_2) = false := decide_eq_false c3
   clear c3
   simp only [Option.some.injEq, Prod.mk.injEq] at H
   obtain ⟨rfl, rfl, rfl, rfl, rfl⟩ := H
   go_enter Tryd.func103, Tryd.ntmps103
   go_wp2_with (first | ((with_reducible refine gate_dst (N := 1) rfl ?_); refine box_event ?hg (N := 1) ?hd (cs := #[.slice A0_0 l0_0.length c0_0, .int .i64 a0_1, .int .i64 a0_2, .int .u64 a0_3, .int .u64 a0_4]) (t := 122) ?hr ?_; (case hd => rfl); (case hg => rfl); (case hr => first | (go_simp; done) | (go_simp; rfl)); intro gb302 hg w10 hbox hb; have n0_ := Aside0.mk (Kd.V_below (Kd.V_elderB (kV HO0_0.out) gb302 (Nat.le_of_eq hg.symm)) hb); have n1_ := Aside0.mk (below_step bB hb); have n2_ := Aside0.mk (hbox); have n3_ := Aside0.mk ((by rw [hg]; exact (below_size bB) : w.heap.size ≤ gb302)); have n4_ := Aside0.mk ((by rw [hg]; exact (below_size bB) : w.heap.size ≤ gb302)); clear HO0_0; clear HB; have HO0_0 := n0_; have HB := n1_; have BK302 := n2_; have GW302 := n3_; have GE302 := n4_; clear n0_ n1_ n2_ n3_ n4_; clear hb hbox hg) | ((with_reducible refine gate_dst (N := 2) rfl ?_); refine box_event ?hg (N := 2) ?hd (cs := #[.slice none 0 0, .int .i64 0, .int .i64 0, .int .u64 0, .int .u64 0]) (t := 122) ?hr ?_; (case hd => rfl); (case hg => rfl); (case hr => first | (go_simp; done) | (go_simp; rfl)); intro gb303 hg w11 hbox hb; have n0_ := Aside0.mk (Kd.V_below (Kd.V_elderB (kV HO0_0.out) gb303 (Nat.le_of_eq hg.symm)) hb); have n1_ := Aside0.mk (blk_below (g := gb302) (o := .cells #[.slice A0_0 l0_0.length c0_0, .int .i64 a0_1, .int .i64 a0_2, .int .u64 a0_3, .int .u64 a0_4] 122 (0, 0)) (kB BK302.out) hb); have n2_ := Aside0.mk (below_step bB hb); have n3_ := Aside0.mk (hbox); have n4_ := Aside0.mk ((by rw [hg]; exact (below_size bB) : w.heap.size ≤ gb303)); have n5_ := Aside0.mk ((by rw [hg]; exact (below_size bB) : w.heap.size ≤ gb303)); have n6_ := Aside0.mk ((by rw [hg]; exact Nat.ne_of_lt (blk_lt (g := gb302) (o := .cells #[.slice A0_0 l0_0.length c0_0, .int .i64 a0_1, .int .i64 a0_2, .int .u64 a0_3, .int .u64 a0_4] 122 (0, 0)) (kB BK302.out)) : gb302 ≠ gb303)); have n7_ := Aside0.mk ((by rw [hg]; exact Nat.ne_of_gt (blk_lt (g := gb302) (o := .cells #[.slice A0_0 l0_0.length c0_0, .int .i64 a0_1, .int .i64 a0_2, .int .u64 a0_3, .int .u64 a0_4] 122 (0, 0)) (kB BK302.out)) : gb303 ≠ gb302)); clear HO0_0; clear BK302; clear HB; have HO0_0 := n0_; have BK302 := n1_; have HB := n2_; have BK303 := n3_; have GW303 := n4_; have GE303 := n5_; have NB302_303 := n6_; have NB303_302 := n7_; clear n0_ n1_ n2_ n3_ n4_ n5_ n6_ n7_; clear hb hbox hg; have hnb12 := NB302_303.out; have hnc12 := NB303_302.out; have hcz13_0 : w11.cell? ⟨gb302, 0, none⟩ = some (.slice A0_0 l0_0.length c0_0) := (blk_cell BK302.out 0).trans rfl; have hcz13_1 : w11.cell? ⟨gb302, 1, none⟩ = some (.int .i64 a0_1) := (blk_cell BK302.out 1).trans rfl; have hcz13_2 : w11.cell? ⟨gb302, 2, none⟩ = some (.int .i64 a0_2) := (blk_cell BK302.out 2).trans rfl; have hcz13_3 : w11.cell? ⟨gb302, 3, none⟩ = some (.int .u64 a0_3) := (blk_cell BK302.out 3).trans rfl; have hcz13_4 : w11.cell? ⟨gb302, 4, none⟩ = some (.int .u64 a0_4) := (blk_cell BK302.out 4).trans rfl; have hfz13_0 := blk_frozen BK302.out 0; have hfz13_1 := blk_frozen BK302.out 1; have hfz13_2 := blk_frozen BK302.out 2; have hfz13_3 := blk_frozen BK302.out 3; have hfz13_4 := blk_frozen BK302.out 4; have q14 : (1 : Int) ≤ ((l0_0.length : Int) : Int) := dA; obtain ⟨i014, hi014, _, hsz14, _⟩ := info_parts info106; have hroom14 : l0_0.length ≤ c0_0 := (Kd.V_reads' HO0_0.out).2.1; have hC14 : Kd.F k106 _ _ A0_0 l0_0.length l0_0 := (Kd.V_at (base := w.heap.size) HO0_0.out).2.2; have hcut14 := cut_from (P := Tryd.prog) 120 106 .i64 Tryd.underlying120 hi014 2 hsz14 A0_0 l0_0.length c0_0 1 (by omega) q14; have hr14 := Kd.F_cut (m := (1 : Int).toNat) (c := c0_0) hC14 (by omega) hroom14; obtain ⟨A14, hA14⟩ : ∃ Aq_, Aq_ = (if c0_0 = (1 : Int).toNat then A0_0 else (A0_0 : Option Addr).map (·.add ((1 : Int).toNat * 2))) := ⟨_, rfl⟩; obtain ⟨c14, hc14⟩ : ∃ cq_, cq_ = c0_0 - (1 : Int).toNat := ⟨_, rfl⟩; have hy14 : y304.length = l0_0.length - (1 : Int).toNat := (by rw [Ny304.out, List.length_drop] <;> omega); rw [show (l0_0).drop (1 : Int).toNat = y304 from Ny304.out.symm] at hr14; replace hr14 : Kd.F k106 _ _ A14 y304.length y304 := (by rw [hA14]; exact hr14); rw [← hy14, ← hA14, ← hc14] at hcut14; have HO308 := Aside0.mk (show Kd.V k106 106 _ w.heap.size _ (.slice A14 y304.length c14) y304 from Kd.V_mk (by rw [hy14, hc14]; exact Nat.sub_le_sub_right hroom14 _) hr14); have HC308 := Aside0.mk (show y304.length ≤ c14 from by rw [hy14, hc14]; exact Nat.sub_le_sub_right hroom14 _); clear hr14 hC14 hroom14 hi014 hsz14 hc14; have KY14 := Aside0.mk hy14; have KA14 := Aside0.mk hA14; clear hy14 hA14; replace q14 := eq_true q14; have hcz15_0 : w11.cell? ⟨gb303, 0, none⟩ = some (.slice none 0 0) := (blk_cell BK303.out 0).trans rfl; have hcz15_1 : w11.cell? ⟨gb303, 1, none⟩ = some (.int .i64 0) := (blk_cell BK303.out 1).trans rfl; have hcz15_2 : w11.cell? ⟨gb303, 2, none⟩ = some (.int .i64 0) := (blk_cell BK303.out 2).trans rfl; have hcz15_3 : w11.cell? ⟨gb303, 3, none⟩ = some (.int .u64 0) := (blk_cell BK303.out 3).trans rfl; have hcz15_4 : w11.cell? ⟨gb303, 4, none⟩ = some (.int .u64 0) := (blk_cell BK303.out 4).trans rfl; have hfz15_0 := blk_frozen BK303.out 0; have hfz15_1 := blk_frozen BK303.out 1; have hfz15_2 := blk_frozen BK303.out 2; have hfz15_3 := blk_frozen BK303.out 3; have hfz15_4 := blk_frozen BK303.out 4))
   refine bodyPost_ret (results_cell_row rfl _ _ gb303 122 #[.slice A14 y304.length c14, .int .i64 a0_1, .int .i64 a0_2, .int .u64 a0_3, .int .u64 a0_4] (0, 0) _ rfl (by (with_reducible repeat (first | refine blk_drewN ?_ _ | refine blk_drew ?_ | refine blk_alloc ?_ _)); refine blk_put (cs := #[.slice A14 y304.length c14, .int .i64 a0_1, .int .i64 a0_2, .int .u64 a0_3, .int .u64 0]) ?_ 4 _ rfl; (with_reducible repeat (first | refine blk_drewN ?_ _ | refine blk_drew ?_ | refine blk_alloc ?_ _)); refine blk_put (cs := #[.slice A14 y304.length c14, .int .i64 a0_1, .int .i64 a0_2, .int .u64 0, .int .u64 0]) ?_ 3 _ rfl; (with_reducible repeat (first | refine blk_drewN ?_ _ | refine blk_drew ?_ | refine blk_alloc ?_ _)); refine blk_put (cs := #[.slice A14 y304.length c14, .int .i64 a0_1, .int .i64 0, .int .u64 0, .int .u64 0]) ?_ 2 _ rfl; (with_reducible repeat (first | refine blk_drewN ?_ _ | refine blk_drew ?_ | refine blk_alloc ?_ _)); refine blk_put (cs := #[.slice A14 y304.length c14, .int .i64 0, .int .i64 0, .int .u64 0, .int .u64 0]) ?_ 1 _ rfl; (with_reducible repeat (first | refine blk_drewN ?_ _ | refine blk_drew ?_ | refine blk_alloc ?_ _)); refine blk_put (cs := #[.slice none 0 0, .int .i64 0, .int .i64 0, .int .u64 0, .int .u64 0]) ?_ 0 _ rfl; (with_reducible repeat (first | refine blk_drewN ?_ _ | refine blk_drew ?_ | refine blk_alloc ?_ _)); refine blk_far ?_ NB303_302.out _; (with_reducible repeat (first | refine blk_drewN ?_ _ | refine blk_drew ?_ | refine blk_alloc ?_ _)); exact BK303.out) Tryd.underlying122 rfl (by kernel_rfl)) rfl ?_
   exact ⟨_, by first | rfl | (simp [errW_none, errW_some] <;> rfl) | (simp [*, errW_none, errW_some] <;> rfl), by (with_reducible repeat (first | apply Kd.V_alloc | apply Kd.V_drewN | apply Kd.V_drew)); exact Kd.V_mono (Kd.V_far (p := ⟨gb303, 4, none⟩) (Kd.V_far (p := ⟨gb303, 3, none⟩) (Kd.V_far (p := ⟨gb303, 2, none⟩) (Kd.V_far (p := ⟨gb303, 1, none⟩) (Kd.V_far (p := ⟨gb303, 0, none⟩) (Kd.V_far (p := ⟨gb302, 0, none⟩) (Kd.V_mono (Kd.V_mono HO308.out (fun k_ hk => (⟨hk, hk.1.2⟩ : _ ∧ k_ ≠ gb302))) (fun k_ hk => (⟨hk, hk.1.2⟩ : _ ∧ k_ ≠ gb303))) (fun _ hk => hk.1.2) (.slice A14 y304.length c14)) (fun _ hk => hk.2) (.slice A14 y304.length c14)) (fun _ hk => hk.2) (.int .i64 a0_1)) (fun _ hk => hk.2) (.int .i64 a0_2)) (fun _ hk => hk.2) (.int .u64 a0_3)) (fun _ hk => hk.2) (.int .u64 a0_4)) (fun _ hk => hk.1.1.1.1), bB⟩
 ·rw [if_neg c2] at H
  exact absurd H (by simp)

end Go.Proofs.YtkmdkmlgahfcpaaDoor.M

