-- Written by a program of ours (wip/xp) out of the translation; Lean checks it.
import Derived.Test.YtkmdkmlgahfcpaaDoorSq
import Derived.Test.YtkmdkmlgahfcpaaDoorMm1
import Derived.Test.YtkmdkmlgahfcpaaDoorMm6
namespace Go.Proofs.YtkmdkmlgahfcpaaDoor.M
open Go.RowKit Go.Proofs.YtkmdkmlgahfcpaaDoorW.PrintWords Go.Proofs.YtkmdkmlgahfcpaaDoorW.PrintLast Go.Proofs.YtkmdkmlgahfcpaaDoorW.PrintMore
attribute [local go_sem] max2_int min2_int max_two min_two max_three min_three max_four min_four   -- for this text's walks alone
set_option linter.unusedVariables false
set_option linter.unusedSimpArgs false

/-! ### compact_NodeID_Parent: function 66 -/
def compact_NodeID_Parent.f (a0_0 : Int) (a0_1 : Int) : Option (Int × Int) := (compact_NewNodeID.f (IntKind.u64.wrap (a0_0 + 1)) (a0_1 / 2)).bind fun bt276 => (some (bt276.1, bt276.2))
set_option maxHeartbeats 8000000 in
set_option maxRecDepth 100000 in
theorem compact_NodeID_Parent.calls (a0_0 : Int) (a0_1 : Int) (r1 : Int) (r2 : Int) (w : World) (h : compact_NodeID_Parent.f a0_0 a0_1 = some (r1, r2)) :
  Calls Tryd.prog 66 #[.agg #[.int .u64 a0_0, .int .u64 a0_1]] w fun e w' => e = .returned (.agg #[.int .u64 r1, .int .u64 r2]) ∧ Below w.heap.size w w' := by
 have hu106 := Tryd.underlying106
 have HB := Aside0.mk (Below.refl w.heap.size w)
 have H : ((compact_NewNodeID.f (IntKind.u64.wrap (a0_0 + 1)) (a0_1 / 2)).bind fun bt276 => (some (bt276.1, bt276.2))) = some (r1, r2) := h
 clear h
 replace H := Option.bind_eq_some_iff.mp H
 obtain ⟨⟨t276, t277⟩, A20, H⟩ := H
 replace H : (some (t276, t277)) = some (r1, r2) := H
 have A2 := Aside0.mk A20
 clear A20
 simp only [Option.some.injEq, Prod.mk.injEq] at H
 obtain ⟨rfl, rfl⟩ := H
 go_enter Tryd.func66, Tryd.ntmps66
 go_wp2_with (first | ((with_reducible refine gate_dst (N := 1) rfl ?_); refine box_event ?hg (N := 1) ?hd (cs := #[.int .u64 a0_0, .int .u64 a0_1]) (t := 106) ?hr ?_; (case hd => rfl); (case hg => rfl); (case hr => first | (go_simp; done) | (go_simp; rfl)); intro gb274 hg w3 hbox hb; have n0_ := Aside0.mk (below_step bB hb); have n1_ := Aside0.mk (hbox); have n2_ := Aside0.mk ((by rw [hg]; exact (below_size bB) : w.heap.size ≤ gb274)); have n3_ := Aside0.mk ((by rw [hg]; exact (below_size bB) : w.heap.size ≤ gb274)); clear HB; have HB := n0_; have BK274 := n1_; have GW274 := n2_; have GE274 := n3_; clear n0_ n1_ n2_ n3_; clear hb hbox hg) | ((with_reducible refine gate_dst (N := 2) rfl ?_); refine box_event ?hg (N := 2) ?hd (cs := #[.int .u64 0, .int .u64 0]) (t := 106) ?hr ?_; (case hd => rfl); (case hg => rfl); (case hr => first | (go_simp; done) | (go_simp; rfl)); intro gb275 hg w4 hbox hb; have n0_ := Aside0.mk (blk_below (g := gb274) (o := .cells #[.int .u64 a0_0, .int .u64 a0_1] 106 (0, 0)) (kB BK274.out) hb); have n1_ := Aside0.mk (below_step bB hb); have n2_ := Aside0.mk (hbox); have n3_ := Aside0.mk ((by rw [hg]; exact (below_size bB) : w.heap.size ≤ gb275)); have n4_ := Aside0.mk ((by rw [hg]; exact (below_size bB) : w.heap.size ≤ gb275)); have n5_ := Aside0.mk ((by rw [hg]; exact Nat.ne_of_lt (blk_lt (g := gb274) (o := .cells #[.int .u64 a0_0, .int .u64 a0_1] 106 (0, 0)) (kB BK274.out)) : gb274 ≠ gb275)); have n6_ := Aside0.mk ((by rw [hg]; exact Nat.ne_of_gt (blk_lt (g := gb274) (o := .cells #[.int .u64 a0_0, .int .u64 a0_1] 106 (0, 0)) (kB BK274.out)) : gb275 ≠ gb274)); clear BK274; clear HB; have BK274 := n0_; have HB := n1_; have BK275 := n2_; have GW275 := n3_; have GE275 := n4_; have NB274_275 := n5_; have NB275_274 := n6_; clear n0_ n1_ n2_ n3_ n4_ n5_ n6_; clear hb hbox hg; have hnb5 := NB274_275.out; have hnc5 := NB275_274.out; have hcz6_0 : w4.cell? ⟨gb274, 0, none⟩ = some (.int .u64 a0_0) := (blk_cell BK274.out 0).trans rfl; have hcz6_1 : w4.cell? ⟨gb274, 1, none⟩ = some (.int .u64 a0_1) := (blk_cell BK274.out 1).trans rfl; have hfz6_0 := blk_frozen BK274.out 0; have hfz6_1 := blk_frozen BK274.out 1) | ((with_reducible refine gate_callee (f := 92) rfl ?_); refine goesL_ (some 9) rfl rfl Tryd.func92 (by kernel_rfl) rfl #[.int .u64 (IntKind.u64.wrap (a0_0 + 1)), .int .u64 (a0_1 / 2)] rfl aV ?_; (with_reducible refine (compact_NewNodeID.calls (IntKind.u64.wrap (a0_0 + 1)) (a0_1 / 2) t276 t277 _ A2.out).mono ?_); rintro e w7 ⟨rfl, hb⟩; refine ⟨_, rfl, ?_⟩; have n0_ := Aside0.mk (blk_below (g := gb274) (o := .cells #[.int .u64 a0_0, .int .u64 a0_1] 106 (0, 0)) (kB BK274.out) hb); have n1_ := Aside0.mk (blk_below (g := gb275) (o := .cells #[.int .u64 0, .int .u64 0] 106 (0, 0)) (kB BK275.out) hb); have n2_ := Aside0.mk (below_step bB hb); clear BK274; clear BK275; clear HB; have BK274 := n0_; have BK275 := n1_; have HB := n2_; clear n0_ n1_ n2_; (try clear hb); (try clear hb2); (try clear hk); (try clear hi); have hcz8_0 : w7.cell? ⟨gb275, 0, none⟩ = some (.int .u64 0) := (blk_cell BK275.out 0).trans rfl; have hcz8_1 : w7.cell? ⟨gb275, 1, none⟩ = some (.int .u64 0) := (blk_cell BK275.out 1).trans rfl; have hfz8_0 := blk_frozen BK275.out 0; have hfz8_1 := blk_frozen BK275.out 1))
 refine bodyPost_ret (results_cell_row rfl _ _ gb275 106 #[.int .u64 t276, .int .u64 t277] (0, 0) _ rfl (by (with_reducible repeat (first | refine blk_drewN ?_ _ | refine blk_drew ?_ | refine blk_alloc ?_ _)); refine blk_put (cs := #[.int .u64 t276, .int .u64 0]) ?_ 1 _ rfl; (with_reducible repeat (first | refine blk_drewN ?_ _ | refine blk_drew ?_ | refine blk_alloc ?_ _)); refine blk_put (cs := #[.int .u64 0, .int .u64 0]) ?_ 0 _ rfl; (with_reducible repeat (first | refine blk_drewN ?_ _ | refine blk_drew ?_ | refine blk_alloc ?_ _)); exact BK275.out) Tryd.underlying106 rfl (by kernel_rfl)) rfl ?_
 exact ⟨by first | rfl | (simp [errW_none, errW_some] <;> rfl) | (simp [*, errW_none, errW_some] <;> rfl), bB⟩


/-! ### bits_Len64: function 109 -/
def bits_Len64.f (a0 : Int) : Option (Int) := if 0 ≤ a0 ∧ a0 ≤ 18446744073709551615 then some (Lib.bitLen a0.toNat : Int) else none
theorem bits_Len64.calls (a0 : Int) (r : Int) (w : World) (h : bits_Len64.f a0 = some r) :
  Calls Tryd.prog 109 #[.int .u64 a0] w fun e w' => e = .returned (.int .i64 r) ∧ Drawn0 w w' := by
 unfold bits_Len64.f at h
 split at h
 ·rename_i hc
  injection h with h
  subst h
  refine (Tryd.bits_Len64 a0 w hc.1 hc.2).mono ?_
  rintro e w' ⟨rfl, rfl⟩
  exact ⟨rfl, Drawn0.refl _⟩
 ·cases h


/-! ### bits_TrailingZeros64: function 83 -/
set_option maxHeartbeats 1000000 in
theorem bits_TrailingZeros64.core (x k idx : Nat) (w : World) (hx0 : ((x : Int) == 0) = false)
  (key : IntKind.u64.wrap (bits BinOp.and IntKind.u64 (x : Int) (IntKind.u64.wrap (-(x : Int))) * 285870213051353865) / 288230376151711744 = (idx : Int))
  (hi : idx < 64) (hk : k < 64) (hcell : w.cell? ⟨0, idx, none⟩ = some (.int .u8 k)) :
  Calls Tryd.prog 83 #[.int .u64 x] w fun e w' => e = .returned (.int .i64 k) ∧ w' = w := by
 go_enter Tryd.func83, Tryd.ntmps83
 go_wp2_with (simp only [key])
 go_ret
 exact ⟨rfl, rfl⟩
theorem bits_TrailingZeros64.zero (w : World) :
  Calls Tryd.prog 83 #[.int .u64 0] w fun e w' => e = .returned (.int .i64 64) ∧ w' = w := by
 go_enter Tryd.func83, Tryd.ntmps83
 go_wp2
 go_ret
 exact ⟨rfl, rfl⟩
theorem bits_TrailingZeros64.any (x : Nat) (hx : x < 18446744073709551616) (w : World) (hT : TabOK w) :
  Calls Tryd.prog 83 #[.int .u64 x] w fun e w' => e = .returned (.int .i64 (Lib.ctz 64 x)) ∧ w' = w := by
 by_cases hx0 : x = 0
 ·subst hx0
  exact bits_TrailingZeros64.zero w
 ·obtain ⟨hlow, hk⟩ := Lib.lowest_bit 64 x hx0 hx
  obtain ⟨hi, htab⟩ := Lib.deBruijn64_at _ hk
  have hcell := hT.tz _ hi
  rw [htab] at hcell
  exact bits_TrailingZeros64.core x _ _ w (by simp; omega) (tz64_key x _ hx hx0 hlow) hi hk hcell
def bits_TrailingZeros64.f (a0 : Int) : Option (Int) := if 0 ≤ a0 ∧ a0 ≤ 18446744073709551615 then some (Lib.ctz 64 a0.toNat : Int) else none
theorem bits_TrailingZeros64.calls (a0 : Int) (r : Int) (w : World) (hT : TabOK w) (h : bits_TrailingZeros64.f a0 = some r) :
  Calls Tryd.prog 83 #[.int .u64 a0] w fun e w' => e = .returned (.int .i64 r) ∧ Drawn0 w w' := by
 unfold bits_TrailingZeros64.f at h
 split at h
 ·rename_i hc
  injection h with h
  subst h
  obtain ⟨x, rfl⟩ : ∃ x : Nat, a0 = (x : Int) := ⟨a0.toNat, by omega⟩
  rw [Int.toNat_natCast]
  refine (bits_TrailingZeros64.any x (by omega) w hT).mono ?_
  rintro e w' ⟨rfl, rfl⟩
  exact ⟨rfl, Drawn0.refl _⟩
 ·cases h


/-! ### compact_Decompose: function 108 -/
def compact_Decompose.f (a0 : Int) (a1 : Int) : Option (Int × Int) := if a0 = 0 then (some (0, a1)) else ((bits_Len64.f (Go.bits .xor .u64 (IntKind.u64.wrap (a0 - 1)) a1)).bind fun t278 => (if 0 ≤ (IntKind.u64.wrap (wrap64 (t278 - 1))) then (some (Go.bits .and .u64 (Go.bits .xor .u64 18446744073709551615 (IntKind.u64.wrap (a0 - 1))) (IntKind.u64.wrap ((shl .u64 1 (IntKind.u64.wrap (wrap64 (t278 - 1)))) - 1)), Go.bits .and .u64 a1 (IntKind.u64.wrap ((shl .u64 1 (IntKind.u64.wrap (wrap64 (t278 - 1)))) - 1)))) else (none)))
set_option maxHeartbeats 8000000 in
set_option maxRecDepth 100000 in
theorem compact_Decompose.calls (a0 : Int) (a1 : Int) (r1 : Int) (r2 : Int) (w : World) (h : compact_Decompose.f a0 a1 = some (r1, r2)) :
  Calls Tryd.prog 108 #[.int .u64 a0, .int .u64 a1] w fun e w' => e = .returned (.tuple #[.int .u64 r1, .int .u64 r2]) ∧ Drawn0 w w' := by
 have H : (if a0 = 0 then (some (0, a1)) else ((bits_Len64.f (Go.bits .xor .u64 (IntKind.u64.wrap (a0 - 1)) a1)).bind fun t278 => (if 0 ≤ (IntKind.u64.wrap (wrap64 (t278 - 1))) then (some (Go.bits .and .u64 (Go.bits .xor .u64 18446744073709551615 (IntKind.u64.wrap (a0 - 1))) (IntKind.u64.wrap ((shl .u64 1 (IntKind.u64.wrap (wrap64 (t278 - 1)))) - 1)), Go.bits .and .u64 a1 (IntKind.u64.wrap ((shl .u64 1 (IntKind.u64.wrap (wrap64 (t278 - 1)))) - 1)))) else (none)))) = some (r1, r2) := h
 clear h
 by_cases c3 : a0 = 0
 ·rw [if_pos c3] at H
  have c3b0 : (a0 == 0) = true := beq_iff_eq.mpr c3
  have c3b1 : (a0 != 0) = false := bne_eq_false_iff_eq.mpr c3
  clear c3
  simp only [Option.some.injEq, Prod.mk.injEq] at H
  obtain ⟨rfl, rfl⟩ := H
  go_enter Tryd.func108, Tryd.ntmps108
  go_wp2
  go_ret2
  exact ⟨by first | rfl | (simp; done) | (simp [*]; done), by repeat (first | exact Drawn0.refl _ | apply Drawn0.step)⟩
 ·rw [if_neg c3] at H
  have c3b0 : (a0 == 0) = false := beq_eq_false_iff_ne.mpr c3
  have c3b1 : (a0 != 0) = true := bne_iff_ne.mpr c3
  replace H := Option.bind_eq_some_iff.mp H
  obtain ⟨t278, A40, H⟩ := H
  replace H : (if 0 ≤ (IntKind.u64.wrap (wrap64 (t278 - 1))) then (some (Go.bits .and .u64 (Go.bits .xor .u64 18446744073709551615 (IntKind.u64.wrap (a0 - 1))) (IntKind.u64.wrap ((shl .u64 1 (IntKind.u64.wrap (wrap64 (t278 - 1)))) - 1)), Go.bits .and .u64 a1 (IntKind.u64.wrap ((shl .u64 1 (IntKind.u64.wrap (wrap64 (t278 - 1)))) - 1)))) else (none)) = some (r1, r2) := H
  have A4 := Aside0.mk A40
  clear A40
  obtain ⟨ji5, hji5⟩ : ∃ j_ : Int, (IntKind.u64.wrap (wrap64 (t278 - 1))) = j_ := ⟨_, rfl⟩
  replace H : (if 0 ≤ (ji5) then (some (Go.bits .and .u64 (Go.bits .xor .u64 18446744073709551615 (IntKind.u64.wrap (a0 - 1))) (IntKind.u64.wrap ((shl .u64 1 (ji5)) - 1)), Go.bits .and .u64 a1 (IntKind.u64.wrap ((shl .u64 1 (ji5)) - 1)))) else (none)) = some (r1, r2) := by first | (rw [hji5] at H; exact H) | (simp only [hji5] at H ⊢; exact H)
  (try rw [hji5] at A4)
  by_cases c6 : 0 ≤ (ji5)
  ·rw [if_pos c6] at H
   have c6b0 := eq_true c6
   have c6b1 : decide (0 ≤ (ji5)) = true := decide_eq_true c6
   clear c6
   obtain ⟨ji7, hji7⟩ : ∃ j_ : Int, (shl .u64 1 (ji5)) = j_ := ⟨_, rfl⟩
   replace H : (some (Go.bits .and .u64 (Go.bits .xor .u64 18446744073709551615 (IntKind.u64.wrap (a0 - 1))) (IntKind.u64.wrap ((ji7) - 1)), Go.bits .and .u64 a1 (IntKind.u64.wrap ((ji7) - 1)))) = some (r1, r2) := by first | (rw [hji7] at H; exact H) | (simp only [hji7] at H ⊢; exact H)
   (try rw [hji7] at A4)
   have hji7_ : (IntKind.u64.wrap (1 * 2 ^ min (ji5).toNat 64)) = ji7 := hji7
   have hji7z : (ji5) ≤ 64 → (IntKind.u64.wrap (1 * 2 ^ (ji5).toNat)) = ji7 := shl_small hji7
   have hji7u : (IntKind.u64.wrap (2 ^ min (ji5).toNat 64)) = ji7 := by have h_ := hji7_; rw [Int.one_mul] at h_; exact h_
   have hji7v : (ji5) ≤ 64 → (IntKind.u64.wrap (2 ^ (ji5).toNat)) = ji7 := fun hle_ => by have h_ := hji7z hle_; rw [Int.one_mul] at h_; exact h_
   simp only [Option.some.injEq, Prod.mk.injEq] at H
   obtain ⟨rfl, rfl⟩ := H
   go_enter Tryd.func108, Tryd.ntmps108
   go_wp2_with (first | ((with_reducible refine gate_callee (f := 109) rfl ?_); refine goesL_ (some 17) rfl rfl Tryd.func109 (by kernel_rfl) rfl #[.int .u64 (Go.bits .xor .u64 (IntKind.u64.wrap (a0 - 1)) a1)] rfl aV ?_; (with_reducible refine (bits_Len64.calls (Go.bits .xor .u64 (IntKind.u64.wrap (a0 - 1)) a1) t278 _ A4.out).mono ?_); rintro e w' ⟨rfl, ⟨nd, rfl⟩⟩; refine ⟨_, rfl, ?_⟩))
   go_ret2
   exact ⟨by first | rfl | (simp; done) | (simp only [← hji5, ← hji7] <;> (first | rfl | simp)) | (simp [*]; done), by repeat (first | exact Drawn0.refl _ | apply Drawn0.step)⟩
  ·rw [if_neg c6] at H
   exact absurd H (by simp)


/-! ### compact_RangeNodes: function 79 -/
mutual
def compact_RangeNodes.l0 : Nat → List (S106) → Int → Int → Int → Option ((List (S106)))
 | 0, _, _, _, _ => none
 | k + 1, x2, x7, x8, x9 => if x7 = 0 then (compact_RangeNodes.l1 k x2 x8 x9) else ((bits_TrailingZeros64.f x7).bind fun t281 => (if 0 ≤ (IntKind.u64.wrap (t281)) then ((compact_NewNodeID.f (IntKind.u64.wrap (t281)) (shr .u64 x9 (IntKind.u64.wrap (t281)))).bind fun bt282 => (if x2.length < 8796093022208 then (compact_RangeNodes.l0 k (x2 ++ [(⟨bt282.1, bt282.2⟩ : S106)]) (Go.bits .xor .u64 x7 (shl .u64 1 (IntKind.u64.wrap (t281)))) x8 (IntKind.u64.wrap (x9 + (shl .u64 1 (IntKind.u64.wrap (t281)))))) else (none))) else (none)))
def compact_RangeNodes.l1 : Nat → List (S106) → Int → Int → Option ((List (S106)))
 | 0, _, _, _ => none
 | k + 1, x2, x8, x9 => if x8 = 0 then (some x2) else ((bits_Len64.f x8).bind fun t287 => (if 0 ≤ (IntKind.u64.wrap ((IntKind.u64.wrap (t287)) - 1)) then ((compact_NewNodeID.f (IntKind.u64.wrap ((IntKind.u64.wrap (t287)) - 1)) (shr .u64 x9 (IntKind.u64.wrap ((IntKind.u64.wrap (t287)) - 1)))).bind fun bt288 => (if x2.length < 8796093022208 then (compact_RangeNodes.l1 k (x2 ++ [(⟨bt288.1, bt288.2⟩ : S106)]) (Go.bits .xor .u64 x8 (shl .u64 1 (IntKind.u64.wrap ((IntKind.u64.wrap (t287)) - 1)))) (IntKind.u64.wrap (x9 + (shl .u64 1 (IntKind.u64.wrap ((IntKind.u64.wrap (t287)) - 1)))))) else (none))) else (none)))
end
def compact_RangeNodes.f (k : Nat) (a0 : Int) (a1 : Int) (l2 : List (S106)) : Option ((List (S106))) := (compact_Decompose.f a0 a1).bind fun bt279 => (compact_RangeNodes.l0 k l2 bt279.1 bt279.2 a0)
theorem compact_RangeNodes.mono_l : ∀ k, (∀ y0 y1 y2 y3, LeO (compact_RangeNodes.l0 k y0 y1 y2 y3) (compact_RangeNodes.l0 (k + 1) y0 y1 y2 y3)) ∧ (∀ y0 y1 y2, LeO (compact_RangeNodes.l1 k y0 y1 y2) (compact_RangeNodes.l1 (k + 1) y0 y1 y2))
 | 0 => ⟨fun _ _ _ _ r h => by simp [compact_RangeNodes.l0] at h, fun _ _ _ r h => by simp [compact_RangeNodes.l1] at h⟩
 | k + 1 => by
  obtain ⟨ih0, ih1⟩ := compact_RangeNodes.mono_l k
  refine ⟨?_, ?_⟩
  ·intro y0 y1 y2 y3
   unfold compact_RangeNodes.l0
   repeat' first
   | (with_reducible exact ih0 _ _ _ _)
   | (with_reducible exact ih1 _ _ _)
   | (with_reducible exact LeO.refl _)
   | (with_reducible exact LeO.none _)
   | (with_reducible refine LeO.ite ?_ ?_)
   | (with_reducible refine LeO.bind ?_ (fun _ => ?_))
   | exact ih0 _ _ _ _
   | exact ih1 _ _ _
   | exact LeO.none _
   | refine LeO.ite ?_ ?_
   | refine LeO.bind ?_ (fun _ => ?_)
  ·intro y0 y1 y2
   unfold compact_RangeNodes.l1
   repeat' first
   | (with_reducible exact ih0 _ _ _ _)
   | (with_reducible exact ih1 _ _ _)
   | (with_reducible exact LeO.refl _)
   | (with_reducible exact LeO.none _)
   | (with_reducible refine LeO.ite ?_ ?_)
   | (with_reducible refine LeO.bind ?_ (fun _ => ?_))
   | exact ih0 _ _ _ _
   | exact ih1 _ _ _
   | exact LeO.none _
   | refine LeO.ite ?_ ?_
   | refine LeO.bind ?_ (fun _ => ?_)
theorem compact_RangeNodes.mono : ∀ a0 a1 a2 k, LeO (compact_RangeNodes.f k a0 a1 a2) (compact_RangeNodes.f (k + 1) a0 a1 a2) := by
 intro a0 a1 a2 k
 obtain ⟨ih0, ih1⟩ := compact_RangeNodes.mono_l k
 unfold compact_RangeNodes.f
 repeat' first
   | (with_reducible exact ih0 _ _ _ _)
   | (with_reducible exact ih1 _ _ _)
   | (with_reducible exact LeO.refl _)
   | (with_reducible exact LeO.none _)
   | (with_reducible refine LeO.ite ?_ ?_)
   | (with_reducible refine LeO.bind ?_ (fun _ => ?_))
   | exact ih0 _ _ _ _
   | exact ih1 _ _ _
   | exact LeO.none _
   | refine LeO.ite ?_ ?_
   | refine LeO.bind ?_ (fun _ => ?_)
set_option maxHeartbeats 8000000 in
set_option maxRecDepth 100000 in
theorem compact_RangeNodes.calls (k : Nat) (a0 : Int) (a1 : Int) (P2_ : Nat → Prop) (u9000_ : Value) (l2 : List (S106)) (r : List (S106)) (w0 w : World) (hT : TabOK w0) (hB : Below w0.heap.size w0 w) (ho2 : Kd.R k106 106 w w0.heap.size P2_ u9000_ l2) (h : compact_RangeNodes.f k a0 a1 l2 = some r) :
  Calls Tryd.prog 79 #[.int .u64 a0, .int .u64 a1, u9000_] w fun e w' => ∃ v0_ : Value, e = .returned (v0_) ∧ Kd.R k106 106 w' w0.heap.size (fun k_ => (P2_ k_ ∨ w.heap.size ≤ k_)) v0_ r ∧ Below w0.heap.size w0 w' ∧ Kept w w' (fun k_ => P2_ k_) := by
 have HT := Aside0.mk hT
 clear hT
 have HO2 := Aside0.mk (show Kd.R k106 106 w w0.heap.size (fun k_ => (P2_ k_ ∨ w.heap.size ≤ k_)) u9000_ l2 from Kd.R_mono ho2 (fun k_ hk => (.inl hk)))
 have HK := Aside0.mk (Kept.refl w (fun k_ => P2_ k_))
 have HW0 := Aside0.mk hB.size
 have HB := Aside0.mk hB
 clear hB
 have H : ((compact_Decompose.f a0 a1).bind fun bt279 => (compact_RangeNodes.l0 k l2 bt279.1 bt279.2 a0)) = some r := h
 clear h
 replace H := Option.bind_eq_some_iff.mp H
 obtain ⟨⟨t279, t280⟩, A40, H⟩ := H
 replace H : (compact_RangeNodes.l0 k l2 t279 t280 a0) = some r := H
 have A4 := Aside0.mk A40
 clear A40
 have H' := Aside0.mk H
 clear H
 go_enter Tryd.func79, Tryd.ntmps79
 go_wp2_with (first | ((with_reducible refine gate_callee (f := 108) rfl ?_); refine goesL_ (some 17) rfl rfl Tryd.func108 (by kernel_rfl) rfl #[.int .u64 a0, .int .u64 a1] rfl aV ?_; (with_reducible refine (compact_Decompose.calls a0 a1 t279 t280 _ A4.out).mono ?_); rintro e w' ⟨rfl, ⟨nd, rfl⟩⟩; refine ⟨_, rfl, ?_⟩))
 go_loopg [2, 7, 9] k (fun kq v2 v7 v9 w' => ∃ (x2_1 : List (S106)) (x7_1 : Int) (x9_1 : Int), v7 = .int .u64 x7_1 ∧ v9 = .int .u64 x9_1 ∧ Aside0 (compact_RangeNodes.l0 kq x2_1 x7_1 t280 x9_1 = some r) ∧ Aside0 (kq ≤ k) ∧ Aside0 (Kd.R k106 106 w' w0.heap.size (fun k_ => (P2_ k_ ∨ w.heap.size ≤ k_)) v2 x2_1) ∧ Aside0 (Kept w w' (fun k_ => P2_ k_)) ∧ Aside0 (Below w0.heap.size w0 w'))
 case atStart => exact ⟨(l2), (t279), (a0), (by first | rfl | (simp; done) | (simp [*]; done)), (by first | rfl | (simp; done) | (simp [*]; done)), H', ⟨Nat.le_refl _⟩, ⟨kR HO2.out⟩, ⟨by repeat (first | (with_reducible first | exact HK.out | apply Kept.alloc | apply Kept.drewN | apply Kept.drew) | exact HK.out)⟩, ⟨bB⟩⟩
 case round =>
  clear H'
  try clear c1
  try clear p2
  obtain ⟨x2_1, x7_1, x9_1, rfl, rfl, HA, HK1, HO_2, HK, HB⟩ := hrel
  cases gk with
  | zero => exact absurd HA.out (by simp [compact_RangeNodes.l0])
  | succ k1 =>
   have H := HA.out
   clear HA
   simp only [compact_RangeNodes.l0] at H
   by_cases c5 : x7_1 = 0
   ·rw [if_pos c5] at H
    have c5b0 : (x7_1 == 0) = true := beq_iff_eq.mpr c5
    have c5b1 : (x7_1 != 0) = false := bne_eq_false_iff_eq.mpr c5
    clear c5
    have H' := Aside0.mk H
    clear H
    go_wp2
    go_loopg [2, 8, 9] k1 (fun kq v2 v8 v9 w' => ∃ (x2_2 : List (S106)) (x8_2 : Int) (x9_2 : Int), v8 = .int .u64 x8_2 ∧ v9 = .int .u64 x9_2 ∧ Aside0 (compact_RangeNodes.l1 kq x2_2 x8_2 x9_2 = some r) ∧ Aside0 (kq ≤ k1) ∧ Aside0 (Kd.R k106 106 w' w0.heap.size (fun k_ => (P2_ k_ ∨ w.heap.size ≤ k_)) v2 x2_2) ∧ Aside0 (Kept w w' (fun k_ => P2_ k_)) ∧ Aside0 (Below w0.heap.size w0 w'))
    case atStart => exact ⟨(x2_1), (t280), (x9_1), (by first | rfl | (simp; done) | (simp [*]; done)), (by first | rfl | (simp; done) | (simp [*]; done)), H', ⟨Nat.le_refl _⟩, ⟨kR HO_2.out⟩, ⟨by repeat (first | (with_reducible first | exact HK.out | apply Kept.alloc | apply Kept.drewN | apply Kept.drew) | exact HK.out)⟩, ⟨bB⟩⟩
    case round =>
     clear H'
     try clear c1
     try clear p2
     try clear c5
     try clear c5b0
     try clear c5b1
     try clear p2
     obtain ⟨x2_2, x8_2, x9_2, rfl, rfl, HA, HK2, HO_2, HK, HB⟩ := hrel
     cases gk with
     | zero => exact absurd HA.out (by simp [compact_RangeNodes.l1])
     | succ k2 =>
      have H := HA.out
      clear HA
      simp only [compact_RangeNodes.l1] at H
      by_cases c6 : x8_2 = 0
      ·rw [if_pos c6] at H
       have c6b0 : (x8_2 == 0) = true := beq_iff_eq.mpr c6
       have c6b1 : (x8_2 != 0) = false := bne_eq_false_iff_eq.mpr c6
       clear c6
       obtain rfl := Option.some.inj H
       go_wp2
       go_ret
       exact ⟨_, by first | rfl | (simp [errW_none, errW_some] <;> rfl) | (simp [*, errW_none, errW_some] <;> rfl), by (with_reducible repeat (first | apply Kd.R_alloc | apply Kd.R_drewN | apply Kd.R_drew)); exact HO_2.out, by repeat (first | (with_reducible first | exact HB.out | apply below_alloc | apply pw_below_drewN | apply below_drew1) | exact HB.out), by repeat (first | (with_reducible first | exact HK.out | apply Kept.alloc | apply Kept.drewN | apply Kept.drew) | exact HK.out)⟩
      ·rw [if_neg c6] at H
       have c6b0 : (x8_2 == 0) = false := beq_eq_false_iff_ne.mpr c6
       have c6b1 : (x8_2 != 0) = true := bne_iff_ne.mpr c6
       replace H := Option.bind_eq_some_iff.mp H
       obtain ⟨t287, A70, H⟩ := H
       replace H : (if 0 ≤ (IntKind.u64.wrap ((IntKind.u64.wrap (t287)) - 1)) then ((compact_NewNodeID.f (IntKind.u64.wrap ((IntKind.u64.wrap (t287)) - 1)) (shr .u64 x9_2 (IntKind.u64.wrap ((IntKind.u64.wrap (t287)) - 1)))).bind fun bt288 => (if x2_2.length < 8796093022208 then (compact_RangeNodes.l1 k2 (x2_2 ++ [(⟨bt288.1, bt288.2⟩ : S106)]) (Go.bits .xor .u64 x8_2 (shl .u64 1 (IntKind.u64.wrap ((IntKind.u64.wrap (t287)) - 1)))) (IntKind.u64.wrap (x9_2 + (shl .u64 1 (IntKind.u64.wrap ((IntKind.u64.wrap (t287)) - 1)))))) else (none))) else (none)) = some r := H
       have A7 := Aside0.mk A70
       clear A70
       obtain ⟨ji8, hji8⟩ : ∃ j_ : Int, (IntKind.u64.wrap ((IntKind.u64.wrap (t287)) - 1)) = j_ := ⟨_, rfl⟩
       replace H : (if 0 ≤ (ji8) then ((compact_NewNodeID.f (ji8) (shr .u64 x9_2 (ji8))).bind fun bt288 => (if x2_2.length < 8796093022208 then (compact_RangeNodes.l1 k2 (x2_2 ++ [(⟨bt288.1, bt288.2⟩ : S106)]) (Go.bits .xor .u64 x8_2 (shl .u64 1 (ji8))) (IntKind.u64.wrap (x9_2 + (shl .u64 1 (ji8))))) else (none))) else (none)) = some r := by first | (rw [hji8] at H; exact H) | (simp only [hji8] at H ⊢; exact H)
       (try rw [hji8] at A7)
       by_cases c9 : 0 ≤ (ji8)
       ·rw [if_pos c9] at H
        have c9b0 := eq_true c9
        have c9b1 : decide (0 ≤ (ji8)) = true := decide_eq_true c9
        clear c9
        obtain ⟨ji10, hji10⟩ : ∃ j_ : Int, (shl .u64 1 (ji8)) = j_ := ⟨_, rfl⟩
        replace H : ((compact_NewNodeID.f (ji8) (shr .u64 x9_2 (ji8))).bind fun bt288 => (if x2_2.length < 8796093022208 then (compact_RangeNodes.l1 k2 (x2_2 ++ [(⟨bt288.1, bt288.2⟩ : S106)]) (Go.bits .xor .u64 x8_2 (ji10)) (IntKind.u64.wrap (x9_2 + (ji10)))) else (none))) = some r := by first | (rw [hji10] at H; exact H) | (simp only [hji10] at H ⊢; exact H)
        (try rw [hji10] at A7)
        have hji10_ : (IntKind.u64.wrap (1 * 2 ^ min (ji8).toNat 64)) = ji10 := hji10
        have hji10z : (ji8) ≤ 64 → (IntKind.u64.wrap (1 * 2 ^ (ji8).toNat)) = ji10 := shl_small hji10
        have hji10u : (IntKind.u64.wrap (2 ^ min (ji8).toNat 64)) = ji10 := by have h_ := hji10_; rw [Int.one_mul] at h_; exact h_
        have hji10v : (ji8) ≤ 64 → (IntKind.u64.wrap (2 ^ (ji8).toNat)) = ji10 := fun hle_ => by have h_ := hji10z hle_; rw [Int.one_mul] at h_; exact h_
        have c11b0 := eq_true (dA : 0 ≤ (ji8))
        obtain ⟨ji12, hji12⟩ : ∃ j_ : Int, (shr .u64 x9_2 (ji8)) = j_ := ⟨_, rfl⟩
        replace H : ((compact_NewNodeID.f (ji8) (ji12)).bind fun bt288 => (if x2_2.length < 8796093022208 then (compact_RangeNodes.l1 k2 (x2_2 ++ [(⟨bt288.1, bt288.2⟩ : S106)]) (Go.bits .xor .u64 x8_2 (ji10)) (IntKind.u64.wrap (x9_2 + (ji10)))) else (none))) = some r := by first | (rw [hji12] at H; exact H) | (simp only [hji12] at H ⊢; exact H)
        (try rw [hji12] at A7)
        have hji12_ : (x9_2 / 2 ^ min (ji8).toNat 64) = ji12 := hji12
        have hji12z : (ji8) ≤ 64 → (x9_2 / 2 ^ (ji8).toNat) = ji12 := shr_small hji12
        replace H := Option.bind_eq_some_iff.mp H
        obtain ⟨⟨t288, t289⟩, A130, H⟩ := H
        replace H : (if x2_2.length < 8796093022208 then (compact_RangeNodes.l1 k2 (x2_2 ++ [(⟨t288, t289⟩ : S106)]) (Go.bits .xor .u64 x8_2 (ji10)) (IntKind.u64.wrap (x9_2 + (ji10)))) else (none)) = some r := H
        have A13 := Aside0.mk A130
        clear A130
        by_cases c14 : x2_2.length < 8796093022208
        ·rw [if_pos c14] at H
         have LMc14 := Aside0.mk c14
         clear c14
         obtain ⟨y290, hy290⟩ : ∃ y_ : List (S106), y_ = (x2_2 ++ [(⟨t288, t289⟩ : S106)]) := ⟨_, rfl⟩
         replace H : (compact_RangeNodes.l1 k2 y290 (Go.bits .xor .u64 x8_2 (ji10)) (IntKind.u64.wrap (x9_2 + (ji10)))) = some r := by first | (rw [hy290]; with_reducible exact H) | (have H2_ := (Option.bind_some _ _).symm.trans H; rw [hy290]; with_reducible exact H2_) | (have H2_ := (Option.bind_some _ _).symm.trans H; with_reducible exact H2_) | with_reducible exact H | (rw [hy290]; exact H) | exact H
         have Ny290 := Aside0.mk hy290
         clear hy290
         have H' := Aside0.mk H
         clear H
         go_wp2_with (first | ((with_reducible refine gate_callee (f := 109) rfl ?_); refine goesL_ (some 51) rfl rfl Tryd.func109 (by kernel_rfl) rfl #[.int .u64 x8_2] rfl aV ?_; (with_reducible refine (bits_Len64.calls x8_2 t287 _ A7.out).mono ?_); rintro e w' ⟨rfl, ⟨nd, rfl⟩⟩; refine ⟨_, rfl, ?_⟩) | ((with_reducible refine gate_callee (f := 92) rfl ?_); refine goesL_ (some 61) rfl rfl Tryd.func92 (by kernel_rfl) rfl #[.int .u64 ji8, .int .u64 ji12] rfl (by (try simp only [List.map_toArray, List.map_cons, List.map_nil]); first | done | (simp only [hji12, hji8]; rfl) | rfl | (simp only [List.length_drop, List.length_take]; rfl)) ?_; (with_reducible refine (compact_NewNodeID.calls ji8 ji12 t288 t289 _ A13.out).mono ?_); rintro e w15 ⟨rfl, hb⟩; refine ⟨_, rfl, ?_⟩; have n0_ := Aside0.mk (Kd.R_below (kR HO_2.out) hb); have n1_ := Aside0.mk (Kept.below (S := (fun k_ => P2_ k_)) (by repeat (first | (with_reducible first | exact HK.out | apply Kept.alloc | apply Kept.drewN | apply Kept.drew) | exact HK.out)) hb); have n2_ := Aside0.mk (below_step bB hb); clear HO_2; clear HK; clear HB; have HO_2 := n0_; have HK := n1_; have HB := n2_; clear n0_ n1_ n2_; (try clear hb); (try clear hb2); (try clear hk); (try clear hi)) | ((with_reducible refine gate_builtin (b := .append) (xs := #[.tmp 56, .tmp 62]) rfl ?_); at_builtin; refine Kd.R_append k106 (w0 := w0) w0.heap.size rfl (.tmp 56) (.tmp 62) 120 106 (.agg #[(.int .u64 0), (.int .u64 0)]) 16 rfl Tryd.underlying120 info106 rfl (by decide) (by omega) u2 x2_2 (⟨t288, t289⟩ : S106) [.int .u64 t288, .int .u64 t289] (fun k_ => (P2_ k_ ∨ w.heap.size ≤ k_)) (fun _ => False) rfl rfl ?aP (fun _ hk => hk.elim) ?aF ?aO ?aB ?aS ?aL ?_; (case aP => exact k106_mkM _ _ _ (⟨t288, t289⟩ : S106)); (case aB => exact bB); (case aF => exact (fun k_ hk => (.inr (Nat.le_trans (by first | exact HK.out.1 | exact (show Kept w _ (fun k_ => P2_ k_) from by repeat (first | (with_reducible first | exact HK.out | apply Kept.alloc | apply Kept.drewN | apply Kept.drew) | exact HK.out)).1) hk)))); (case aO => exact (kR HO_2.out)); (case aS => exact (below_size bB)); (case aL => have := LMc14.out; omega); intro v291 w16 ho hb hg hat; rw [← Ny290.out] at ho; have n0_ := Aside0.mk (hb); have n1_ := Aside0.mk (Kept.of_grown (S := (fun k_ => P2_ k_)) hg (by repeat (first | (with_reducible first | exact HK.out | apply Kept.alloc | apply Kept.drewN | apply Kept.drew) | exact HK.out)) (fun k_ e_ => (HO_2.out.1 k_ e_))); have n2_ := Aside0.mk (ho); clear HB; clear HK; clear HO_2; have HB := n0_; have HK := n1_; have HO292 := n2_; clear n0_ n1_ n2_; clear ho hb hg hat))
         go_roundg k2
         case measure => have := HK1.out; have := HK2.out; omega
         case rel => exact ⟨(y290), (Go.bits .xor .u64 x8_2 (ji10)), (IntKind.u64.wrap (x9_2 + (ji10))), (by first | rfl | (simp; done) | (simp only [← hji10] <;> (first | rfl | simp)) | (simp [*]; done)), (by first | rfl | (simp; done) | (simp only [← hji10] <;> (first | rfl | simp)) | (simp [*]; done)), H', ⟨by have := HK1.out; have := HK2.out; omega⟩, ⟨kR HO292.out⟩, ⟨by repeat (first | (with_reducible first | exact HK.out | apply Kept.alloc | apply Kept.drewN | apply Kept.drew) | exact HK.out)⟩, ⟨bB⟩⟩
        ·rw [if_neg c14] at H
         exact absurd H (by simp)
       ·rw [if_neg c9] at H
        exact absurd H (by simp)
   ·rw [if_neg c5] at H
    have c5b0 : (x7_1 == 0) = false := beq_eq_false_iff_ne.mpr c5
    have c5b1 : (x7_1 != 0) = true := bne_iff_ne.mpr c5
    replace H := Option.bind_eq_some_iff.mp H
    obtain ⟨t281, A170, H⟩ := H
    replace H : (if 0 ≤ (IntKind.u64.wrap (t281)) then ((compact_NewNodeID.f (IntKind.u64.wrap (t281)) (shr .u64 x9_1 (IntKind.u64.wrap (t281)))).bind fun bt282 => (if x2_1.length < 8796093022208 then (compact_RangeNodes.l0 k1 (x2_1 ++ [(⟨bt282.1, bt282.2⟩ : S106)]) (Go.bits .xor .u64 x7_1 (shl .u64 1 (IntKind.u64.wrap (t281)))) t280 (IntKind.u64.wrap (x9_1 + (shl .u64 1 (IntKind.u64.wrap (t281)))))) else (none))) else (none)) = some r := H
    have A17 := Aside0.mk A170
    clear A170
    obtain ⟨ji18, hji18⟩ : ∃ j_ : Int, (IntKind.u64.wrap (t281)) = j_ := ⟨_, rfl⟩
    replace H : (if 0 ≤ (ji18) then ((compact_NewNodeID.f (ji18) (shr .u64 x9_1 (ji18))).bind fun bt282 => (if x2_1.length < 8796093022208 then (compact_RangeNodes.l0 k1 (x2_1 ++ [(⟨bt282.1, bt282.2⟩ : S106)]) (Go.bits .xor .u64 x7_1 (shl .u64 1 (ji18))) t280 (IntKind.u64.wrap (x9_1 + (shl .u64 1 (ji18))))) else (none))) else (none)) = some r := by first | (rw [hji18] at H; exact H) | (simp only [hji18] at H ⊢; exact H)
    (try rw [hji18] at A17)
    by_cases c19 : 0 ≤ (ji18)
    ·rw [if_pos c19] at H
     have c19b0 := eq_true c19
     have c19b1 : decide (0 ≤ (ji18)) = true := decide_eq_true c19
     clear c19
     obtain ⟨ji20, hji20⟩ : ∃ j_ : Int, (shl .u64 1 (ji18)) = j_ := ⟨_, rfl⟩
     replace H : ((compact_NewNodeID.f (ji18) (shr .u64 x9_1 (ji18))).bind fun bt282 => (if x2_1.length < 8796093022208 then (compact_RangeNodes.l0 k1 (x2_1 ++ [(⟨bt282.1, bt282.2⟩ : S106)]) (Go.bits .xor .u64 x7_1 (ji20)) t280 (IntKind.u64.wrap (x9_1 + (ji20)))) else (none))) = some r := by first | (rw [hji20] at H; exact H) | (simp only [hji20] at H ⊢; exact H)
     (try rw [hji20] at A17)
     have hji20_ : (IntKind.u64.wrap (1 * 2 ^ min (ji18).toNat 64)) = ji20 := hji20
     have hji20z : (ji18) ≤ 64 → (IntKind.u64.wrap (1 * 2 ^ (ji18).toNat)) = ji20 := shl_small hji20
     have hji20u : (IntKind.u64.wrap (2 ^ min (ji18).toNat 64)) = ji20 := by have h_ := hji20_; rw [Int.one_mul] at h_; exact h_
     have hji20v : (ji18) ≤ 64 → (IntKind.u64.wrap (2 ^ (ji18).toNat)) = ji20 := fun hle_ => by have h_ := hji20z hle_; rw [Int.one_mul] at h_; exact h_
     have c21b0 := eq_true (dA : 0 ≤ (ji18))
     obtain ⟨ji22, hji22⟩ : ∃ j_ : Int, (shr .u64 x9_1 (ji18)) = j_ := ⟨_, rfl⟩
     replace H : ((compact_NewNodeID.f (ji18) (ji22)).bind fun bt282 => (if x2_1.length < 8796093022208 then (compact_RangeNodes.l0 k1 (x2_1 ++ [(⟨bt282.1, bt282.2⟩ : S106)]) (Go.bits .xor .u64 x7_1 (ji20)) t280 (IntKind.u64.wrap (x9_1 + (ji20)))) else (none))) = some r := by first | (rw [hji22] at H; exact H) | (simp only [hji22] at H ⊢; exact H)
     (try rw [hji22] at A17)
     have hji22_ : (x9_1 / 2 ^ min (ji18).toNat 64) = ji22 := hji22
     have hji22z : (ji18) ≤ 64 → (x9_1 / 2 ^ (ji18).toNat) = ji22 := shr_small hji22
     replace H := Option.bind_eq_some_iff.mp H
     obtain ⟨⟨t282, t283⟩, A230, H⟩ := H
     replace H : (if x2_1.length < 8796093022208 then (compact_RangeNodes.l0 k1 (x2_1 ++ [(⟨t282, t283⟩ : S106)]) (Go.bits .xor .u64 x7_1 (ji20)) t280 (IntKind.u64.wrap (x9_1 + (ji20)))) else (none)) = some r := H
     have A23 := Aside0.mk A230
     clear A230
     by_cases c24 : x2_1.length < 8796093022208
     ·rw [if_pos c24] at H
      have LMc24 := Aside0.mk c24
      clear c24
      obtain ⟨y284, hy284⟩ : ∃ y_ : List (S106), y_ = (x2_1 ++ [(⟨t282, t283⟩ : S106)]) := ⟨_, rfl⟩
      replace H : (compact_RangeNodes.l0 k1 y284 (Go.bits .xor .u64 x7_1 (ji20)) t280 (IntKind.u64.wrap (x9_1 + (ji20)))) = some r := by first | (rw [hy284]; with_reducible exact H) | (have H2_ := (Option.bind_some _ _).symm.trans H; rw [hy284]; with_reducible exact H2_) | (have H2_ := (Option.bind_some _ _).symm.trans H; with_reducible exact H2_) | with_reducible exact H | (rw [hy284]; exact H) | exact H
      have Ny284 := Aside0.mk hy284
      clear hy284
      have H' := Aside0.mk H
      clear H
      go_wp2_with (first | ((with_reducible refine gate_callee (f := 83) rfl ?_); refine goesL_ (some 30) rfl rfl Tryd.func83 (by kernel_rfl) rfl #[.int .u64 x7_1] rfl aV ?_; (with_reducible refine (bits_TrailingZeros64.calls x7_1 t281 _ ?side1 A17.out).mono ?_); (case side1 => exact TabOK.below HT.out bB); rintro e w' ⟨rfl, ⟨nd, rfl⟩⟩; refine ⟨_, rfl, ?_⟩) | ((with_reducible refine gate_callee (f := 92) rfl ?_); refine goesL_ (some 39) rfl rfl Tryd.func92 (by kernel_rfl) rfl #[.int .u64 ji18, .int .u64 ji22] rfl (by (try simp only [List.map_toArray, List.map_cons, List.map_nil]); first | done | (simp only [hji18, hji22]; rfl) | rfl | (simp only [List.length_drop, List.length_take]; rfl)) ?_; (with_reducible refine (compact_NewNodeID.calls ji18 ji22 t282 t283 _ A23.out).mono ?_); rintro e w25 ⟨rfl, hb⟩; refine ⟨_, rfl, ?_⟩; have n0_ := Aside0.mk (Kd.R_below (kR HO_2.out) hb); have n1_ := Aside0.mk (Kept.below (S := (fun k_ => P2_ k_)) (by repeat (first | (with_reducible first | exact HK.out | apply Kept.alloc | apply Kept.drewN | apply Kept.drew) | exact HK.out)) hb); have n2_ := Aside0.mk (below_step bB hb); clear HO_2; clear HK; clear HB; have HO_2 := n0_; have HK := n1_; have HB := n2_; clear n0_ n1_ n2_; (try clear hb); (try clear hb2); (try clear hk); (try clear hi)) | ((with_reducible refine gate_builtin (b := .append) (xs := #[.tmp 34, .tmp 40]) rfl ?_); at_builtin; refine Kd.R_append k106 (w0 := w0) w0.heap.size rfl (.tmp 34) (.tmp 40) 120 106 (.agg #[(.int .u64 0), (.int .u64 0)]) 16 rfl Tryd.underlying120 info106 rfl (by decide) (by omega) u2 x2_1 (⟨t282, t283⟩ : S106) [.int .u64 t282, .int .u64 t283] (fun k_ => (P2_ k_ ∨ w.heap.size ≤ k_)) (fun _ => False) rfl rfl ?aP (fun _ hk => hk.elim) ?aF ?aO ?aB ?aS ?aL ?_; (case aP => exact k106_mkM _ _ _ (⟨t282, t283⟩ : S106)); (case aB => exact bB); (case aF => exact (fun k_ hk => (.inr (Nat.le_trans (by first | exact HK.out.1 | exact (show Kept w _ (fun k_ => P2_ k_) from by repeat (first | (with_reducible first | exact HK.out | apply Kept.alloc | apply Kept.drewN | apply Kept.drew) | exact HK.out)).1) hk)))); (case aO => exact (kR HO_2.out)); (case aS => exact (below_size bB)); (case aL => have := LMc24.out; omega); intro v285 w26 ho hb hg hat; rw [← Ny284.out] at ho; have n0_ := Aside0.mk (hb); have n1_ := Aside0.mk (Kept.of_grown (S := (fun k_ => P2_ k_)) hg (by repeat (first | (with_reducible first | exact HK.out | apply Kept.alloc | apply Kept.drewN | apply Kept.drew) | exact HK.out)) (fun k_ e_ => (HO_2.out.1 k_ e_))); have n2_ := Aside0.mk (ho); clear HB; clear HK; clear HO_2; have HB := n0_; have HK := n1_; have HO286 := n2_; clear n0_ n1_ n2_; clear ho hb hg hat))
      go_roundg k1
      case measure => have := HK1.out; omega
      case rel => exact ⟨(y284), (Go.bits .xor .u64 x7_1 (ji20)), (IntKind.u64.wrap (x9_1 + (ji20))), (by first | rfl | (simp; done) | (simp only [← hji20] <;> (first | rfl | simp)) | (simp [*]; done)), (by first | rfl | (simp; done) | (simp only [← hji20] <;> (first | rfl | simp)) | (simp [*]; done)), H', ⟨by have := HK1.out; omega⟩, ⟨kR HO286.out⟩, ⟨by repeat (first | (with_reducible first | exact HK.out | apply Kept.alloc | apply Kept.drewN | apply Kept.drew) | exact HK.out)⟩, ⟨bB⟩⟩
     ·rw [if_neg c24] at H
      exact absurd H (by simp)
    ·rw [if_neg c19] at H
     exact absurd H (by simp)


/-! ### bits_OnesCount64: function 112 -/
theorem bits_OnesCount64.walk (x1 x2 x3 x4 x5 x6 r x : Int) (w : World)
  (e1 : IntKind.u64.wrap (Go.bits .and .u64 (x / 2) 6148914691236517205 + Go.bits .and .u64 x 6148914691236517205) = x1)
  (e2 : IntKind.u64.wrap (Go.bits .and .u64 (x1 / 4) 3689348814741910323 + Go.bits .and .u64 x1 3689348814741910323) = x2)
  (e3 : Go.bits .and .u64 (IntKind.u64.wrap (x2 / 16 + x2)) 1085102592571150095 = x3)
  (e4 : IntKind.u64.wrap (x3 + x3 / 256) = x4) (e5 : IntKind.u64.wrap (x4 + x4 / 65536) = x5) (e6 : IntKind.u64.wrap (x5 + x5 / 4294967296) = x6)
  (e7 : Go.bits .and .i64 (wrap64 x6) 127 = r) :
  Calls Tryd.prog 112 #[.int .u64 x] w fun e w' => e = .returned (.int .i64 r) ∧ w' = w := by
 go_enter Tryd.func112, Tryd.ntmps112
 go_wp2
 go_ret
 exact ⟨rfl, rfl⟩
def bits_OnesCount64.f (a0 : Int) : Option (Int) := if 0 ≤ a0 ∧ a0 ≤ 18446744073709551615 then some (Lib.onesCount a0.toNat : Int) else none
theorem bits_OnesCount64.calls (a0 : Int) (r : Int) (w : World) (h : bits_OnesCount64.f a0 = some r) :
  Calls Tryd.prog 112 #[.int .u64 a0] w fun e w' => e = .returned (.int .i64 r) ∧ Drawn0 w w' := by
 unfold bits_OnesCount64.f at h
 split at h
 ·rename_i hc
  injection h with h
  obtain ⟨x, rfl⟩ : ∃ x : Nat, a0 = (x : Int) := ⟨a0.toNat, by omega⟩
  rw [Int.toNat_natCast] at h
  refine (bits_OnesCount64.walk _ _ _ _ _ _ r x w rfl rfl rfl rfl rfl rfl (by rw [← h]; exact Ones.swar x (by omega))).mono ?_
  rintro e w' ⟨rfl, rfl⟩
  exact ⟨rfl, Drawn0.refl _⟩
 ·cases h


/-! ### compact_RangeSize: function 91 -/
def compact_RangeSize.f (a0 : Int) (a1 : Int) : Option (Int) := (compact_Decompose.f a0 a1).bind fun bt293 => ((bits_OnesCount64.f bt293.1).bind fun t295 => ((bits_OnesCount64.f bt293.2).bind fun t296 => (some (wrap64 (t295 + t296)))))
set_option maxHeartbeats 8000000 in
set_option maxRecDepth 100000 in
theorem compact_RangeSize.calls (a0 : Int) (a1 : Int) (r : Int) (w : World) (h : compact_RangeSize.f a0 a1 = some r) :
  Calls Tryd.prog 91 #[.int .u64 a0, .int .u64 a1] w fun e w' => e = .returned (.int .i64 r) ∧ Drawn0 w w' := by
 have H : ((compact_Decompose.f a0 a1).bind fun bt293 => ((bits_OnesCount64.f bt293.1).bind fun t295 => ((bits_OnesCount64.f bt293.2).bind fun t296 => (some (wrap64 (t295 + t296)))))) = some r := h
 clear h
 replace H := Option.bind_eq_some_iff.mp H
 obtain ⟨⟨t293, t294⟩, A30, H⟩ := H
 replace H : ((bits_OnesCount64.f t293).bind fun t295 => ((bits_OnesCount64.f t294).bind fun t296 => (some (wrap64 (t295 + t296))))) = some r := H
 have A3 := Aside0.mk A30
 clear A30
 replace H := Option.bind_eq_some_iff.mp H
 obtain ⟨t295, A40, H⟩ := H
 replace H : ((bits_OnesCount64.f t294).bind fun t296 => (some (wrap64 (t295 + t296)))) = some r := H
 have A4 := Aside0.mk A40
 clear A40
 replace H := Option.bind_eq_some_iff.mp H
 obtain ⟨t296, A50, H⟩ := H
 replace H : (some (wrap64 (t295 + t296))) = some r := H
 have A5 := Aside0.mk A50
 clear A50
 obtain rfl := Option.some.inj H
 go_enter Tryd.func91, Tryd.ntmps91
 go_wp2_with (first | ((with_reducible refine gate_callee (f := 108) rfl ?_); refine goesL_ (some 10) rfl rfl Tryd.func108 (by kernel_rfl) rfl #[.int .u64 a0, .int .u64 a1] rfl aV ?_; (with_reducible refine (compact_Decompose.calls a0 a1 t293 t294 _ A3.out).mono ?_); rintro e w' ⟨rfl, ⟨nd, rfl⟩⟩; refine ⟨_, rfl, ?_⟩) | ((with_reducible refine gate_callee (f := 112) rfl ?_); refine goesL_ (some 14) rfl rfl Tryd.func112 (by kernel_rfl) rfl #[.int .u64 t293] rfl aV ?_; (with_reducible refine (bits_OnesCount64.calls t293 t295 _ A4.out).mono ?_); rintro e w' ⟨rfl, ⟨nd, rfl⟩⟩; refine ⟨_, rfl, ?_⟩) | ((with_reducible refine gate_callee (f := 112) rfl ?_); refine goesL_ (some 16) rfl rfl Tryd.func112 (by kernel_rfl) rfl #[.int .u64 t294] rfl aV ?_; (with_reducible refine (bits_OnesCount64.calls t294 t296 _ A5.out).mono ?_); rintro e w' ⟨rfl, ⟨nd, rfl⟩⟩; refine ⟨_, rfl, ?_⟩))
 go_ret
 exact ⟨by first | rfl | (simp; done) | (simp [*]; done), by repeat (first | exact Drawn0.refl _ | apply Drawn0.step)⟩


/-! ### compact_NodeID_Coverage: function 115 -/
def compact_NodeID_Coverage.f (a0_0 : Int) (a0_1 : Int) : Option (Int × Int) := if 0 ≤ a0_0 then (some (shl .u64 a0_1 a0_0, shl .u64 (IntKind.u64.wrap (a0_1 + 1)) a0_0)) else (none)
set_option maxHeartbeats 8000000 in
set_option maxRecDepth 100000 in
theorem compact_NodeID_Coverage.calls (a0_0 : Int) (a0_1 : Int) (r1 : Int) (r2 : Int) (w : World) (h : compact_NodeID_Coverage.f a0_0 a0_1 = some (r1, r2)) :
  Calls Tryd.prog 115 #[.agg #[.int .u64 a0_0, .int .u64 a0_1]] w fun e w' => e = .returned (.tuple #[.int .u64 r1, .int .u64 r2]) ∧ Below w.heap.size w w' := by
 have hu106 := Tryd.underlying106
 have HB := Aside0.mk (Below.refl w.heap.size w)
 have H : (if 0 ≤ a0_0 then (some (shl .u64 a0_1 a0_0, shl .u64 (IntKind.u64.wrap (a0_1 + 1)) a0_0)) else (none)) = some (r1, r2) := h
 clear h
 by_cases c2 : 0 ≤ a0_0
 ·rw [if_pos c2] at H
  have c2b0 := eq_true c2
  have c2b1 : decide (0 ≤ a0_0) = true := decide_eq_true c2
  clear c2
  obtain ⟨ji3, hji3⟩ : ∃ j_ : Int, (shl .u64 a0_1 a0_0) = j_ := ⟨_, rfl⟩
  replace H : (some (ji3, shl .u64 (IntKind.u64.wrap (a0_1 + 1)) a0_0)) = some (r1, r2) := by first | (rw [hji3] at H; exact H) | (simp only [hji3] at H ⊢; exact H)
  have hji3_ : (IntKind.u64.wrap (a0_1 * 2 ^ min a0_0.toNat 64)) = ji3 := hji3
  have hji3z : a0_0 ≤ 64 → (IntKind.u64.wrap (a0_1 * 2 ^ a0_0.toNat)) = ji3 := shl_small hji3
  have c4b0 := eq_true (dA : 0 ≤ a0_0)
  obtain ⟨ji5, hji5⟩ : ∃ j_ : Int, (shl .u64 (IntKind.u64.wrap (a0_1 + 1)) a0_0) = j_ := ⟨_, rfl⟩
  replace H : (some (ji3, ji5)) = some (r1, r2) := by first | (rw [hji5] at H; exact H) | (simp only [hji5] at H ⊢; exact H)
  have hji5_ : (IntKind.u64.wrap ((IntKind.u64.wrap (a0_1 + 1)) * 2 ^ min a0_0.toNat 64)) = ji5 := hji5
  have hji5z : a0_0 ≤ 64 → (IntKind.u64.wrap ((IntKind.u64.wrap (a0_1 + 1)) * 2 ^ a0_0.toNat)) = ji5 := shl_small hji5
  simp only [Option.some.injEq, Prod.mk.injEq] at H
  obtain ⟨rfl, rfl⟩ := H
  go_enter Tryd.func115, Tryd.ntmps115
  go_wp2_with (first | ((with_reducible refine gate_dst (N := 1) rfl ?_); refine box_event ?hg (N := 1) ?hd (cs := #[.int .u64 a0_0, .int .u64 a0_1]) (t := 106) ?hr ?_; (case hd => rfl); (case hg => rfl); (case hr => first | (go_simp; done) | (go_simp; rfl)); intro gb297 hg w6 hbox hb; have n0_ := Aside0.mk (below_step bB hb); have n1_ := Aside0.mk (hbox); have n2_ := Aside0.mk ((by rw [hg]; exact (below_size bB) : w.heap.size ≤ gb297)); have n3_ := Aside0.mk ((by rw [hg]; exact (below_size bB) : w.heap.size ≤ gb297)); clear HB; have HB := n0_; have BK297 := n1_; have GW297 := n2_; have GE297 := n3_; clear n0_ n1_ n2_ n3_; clear hb hbox hg; have hcz7_0 : w6.cell? ⟨gb297, 0, none⟩ = some (.int .u64 a0_0) := (blk_cell BK297.out 0).trans rfl; have hcz7_1 : w6.cell? ⟨gb297, 1, none⟩ = some (.int .u64 a0_1) := (blk_cell BK297.out 1).trans rfl; have hfz7_0 := blk_frozen BK297.out 0; have hfz7_1 := blk_frozen BK297.out 1))
  repeat (go_quiet (first | ((with_reducible refine gate_dst (N := 1) rfl ?_); refine box_event ?hg (N := 1) ?hd (cs := #[.int .u64 a0_0, .int .u64 a0_1]) (t := 106) ?hr ?_; (case hd => rfl); (case hg => rfl); (case hr => first | (go_simp; done) | (go_simp; rfl)); intro gb297 hg w6 hbox hb; have n0_ := Aside0.mk (below_step bB hb); have n1_ := Aside0.mk (hbox); have n2_ := Aside0.mk ((by rw [hg]; exact (below_size bB) : w.heap.size ≤ gb297)); have n3_ := Aside0.mk ((by rw [hg]; exact (below_size bB) : w.heap.size ≤ gb297)); clear HB; have HB := n0_; have BK297 := n1_; have GW297 := n2_; have GE297 := n3_; clear n0_ n1_ n2_ n3_; clear hb hbox hg; have hcz7_0 : w6.cell? ⟨gb297, 0, none⟩ = some (.int .u64 a0_0) := (blk_cell BK297.out 0).trans rfl; have hcz7_1 : w6.cell? ⟨gb297, 1, none⟩ = some (.int .u64 a0_1) := (blk_cell BK297.out 1).trans rfl; have hfz7_0 := blk_frozen BK297.out 0; have hfz7_1 := blk_frozen BK297.out 1)); try go_wp2_with (first | ((with_reducible refine gate_dst (N := 1) rfl ?_); refine box_event ?hg (N := 1) ?hd (cs := #[.int .u64 a0_0, .int .u64 a0_1]) (t := 106) ?hr ?_; (case hd => rfl); (case hg => rfl); (case hr => first | (go_simp; done) | (go_simp; rfl)); intro gb297 hg w6 hbox hb; have n0_ := Aside0.mk (below_step bB hb); have n1_ := Aside0.mk (hbox); have n2_ := Aside0.mk ((by rw [hg]; exact (below_size bB) : w.heap.size ≤ gb297)); have n3_ := Aside0.mk ((by rw [hg]; exact (below_size bB) : w.heap.size ≤ gb297)); clear HB; have HB := n0_; have BK297 := n1_; have GW297 := n2_; have GE297 := n3_; clear n0_ n1_ n2_ n3_; clear hb hbox hg; have hcz7_0 : w6.cell? ⟨gb297, 0, none⟩ = some (.int .u64 a0_0) := (blk_cell BK297.out 0).trans rfl; have hcz7_1 : w6.cell? ⟨gb297, 1, none⟩ = some (.int .u64 a0_1) := (blk_cell BK297.out 1).trans rfl; have hfz7_0 := blk_frozen BK297.out 0; have hfz7_1 := blk_frozen BK297.out 1)))
  go_ret2
  exact ⟨by first | rfl | (simp [errW_none, errW_some] <;> rfl) | (simp only [← hji3, ← hji5]; first | rfl | (simp [errW_none, errW_some] <;> rfl)) | (simp [*, errW_none, errW_some] <;> rfl), bB⟩
 ·rw [if_neg c2] at H
  exact absurd H (by simp)


/-! ### compact_NodeID_Sibling: function 116 -/
def compact_NodeID_Sibling.f (a0_0 : Int) (a0_1 : Int) : Option (Int × Int) := (compact_NewNodeID.f a0_0 (Go.bits .xor .u64 a0_1 1)).bind fun bt300 => (some (bt300.1, bt300.2))
set_option maxHeartbeats 8000000 in
set_option maxRecDepth 100000 in
theorem compact_NodeID_Sibling.calls (a0_0 : Int) (a0_1 : Int) (r1 : Int) (r2 : Int) (w : World) (h : compact_NodeID_Sibling.f a0_0 a0_1 = some (r1, r2)) :
  Calls Tryd.prog 116 #[.agg #[.int .u64 a0_0, .int .u64 a0_1]] w fun e w' => e = .returned (.agg #[.int .u64 r1, .int .u64 r2]) ∧ Below w.heap.size w w' := by
 have hu106 := Tryd.underlying106
 have HB := Aside0.mk (Below.refl w.heap.size w)
 have H : ((compact_NewNodeID.f a0_0 (Go.bits .xor .u64 a0_1 1)).bind fun bt300 => (some (bt300.1, bt300.2))) = some (r1, r2) := h
 clear h
 replace H := Option.bind_eq_some_iff.mp H
 obtain ⟨⟨t300, t301⟩, A20, H⟩ := H
 replace H : (some (t300, t301)) = some (r1, r2) := H
 have A2 := Aside0.mk A20
 clear A20
 simp only [Option.some.injEq, Prod.mk.injEq] at H
 obtain ⟨rfl, rfl⟩ := H
 go_enter Tryd.func116, Tryd.ntmps116
 go_wp2_with (first | ((with_reducible refine gate_dst (N := 1) rfl ?_); refine box_event ?hg (N := 1) ?hd (cs := #[.int .u64 a0_0, .int .u64 a0_1]) (t := 106) ?hr ?_; (case hd => rfl); (case hg => rfl); (case hr => first | (go_simp; done) | (go_simp; rfl)); intro gb298 hg w3 hbox hb; have n0_ := Aside0.mk (below_step bB hb); have n1_ := Aside0.mk (hbox); have n2_ := Aside0.mk ((by rw [hg]; exact (below_size bB) : w.heap.size ≤ gb298)); have n3_ := Aside0.mk ((by rw [hg]; exact (below_size bB) : w.heap.size ≤ gb298)); clear HB; have HB := n0_; have BK298 := n1_; have GW298 := n2_; have GE298 := n3_; clear n0_ n1_ n2_ n3_; clear hb hbox hg) | ((with_reducible refine gate_dst (N := 2) rfl ?_); refine box_event ?hg (N := 2) ?hd (cs := #[.int .u64 0, .int .u64 0]) (t := 106) ?hr ?_; (case hd => rfl); (case hg => rfl); (case hr => first | (go_simp; done) | (go_simp; rfl)); intro gb299 hg w4 hbox hb; have n0_ := Aside0.mk (blk_below (g := gb298) (o := .cells #[.int .u64 a0_0, .int .u64 a0_1] 106 (0, 0)) (kB BK298.out) hb); have n1_ := Aside0.mk (below_step bB hb); have n2_ := Aside0.mk (hbox); have n3_ := Aside0.mk ((by rw [hg]; exact (below_size bB) : w.heap.size ≤ gb299)); have n4_ := Aside0.mk ((by rw [hg]; exact (below_size bB) : w.heap.size ≤ gb299)); have n5_ := Aside0.mk ((by rw [hg]; exact Nat.ne_of_lt (blk_lt (g := gb298) (o := .cells #[.int .u64 a0_0, .int .u64 a0_1] 106 (0, 0)) (kB BK298.out)) : gb298 ≠ gb299)); have n6_ := Aside0.mk ((by rw [hg]; exact Nat.ne_of_gt (blk_lt (g := gb298) (o := .cells #[.int .u64 a0_0, .int .u64 a0_1] 106 (0, 0)) (kB BK298.out)) : gb299 ≠ gb298)); clear BK298; clear HB; have BK298 := n0_; have HB := n1_; have BK299 := n2_; have GW299 := n3_; have GE299 := n4_; have NB298_299 := n5_; have NB299_298 := n6_; clear n0_ n1_ n2_ n3_ n4_ n5_ n6_; clear hb hbox hg; have hnb5 := NB298_299.out; have hnc5 := NB299_298.out; have hcz6_0 : w4.cell? ⟨gb298, 0, none⟩ = some (.int .u64 a0_0) := (blk_cell BK298.out 0).trans rfl; have hcz6_1 : w4.cell? ⟨gb298, 1, none⟩ = some (.int .u64 a0_1) := (blk_cell BK298.out 1).trans rfl; have hfz6_0 := blk_frozen BK298.out 0; have hfz6_1 := blk_frozen BK298.out 1) | ((with_reducible refine gate_callee (f := 92) rfl ?_); refine goesL_ (some 8) rfl rfl Tryd.func92 (by kernel_rfl) rfl #[.int .u64 a0_0, .int .u64 (Go.bits .xor .u64 a0_1 1)] rfl aV ?_; (with_reducible refine (compact_NewNodeID.calls a0_0 (Go.bits .xor .u64 a0_1 1) t300 t301 _ A2.out).mono ?_); rintro e w7 ⟨rfl, hb⟩; refine ⟨_, rfl, ?_⟩; have n0_ := Aside0.mk (blk_below (g := gb298) (o := .cells #[.int .u64 a0_0, .int .u64 a0_1] 106 (0, 0)) (kB BK298.out) hb); have n1_ := Aside0.mk (blk_below (g := gb299) (o := .cells #[.int .u64 0, .int .u64 0] 106 (0, 0)) (kB BK299.out) hb); have n2_ := Aside0.mk (below_step bB hb); clear BK298; clear BK299; clear HB; have BK298 := n0_; have BK299 := n1_; have HB := n2_; clear n0_ n1_ n2_; (try clear hb); (try clear hb2); (try clear hk); (try clear hi); have hcz8_0 : w7.cell? ⟨gb299, 0, none⟩ = some (.int .u64 0) := (blk_cell BK299.out 0).trans rfl; have hcz8_1 : w7.cell? ⟨gb299, 1, none⟩ = some (.int .u64 0) := (blk_cell BK299.out 1).trans rfl; have hfz8_0 := blk_frozen BK299.out 0; have hfz8_1 := blk_frozen BK299.out 1))
 refine bodyPost_ret (results_cell_row rfl _ _ gb299 106 #[.int .u64 t300, .int .u64 t301] (0, 0) _ rfl (by (with_reducible repeat (first | refine blk_drewN ?_ _ | refine blk_drew ?_ | refine blk_alloc ?_ _)); refine blk_put (cs := #[.int .u64 t300, .int .u64 0]) ?_ 1 _ rfl; (with_reducible repeat (first | refine blk_drewN ?_ _ | refine blk_drew ?_ | refine blk_alloc ?_ _)); refine blk_put (cs := #[.int .u64 0, .int .u64 0]) ?_ 0 _ rfl; (with_reducible repeat (first | refine blk_drewN ?_ _ | refine blk_drew ?_ | refine blk_alloc ?_ _)); exact BK299.out) Tryd.underlying106 rfl (by kernel_rfl)) rfl ?_
 exact ⟨by first | rfl | (simp [errW_none, errW_some] <;> rfl) | (simp [*, errW_none, errW_some] <;> rfl), bB⟩

end Go.Proofs.YtkmdkmlgahfcpaaDoor.M

