-- Written by a program of ours (wip/xp) out of the translation; Lean checks it.
import Derived.Test.YtkmdkmlgahfcpaaDoorSq
import Derived.Test.YtkmdkmlgahfcpaaDoorMm1
import Derived.Test.YtkmdkmlgahfcpaaDoorMm8
import Derived.Test.YtkmdkmlgahfcpaaDoorMm6
namespace Go.Proofs.YtkmdkmlgahfcpaaDoor.M
open Go.RowKit Go.Proofs.YtkmdkmlgahfcpaaDoorW.PrintWords Go.Proofs.YtkmdkmlgahfcpaaDoorW.PrintLast Go.Proofs.YtkmdkmlgahfcpaaDoorW.PrintMore
attribute [local go_sem] max2_int min2_int max_two min_two max_three min_three max_four min_four   -- for this text's walks alone
set_option linter.unusedVariables false
set_option linter.unusedSimpArgs false

/-! ### spec_RootsFromProof: function 51 -/
def spec_RootsFromProof.f (k : Nat) (a0_0 : Int) (a0_1 : Int) (a0_2 : Int) (a0_3 : Int) (a0_4 : Int) (a0_5 : Int) (a1 : Int) (a2 : Int) (l3 : List (List Int)) (l4 : List Int) : Option (List Int × List Int) := (spec_rootsIn.f k a0_0 a0_1 a0_2 a0_3 a0_4 a0_5 a1 0 a2 true l3 l4).bind fun bt300 => (some (bt300.1, bt300.2))
theorem spec_RootsFromProof.mono : ∀ a0 a1 a2 a3 a4 a5 a6 a7 a8 a9 k, LeO (spec_RootsFromProof.f k a0 a1 a2 a3 a4 a5 a6 a7 a8 a9) (spec_RootsFromProof.f (k + 1) a0 a1 a2 a3 a4 a5 a6 a7 a8 a9) := by
 intro a0 a1 a2 a3 a4 a5 a6 a7 a8 a9 k
 unfold spec_RootsFromProof.f
 repeat' first
   | (with_reducible exact spec_rootsIn.mono _ _ _ _ _ _ _ _ _ _ _ _ _)
   | (with_reducible exact LeO.refl _)
   | (with_reducible exact LeO.none _)
   | (with_reducible refine LeO.ite ?_ ?_)
   | (with_reducible refine LeO.bind ?_ (fun _ => ?_))
   | exact spec_rootsIn.mono _ _ _ _ _ _ _ _ _ _ _ _ _
   | exact LeO.none _
   | refine LeO.ite ?_ ?_
   | refine LeO.bind ?_ (fun _ => ?_)
set_option maxHeartbeats 8000000 in
set_option maxRecDepth 100000 in
theorem spec_RootsFromProof.calls (k : Nat) (a0_0 : Int) (a0_1 : Int) (a0_2 : Int) (a0_3 : Int) (a0_4 : Int) (a0_5 : Int) (a1 : Int) (a2 : Int) (P3_ : Nat → Prop) (A3 : Option Addr) (c3 : Nat) (l3 : List (List Int)) (P4_ : Nat → Prop) (A4 : Option Addr) (c4 : Nat) (l4 : List Int) (r1 : List Int) (r2 : List Int) (w : World) (hs3 : Kd.V (Kd.slice 5 (Kd.int .u8)) 27 w w.heap.size (fun k_ => P3_ k_) (.slice A3 l3.length c3) l3) (hs4 : Kd.V (Kd.int .u8) 5 w w.heap.size (fun k_ => P4_ k_) (.slice A4 l4.length c4) l4) (h : spec_RootsFromProof.f k a0_0 a0_1 a0_2 a0_3 a0_4 a0_5 a1 a2 l3 l4 = some (r1, r2)) :
  Calls Tryd.prog 51 #[.agg #[.int .i64 a0_0, .int .i64 a0_1, .int .i64 a0_2, .int .u64 a0_3, .int .u64 a0_4, .int .u64 a0_5], .int .u64 a1, .int .u64 a2, .slice A3 l3.length c3, .slice A4 l4.length c4] w fun e w' => ∃ v0_ v1_ : Value, e = .returned (.tuple #[v0_, v1_]) ∧ Kd.V (Kd.int .u8) 5 w' w.heap.size (fun k_ => ((P3_ k_ ∨ P4_ k_) ∨ w.heap.size ≤ k_)) v0_ r1 ∧ Kd.V (Kd.int .u8) 5 w' w.heap.size (fun k_ => ((P3_ k_ ∨ P4_ k_) ∨ w.heap.size ≤ k_)) v1_ r2 ∧ Below w.heap.size w w' := by
 have hu24 := Tryd.underlying24
 have hu57 := Tryd.underlying57
 have HO3 := Aside0.mk (show Kd.V (Kd.slice 5 (Kd.int .u8)) 27 w w.heap.size (fun k_ => ((P3_ k_ ∨ P4_ k_) ∨ w.heap.size ≤ k_)) (.slice A3 l3.length c3) l3 from Kd.V_mono hs3 (fun k_ hk => .inl (.inl hk)))
 have HO4 := Aside0.mk (show Kd.V (Kd.int .u8) 5 w w.heap.size (fun k_ => ((P3_ k_ ∨ P4_ k_) ∨ w.heap.size ≤ k_)) (.slice A4 l4.length c4) l4 from Kd.V_mono hs4 (fun k_ hk => .inl (.inr hk)))
 have HB := Aside0.mk (Below.refl w.heap.size w)
 have H : ((spec_rootsIn.f k a0_0 a0_1 a0_2 a0_3 a0_4 a0_5 a1 0 a2 true l3 l4).bind fun bt300 => (some (bt300.1, bt300.2))) = some (r1, r2) := h
 clear h
 replace H := Option.bind_eq_some_iff.mp H
 obtain ⟨⟨t300, t303⟩, A60, H⟩ := H
 replace H : (some (t300, t303)) = some (r1, r2) := H
 have A6 := Aside0.mk A60
 clear A60
 simp only [Option.some.injEq, Prod.mk.injEq] at H
 obtain ⟨rfl, rfl⟩ := H
 go_enter Tryd.func51, Tryd.ntmps51
 go_wp2_with (first | ((with_reducible refine gate_dst (N := 5) rfl ?_); refine box_event ?hg (N := 5) ?hd (cs := #[.int .i64 a0_0, .int .i64 a0_1, .int .i64 a0_2, .int .u64 a0_3, .int .u64 a0_4, .int .u64 a0_5]) (t := 24) ?hr ?_; (case hd => rfl); (case hg => rfl); (case hr => first | (go_simp; done) | (go_simp; rfl)); intro gb299 hg w7 hbox hb; have n0_ := Aside0.mk (Kd.V_below (Kd.V_elderB (kV HO3.out) gb299 (Nat.le_of_eq hg.symm)) hb); have n1_ := Aside0.mk (Kd.V_below (Kd.V_elderB (kV HO4.out) gb299 (Nat.le_of_eq hg.symm)) hb); have n2_ := Aside0.mk (below_step bB hb); have n3_ := Aside0.mk (hbox); have n4_ := Aside0.mk ((by rw [hg]; exact (below_size bB) : w.heap.size ≤ gb299)); have n5_ := Aside0.mk ((by rw [hg]; exact (below_size bB) : w.heap.size ≤ gb299)); clear HO3; clear HO4; clear HB; have HO3 := n0_; have HO4 := n1_; have HB := n2_; have BK299 := n3_; have GW299 := n4_; have GE299 := n5_; clear n0_ n1_ n2_ n3_ n4_ n5_; clear hb hbox hg; have hcz8_0 : w7.cell? ⟨gb299, 0, none⟩ = some (.int .i64 a0_0) := (blk_cell BK299.out 0).trans rfl; have hcz8_1 : w7.cell? ⟨gb299, 1, none⟩ = some (.int .i64 a0_1) := (blk_cell BK299.out 1).trans rfl; have hcz8_2 : w7.cell? ⟨gb299, 2, none⟩ = some (.int .i64 a0_2) := (blk_cell BK299.out 2).trans rfl; have hcz8_3 : w7.cell? ⟨gb299, 3, none⟩ = some (.int .u64 a0_3) := (blk_cell BK299.out 3).trans rfl; have hcz8_4 : w7.cell? ⟨gb299, 4, none⟩ = some (.int .u64 a0_4) := (blk_cell BK299.out 4).trans rfl; have hcz8_5 : w7.cell? ⟨gb299, 5, none⟩ = some (.int .u64 a0_5) := (blk_cell BK299.out 5).trans rfl; have hfz8_0 := blk_frozen BK299.out 0; have hfz8_1 := blk_frozen BK299.out 1; have hfz8_2 := blk_frozen BK299.out 2; have hfz8_3 := blk_frozen BK299.out 3; have hfz8_4 := blk_frozen BK299.out 4; have hfz8_5 := blk_frozen BK299.out 5) | ((with_reducible refine gate_callee (f := 88) rfl ?_); refine goesL_ (some 18) rfl rfl Tryd.func88 (by kernel_rfl) rfl #[.agg #[.int .i64 a0_0, .int .i64 a0_1, .int .i64 a0_2, .int .u64 a0_3, .int .u64 a0_4, .int .u64 a0_5], .int .u64 a1, .agg #[.int .u64 0, .int .u64 a2], .bool true, .slice A3 l3.length c3, .slice A4 l4.length c4] rfl aV ?_; (with_reducible refine (spec_rootsIn.calls k a0_0 a0_1 a0_2 a0_3 a0_4 a0_5 a1 0 a2 true (fun k_ => (((P3_ k_ ∨ P4_ k_) ∨ w.heap.size ≤ k_) ∧ k_ ≠ gb299)) _ _ l3 (fun k_ => (((P3_ k_ ∨ P4_ k_) ∨ w.heap.size ≤ k_) ∧ k_ ≠ gb299)) _ _ l4 t300 t303 _ ?side1 ?side2 A6.out).mono ?_); (case side1 => first | exact HO3.out | exact Kd.V_mono HO3.out (fun k_ h_ => by simp only [and_assoc] at h_ ⊢; exact h_)); (case side2 => first | exact HO4.out | exact Kd.V_mono HO4.out (fun k_ h_ => by simp only [and_assoc] at h_ ⊢; exact h_)); rintro e w9 ⟨v301, v304, rfl, ho0, ho1, hb⟩; refine ⟨_, rfl, ?_⟩; have n0_ := Aside0.mk (Kd.V_below (kV HO3.out) hb); have n1_ := Aside0.mk (Kd.V_below (kV HO4.out) hb); have n2_ := Aside0.mk (Kd.V_lower (Kd.V_mono (ok' := fun k_ => ((P3_ k_ ∨ P4_ k_) ∨ w.heap.size ≤ k_) ∧ k_ ≠ gb299) ho0 (fun k_ hk_ => ⟨Or.elim hk_ (fun hs_ => Or.elim hs_ (fun hs_ => hs_.1) (fun hs_ => hs_.1)) (fun hn_ => (.inr (Nat.le_trans (below_size bB) hn_))), Or.elim hk_ (fun hs_ => Or.elim hs_ (fun hs_ => hs_.2) (fun hs_ => hs_.2)) (fun hn_ => (Kd.freshB (g := gb299) (o := .cells #[.int .i64 a0_0, .int .i64 a0_1, .int .i64 a0_2, .int .u64 a0_3, .int .u64 a0_4, .int .u64 a0_5] 24 (0, 0)) (kB BK299.out) k_ hn_))⟩)) (below_size bB)); have n3_ := Aside0.mk (Kd.V_lower (Kd.V_mono (ok' := fun k_ => ((P3_ k_ ∨ P4_ k_) ∨ w.heap.size ≤ k_) ∧ k_ ≠ gb299) ho1 (fun k_ hk_ => ⟨Or.elim hk_ (fun hs_ => Or.elim hs_ (fun hs_ => hs_.1) (fun hs_ => hs_.1)) (fun hn_ => (.inr (Nat.le_trans (below_size bB) hn_))), Or.elim hk_ (fun hs_ => Or.elim hs_ (fun hs_ => hs_.2) (fun hs_ => hs_.2)) (fun hn_ => (Kd.freshB (g := gb299) (o := .cells #[.int .i64 a0_0, .int .i64 a0_1, .int .i64 a0_2, .int .u64 a0_3, .int .u64 a0_4, .int .u64 a0_5] 24 (0, 0)) (kB BK299.out) k_ hn_))⟩)) (below_size bB)); have n4_ := Aside0.mk (blk_below (g := gb299) (o := .cells #[.int .i64 a0_0, .int .i64 a0_1, .int .i64 a0_2, .int .u64 a0_3, .int .u64 a0_4, .int .u64 a0_5] 24 (0, 0)) (kB BK299.out) hb); have n5_ := Aside0.mk (below_step bB hb); clear HO3; clear HO4; clear BK299; clear HB; have HO3 := n0_; have HO4 := n1_; have HO302 := n2_; have HO305 := n3_; have BK299 := n4_; have HB := n5_; clear n0_ n1_ n2_ n3_ n4_ n5_; (try clear hb); (try clear hb2); (try clear hk); (try clear hi); (try clear ho0); (try clear ho1)))
 go_ret2
 exact ⟨_, _, by first | rfl | (simp [errW_none, errW_some] <;> rfl) | (simp [*, errW_none, errW_some] <;> rfl), by (with_reducible repeat (first | apply Kd.V_alloc | apply Kd.V_drewN | apply Kd.V_drew)); exact Kd.V_mono HO302.out (fun _ hk => hk.1), by (with_reducible repeat (first | apply Kd.V_alloc | apply Kd.V_drewN | apply Kd.V_drew)); exact Kd.V_mono HO305.out (fun _ hk => hk.1), bB⟩


/-! ### spec_VerifiedConsistency: function 19 -/
mutual
def spec_VerifiedConsistency.j0 : Nat → Int → Int → List (List Int) → List Int → List Int → Bool → Int → Int → Int → Int → Int → Int → Option (Int × List Int)
 | 0, _, _, _, _, _, _, _, _, _, _, _, _ => none
 | k + 1, x1, x2, x3, x4, x5, x16, x307000, x307001, x307002, x307003, x307004, x307005 => if x16 = true then (some (2, ([] : List Int))) else (if x1 = x2 then ((spec_SameText.f x4 x5).bind fun t307 => (spec_VerifiedConsistency.j1 k x1 x2 x3 x4 x5 (!t307) x307000 x307001 x307002 x307003 x307004 x307005)) else (spec_VerifiedConsistency.j1 k x1 x2 x3 x4 x5 false x307000 x307001 x307002 x307003 x307004 x307005))
def spec_VerifiedConsistency.j1 : Nat → Int → Int → List (List Int) → List Int → List Int → Bool → Int → Int → Int → Int → Int → Int → Option (Int × List Int)
 | 0, _, _, _, _, _, _, _, _, _, _, _, _ => none
 | k + 1, x1, x2, x3, x4, x5, x34, x307000, x307001, x307002, x307003, x307004, x307005 => if x34 = true then (some (1, x4)) else (if x1 = x2 then (spec_VerifiedConsistency.j2 k x1 x2 x3 x4 x5 true x307000 x307001 x307002 x307003 x307004 x307005) else (spec_VerifiedConsistency.j2 k x1 x2 x3 x4 x5 (x1 == 0) x307000 x307001 x307002 x307003 x307004 x307005))
def spec_VerifiedConsistency.j2 : Nat → Int → Int → List (List Int) → List Int → List Int → Bool → Int → Int → Int → Int → Int → Int → Option (Int × List Int)
 | 0, _, _, _, _, _, _, _, _, _, _, _, _ => none
 | k + 1, x1, x2, x3, x4, x5, x45, x307000, x307001, x307002, x307003, x307004, x307005 => if x45 = true then (some (0, ([] : List Int))) else ((spec_ProofParts.f k x1 x2).bind fun t308 => (if (x3.length : Int) = (t308.length : Int) then ((spec_RootsFromProof.f k x307000 x307001 x307002 x307003 x307004 x307005 x1 x2 x3 x4).bind fun bt311 => ((spec_SameText.f bt311.1 x4).bind fun t317 => (if t317 = true then ((spec_SameText.f bt311.2 x5).bind fun t318 => (if t318 = true then (some (0, ([] : List Int))) else (some (1, bt311.2)))) else (some (1, bt311.1))))) else (some (2, ([] : List Int)))))
end
def spec_VerifiedConsistency.f (k : Nat) (a0_0 : Int) (a0_1 : Int) (a0_2 : Int) (a0_3 : Int) (a0_4 : Int) (a0_5 : Int) (a1 : Int) (a2 : Int) (l3 : List (List Int)) (l4 : List Int) (l5 : List Int) : Option (Int × List Int) := if a1 > a2 then (spec_VerifiedConsistency.j0 k a1 a2 l3 l4 l5 true a0_0 a0_1 a0_2 a0_3 a0_4 a0_5) else (if a1 = 0 then (spec_VerifiedConsistency.j0 k a1 a2 l3 l4 l5 (decide ((l3.length : Int) > 0)) a0_0 a0_1 a0_2 a0_3 a0_4 a0_5) else (if a1 = a2 then (spec_VerifiedConsistency.j0 k a1 a2 l3 l4 l5 (decide ((l3.length : Int) > 0)) a0_0 a0_1 a0_2 a0_3 a0_4 a0_5) else (spec_VerifiedConsistency.j0 k a1 a2 l3 l4 l5 false a0_0 a0_1 a0_2 a0_3 a0_4 a0_5)))
theorem spec_VerifiedConsistency.mono_l : ∀ k, (∀ y0 y1 y2 y3 y4 y5 y6 y7 y8 y9 y10 y11, LeO (spec_VerifiedConsistency.j0 k y0 y1 y2 y3 y4 y5 y6 y7 y8 y9 y10 y11) (spec_VerifiedConsistency.j0 (k + 1) y0 y1 y2 y3 y4 y5 y6 y7 y8 y9 y10 y11)) ∧ (∀ y0 y1 y2 y3 y4 y5 y6 y7 y8 y9 y10 y11, LeO (spec_VerifiedConsistency.j1 k y0 y1 y2 y3 y4 y5 y6 y7 y8 y9 y10 y11) (spec_VerifiedConsistency.j1 (k + 1) y0 y1 y2 y3 y4 y5 y6 y7 y8 y9 y10 y11)) ∧ (∀ y0 y1 y2 y3 y4 y5 y6 y7 y8 y9 y10 y11, LeO (spec_VerifiedConsistency.j2 k y0 y1 y2 y3 y4 y5 y6 y7 y8 y9 y10 y11) (spec_VerifiedConsistency.j2 (k + 1) y0 y1 y2 y3 y4 y5 y6 y7 y8 y9 y10 y11))
 | 0 => ⟨fun _ _ _ _ _ _ _ _ _ _ _ _ r h => by simp [spec_VerifiedConsistency.j0] at h, fun _ _ _ _ _ _ _ _ _ _ _ _ r h => by simp [spec_VerifiedConsistency.j1] at h, fun _ _ _ _ _ _ _ _ _ _ _ _ r h => by simp [spec_VerifiedConsistency.j2] at h⟩
 | k + 1 => by
  obtain ⟨ih0, ih1, ih2⟩ := spec_VerifiedConsistency.mono_l k
  refine ⟨?_, ?_, ?_⟩
  ·intro y0 y1 y2 y3 y4 y5 y6 y7 y8 y9 y10 y11
   unfold spec_VerifiedConsistency.j0
   repeat' first
   | (with_reducible exact ih0 _ _ _ _ _ _ _ _ _ _ _ _)
   | (with_reducible exact ih1 _ _ _ _ _ _ _ _ _ _ _ _)
   | (with_reducible exact ih2 _ _ _ _ _ _ _ _ _ _ _ _)
   | (with_reducible exact spec_ProofParts.mono _ _ _)
   | (with_reducible exact spec_RootsFromProof.mono _ _ _ _ _ _ _ _ _ _ _)
   | (with_reducible exact LeO.refl _)
   | (with_reducible exact LeO.none _)
   | (with_reducible refine LeO.ite ?_ ?_)
   | (with_reducible refine LeO.bind ?_ (fun _ => ?_))
   | exact ih0 _ _ _ _ _ _ _ _ _ _ _ _
   | exact ih1 _ _ _ _ _ _ _ _ _ _ _ _
   | exact ih2 _ _ _ _ _ _ _ _ _ _ _ _
   | exact spec_ProofParts.mono _ _ _
   | exact spec_RootsFromProof.mono _ _ _ _ _ _ _ _ _ _ _
   | exact LeO.none _
   | refine LeO.ite ?_ ?_
   | refine LeO.bind ?_ (fun _ => ?_)
  ·intro y0 y1 y2 y3 y4 y5 y6 y7 y8 y9 y10 y11
   unfold spec_VerifiedConsistency.j1
   repeat' first
   | (with_reducible exact ih0 _ _ _ _ _ _ _ _ _ _ _ _)
   | (with_reducible exact ih1 _ _ _ _ _ _ _ _ _ _ _ _)
   | (with_reducible exact ih2 _ _ _ _ _ _ _ _ _ _ _ _)
   | (with_reducible exact spec_ProofParts.mono _ _ _)
   | (with_reducible exact spec_RootsFromProof.mono _ _ _ _ _ _ _ _ _ _ _)
   | (with_reducible exact LeO.refl _)
   | (with_reducible exact LeO.none _)
   | (with_reducible refine LeO.ite ?_ ?_)
   | (with_reducible refine LeO.bind ?_ (fun _ => ?_))
   | exact ih0 _ _ _ _ _ _ _ _ _ _ _ _
   | exact ih1 _ _ _ _ _ _ _ _ _ _ _ _
   | exact ih2 _ _ _ _ _ _ _ _ _ _ _ _
   | exact spec_ProofParts.mono _ _ _
   | exact spec_RootsFromProof.mono _ _ _ _ _ _ _ _ _ _ _
   | exact LeO.none _
   | refine LeO.ite ?_ ?_
   | refine LeO.bind ?_ (fun _ => ?_)
  ·intro y0 y1 y2 y3 y4 y5 y6 y7 y8 y9 y10 y11
   unfold spec_VerifiedConsistency.j2
   repeat' first
   | (with_reducible exact ih0 _ _ _ _ _ _ _ _ _ _ _ _)
   | (with_reducible exact ih1 _ _ _ _ _ _ _ _ _ _ _ _)
   | (with_reducible exact ih2 _ _ _ _ _ _ _ _ _ _ _ _)
   | (with_reducible exact spec_ProofParts.mono _ _ _)
   | (with_reducible exact spec_RootsFromProof.mono _ _ _ _ _ _ _ _ _ _ _)
   | (with_reducible exact LeO.refl _)
   | (with_reducible exact LeO.none _)
   | (with_reducible refine LeO.ite ?_ ?_)
   | (with_reducible refine LeO.bind ?_ (fun _ => ?_))
   | exact ih0 _ _ _ _ _ _ _ _ _ _ _ _
   | exact ih1 _ _ _ _ _ _ _ _ _ _ _ _
   | exact ih2 _ _ _ _ _ _ _ _ _ _ _ _
   | exact spec_ProofParts.mono _ _ _
   | exact spec_RootsFromProof.mono _ _ _ _ _ _ _ _ _ _ _
   | exact LeO.none _
   | refine LeO.ite ?_ ?_
   | refine LeO.bind ?_ (fun _ => ?_)
theorem spec_VerifiedConsistency.mono : ∀ a0 a1 a2 a3 a4 a5 a6 a7 a8 a9 a10 k, LeO (spec_VerifiedConsistency.f k a0 a1 a2 a3 a4 a5 a6 a7 a8 a9 a10) (spec_VerifiedConsistency.f (k + 1) a0 a1 a2 a3 a4 a5 a6 a7 a8 a9 a10) := by
 intro a0 a1 a2 a3 a4 a5 a6 a7 a8 a9 a10 k
 obtain ⟨ih0, ih1, ih2⟩ := spec_VerifiedConsistency.mono_l k
 unfold spec_VerifiedConsistency.f
 repeat' first
   | (with_reducible exact ih0 _ _ _ _ _ _ _ _ _ _ _ _)
   | (with_reducible exact ih1 _ _ _ _ _ _ _ _ _ _ _ _)
   | (with_reducible exact ih2 _ _ _ _ _ _ _ _ _ _ _ _)
   | (with_reducible exact spec_ProofParts.mono _ _ _)
   | (with_reducible exact spec_RootsFromProof.mono _ _ _ _ _ _ _ _ _ _ _)
   | (with_reducible exact LeO.refl _)
   | (with_reducible exact LeO.none _)
   | (with_reducible refine LeO.ite ?_ ?_)
   | (with_reducible refine LeO.bind ?_ (fun _ => ?_))
   | exact ih0 _ _ _ _ _ _ _ _ _ _ _ _
   | exact ih1 _ _ _ _ _ _ _ _ _ _ _ _
   | exact ih2 _ _ _ _ _ _ _ _ _ _ _ _
   | exact spec_ProofParts.mono _ _ _
   | exact spec_RootsFromProof.mono _ _ _ _ _ _ _ _ _ _ _
   | exact LeO.none _
   | refine LeO.ite ?_ ?_
   | refine LeO.bind ?_ (fun _ => ?_)
set_option maxHeartbeats 8000000 in
set_option maxRecDepth 100000 in
theorem spec_VerifiedConsistency.calls (k : Nat) (a0_0 : Int) (a0_1 : Int) (a0_2 : Int) (a0_3 : Int) (a0_4 : Int) (a0_5 : Int) (a1 : Int) (a2 : Int) (P3_ : Nat → Prop) (A3 : Option Addr) (c3 : Nat) (l3 : List (List Int)) (P4_ : Nat → Prop) (A4 : Option Addr) (c4 : Nat) (l4 : List Int) (A5 : Option Addr) (c5 : Nat) (l5 : List Int) (r1 : Int) (r2 : List Int) (w : World) (hs3 : Kd.V (Kd.slice 5 (Kd.int .u8)) 27 w w.heap.size (fun k_ => P3_ k_) (.slice A3 l3.length c3) l3) (hs4 : Kd.V (Kd.int .u8) 5 w w.heap.size (fun k_ => P4_ k_) (.slice A4 l4.length c4) l4) (hr5 : Kd.C (Kd.int .u8) w A5 l5.length l5) (hc5 : l5.length ≤ c5) (h : spec_VerifiedConsistency.f k a0_0 a0_1 a0_2 a0_3 a0_4 a0_5 a1 a2 l3 l4 l5 = some (r1, r2)) :
  Calls Tryd.prog 19 #[.agg #[.int .i64 a0_0, .int .i64 a0_1, .int .i64 a0_2, .int .u64 a0_3, .int .u64 a0_4, .int .u64 a0_5], .int .u64 a1, .int .u64 a2, .slice A3 l3.length c3, .slice A4 l4.length c4, .slice A5 l5.length c5] w fun e w' => ∃ v1_ : Value, e = .returned (.tuple #[.int .i64 r1, v1_]) ∧ Kd.V (Kd.int .u8) 5 w' w.heap.size (fun k_ => ((P3_ k_ ∨ P4_ k_) ∨ w.heap.size ≤ k_)) v1_ r2 ∧ Below w.heap.size w w' := by
 have hu24 := Tryd.underlying24
 have HO3 := Aside0.mk (show Kd.V (Kd.slice 5 (Kd.int .u8)) 27 w w.heap.size (fun k_ => ((P3_ k_ ∨ P4_ k_) ∨ w.heap.size ≤ k_)) (.slice A3 l3.length c3) l3 from Kd.V_mono hs3 (fun k_ hk => .inl (.inl hk)))
 have HO4 := Aside0.mk (show Kd.V (Kd.int .u8) 5 w w.heap.size (fun k_ => ((P3_ k_ ∨ P4_ k_) ∨ w.heap.size ≤ k_)) (.slice A4 l4.length c4) l4 from Kd.V_mono hs4 (fun k_ hk => .inl (.inr hk)))
 have HR5 := Aside0.mk hr5
 have HC5 := Aside0.mk hc5
 clear hr5 hc5
 have HB := Aside0.mk (Below.refl w.heap.size w)
 have H : (if a1 > a2 then (spec_VerifiedConsistency.j0 k a1 a2 l3 l4 l5 true a0_0 a0_1 a0_2 a0_3 a0_4 a0_5) else (if a1 = 0 then (spec_VerifiedConsistency.j0 k a1 a2 l3 l4 l5 (decide ((l3.length : Int) > 0)) a0_0 a0_1 a0_2 a0_3 a0_4 a0_5) else (if a1 = a2 then (spec_VerifiedConsistency.j0 k a1 a2 l3 l4 l5 (decide ((l3.length : Int) > 0)) a0_0 a0_1 a0_2 a0_3 a0_4 a0_5) else (spec_VerifiedConsistency.j0 k a1 a2 l3 l4 l5 false a0_0 a0_1 a0_2 a0_3 a0_4 a0_5)))) = some (r1, r2) := h
 clear h
 have HC7 := Aside0.mk H
 clear H
 go_enter Tryd.func19, Tryd.ntmps19
 go_upto_region 1 with (first | ((with_reducible refine gate_dst (N := 6) rfl ?_); (try (refine gate_guard (by rfl) ?_; dsimp only)); refine box_event ?hg (N := 6) ?hd (cs := #[.int .i64 a0_0, .int .i64 a0_1, .int .i64 a0_2, .int .u64 a0_3, .int .u64 a0_4, .int .u64 a0_5]) (t := 24) ?hr ?_; (case hd => rfl); (case hg => rfl); (case hr => first | (go_simp; done) | (go_simp; rfl)); intro gb306 hg w8 hbox hb; have n0_ := Aside0.mk (Kd.V_below (Kd.V_elderB (kV HO3.out) gb306 (Nat.le_of_eq hg.symm)) hb); have n1_ := Aside0.mk (Kd.V_below (Kd.V_elderB (kV HO4.out) gb306 (Nat.le_of_eq hg.symm)) hb); have n2_ := Aside0.mk (below_step bB hb); have n3_ := Aside0.mk (hbox); have n4_ := Aside0.mk ((by rw [hg]; exact (below_size bB) : w.heap.size ≤ gb306)); have n5_ := Aside0.mk ((by rw [hg]; exact (below_size bB) : w.heap.size ≤ gb306)); clear HO3; clear HO4; clear HB; have HO3 := n0_; have HO4 := n1_; have HB := n2_; have BK306 := n3_; have GW306 := n4_; have GE306 := n5_; clear n0_ n1_ n2_ n3_ n4_ n5_; clear hb hbox hg))
 (try simp only [Act.put, List.setIfInBounds_toArray, List.set_cons_zero, List.set_cons_succ])
 go_cut [16] (fun v16 wc => ∃ (kq : Nat) (x16_6 : Bool), v16 = .bool x16_6 ∧ Aside0 (spec_VerifiedConsistency.j0 kq a1 a2 l3 l4 l5 x16_6 a0_0 a0_1 a0_2 a0_3 a0_4 a0_5 = some (r1, r2)) ∧ Aside0 (kq ≤ k) ∧ Aside0 (Kd.V (Kd.slice 5 (Kd.int .u8)) 27 wc w.heap.size (fun k_ => ((P3_ k_ ∨ P4_ k_) ∨ w.heap.size ≤ k_) ∧ k_ ≠ gb306) (.slice A3 l3.length c3) l3) ∧ Aside0 (Kd.V (Kd.int .u8) 5 wc w.heap.size (fun k_ => ((P3_ k_ ∨ P4_ k_) ∨ w.heap.size ≤ k_) ∧ k_ ≠ gb306) (.slice A4 l4.length c4) l4) ∧ Aside0 (wc.heap[gb306]? = some (.cells #[.int .i64 a0_0, .int .i64 a0_1, .int .i64 a0_2, .int .u64 a0_3, .int .u64 a0_4, .int .u64 a0_5] 24 (0, 0))) ∧ Aside0 (Below w.heap.size w wc))
 case first =>
  have H := HC7.out
  clear HC7
  by_cases c9 : a1 > a2
  ·rw [if_pos c9] at H
   have c9b0 : decide (a2 < a1) = true := decide_eq_true c9
   clear c9
   (first | rw [c9b0] | (simp only [i64_w, i32_w]; rw [c9b0]) | skip)
   have H' := Aside0.mk H
   clear H
   go_wp2
   go_meet
   case rel => exact ⟨_, (true), (by first | rfl | (simp; done) | (simp [*]; done)), H', ⟨by first | omega | exact Nat.le_refl _⟩, ⟨kV HO3.out⟩, ⟨kV HO4.out⟩, ⟨by (with_reducible repeat (first | refine blk_drewN ?_ _ | refine blk_drew ?_ | refine blk_alloc ?_ _)); exact BK306.out⟩, ⟨bB⟩⟩
  ·rw [if_neg c9] at H
   have c9b0 : decide (a2 < a1) = false := decide_eq_false c9
   clear c9
   (first | rw [c9b0] | (simp only [i64_w, i32_w]; rw [c9b0]) | skip)
   by_cases c10 : a1 = 0
   ·rw [if_pos c10] at H
    have c10b0 : (a1 == 0) = true := beq_iff_eq.mpr c10
    have c10b1 : (a1 != 0) = false := bne_eq_false_iff_eq.mpr c10
    clear c10
    have H' := Aside0.mk H
    clear H
    go_wp2
    go_meet
    case rel => exact ⟨_, (decide ((l3.length : Int) > 0)), (by first | rfl | (simp; done) | (simp [*]; done)), H', ⟨by first | omega | exact Nat.le_refl _⟩, ⟨kV HO3.out⟩, ⟨kV HO4.out⟩, ⟨by (with_reducible repeat (first | refine blk_drewN ?_ _ | refine blk_drew ?_ | refine blk_alloc ?_ _)); exact BK306.out⟩, ⟨bB⟩⟩
   ·rw [if_neg c10] at H
    have c10b0 : (a1 == 0) = false := beq_eq_false_iff_ne.mpr c10
    have c10b1 : (a1 != 0) = true := bne_iff_ne.mpr c10
    by_cases c11 : a1 = a2
    ·rw [if_pos c11] at H
     have c11b0 : (a1 == a2) = true := beq_iff_eq.mpr c11
     have c11b1 : (a1 != a2) = false := bne_eq_false_iff_eq.mpr c11
     clear c11
     have H' := Aside0.mk H
     clear H
     go_wp2
     go_meet
     case rel => exact ⟨_, (decide ((l3.length : Int) > 0)), (by first | rfl | (simp; done) | (simp [*]; done)), H', ⟨by first | omega | exact Nat.le_refl _⟩, ⟨kV HO3.out⟩, ⟨kV HO4.out⟩, ⟨by (with_reducible repeat (first | refine blk_drewN ?_ _ | refine blk_drew ?_ | refine blk_alloc ?_ _)); exact BK306.out⟩, ⟨bB⟩⟩
    ·rw [if_neg c11] at H
     have c11b0 : (a1 == a2) = false := beq_eq_false_iff_ne.mpr c11
     have c11b1 : (a1 != a2) = true := bne_iff_ne.mpr c11
     have H' := Aside0.mk H
     clear H
     go_wp2
     go_meet
     case rel => exact ⟨_, (false), (by first | rfl | (simp; done) | (simp [*]; done)), H', ⟨by first | omega | exact Nat.le_refl _⟩, ⟨kV HO3.out⟩, ⟨kV HO4.out⟩, ⟨by (with_reducible repeat (first | refine blk_drewN ?_ _ | refine blk_drew ?_ | refine blk_alloc ?_ _)); exact BK306.out⟩, ⟨bB⟩⟩
 case rest =>
  clear HC7
  try clear c1
  try clear p2
  try clear c3
  try clear c4
  try clear c5
  try clear c9
  try clear c9b0
  try clear c10
  try clear c10b0
  try clear c10b1
  try clear c11
  try clear c11b0
  try clear c11b1
  obtain ⟨kq, x16_6, rfl, HA, HJ6, HO_3, HO_4, BK306, HB⟩ := hcut
  cases kq with
  | zero => exact absurd HA.out (by simp [spec_VerifiedConsistency.j0])
  | succ kj6 =>
   have H := HA.out
   clear HA
   simp only [spec_VerifiedConsistency.j0] at H
   by_cases c12 : x16_6 = true
   ·subst c12
    have H1 : (some (2, ([] : List Int))) = some (r1, r2) := by rw [if_pos rfl] at H; exact H
    clear H
    have H := H1
    clear H1
    simp only [Option.some.injEq, Prod.mk.injEq] at H
    obtain ⟨rfl, rfl⟩ := H
    go_wp2
    go_ret2
    exact ⟨(.slice none 0 0), by first | rfl | (simp [errW_none, errW_some] <;> rfl) | (simp [*, errW_none, errW_some] <;> rfl), by first | exact Kd.V_nil _ _ _ _ _ | exact Kd.R_nil _ _ _ _ _ | exact Kd.S_nil _ _ _ _ _ | exact Kd.N_nil _ _ _ _ _ | exact Kd.Q_nil _ _ _ _ _, bB⟩
   ·replace c12 := Bool.eq_false_iff.mpr c12
    subst c12
    have H1 : (if a1 = a2 then ((spec_SameText.f l4 l5).bind fun t307 => (spec_VerifiedConsistency.j1 kj6 a1 a2 l3 l4 l5 (!t307) a0_0 a0_1 a0_2 a0_3 a0_4 a0_5)) else (spec_VerifiedConsistency.j1 kj6 a1 a2 l3 l4 l5 false a0_0 a0_1 a0_2 a0_3 a0_4 a0_5)) = some (r1, r2) := by rw [if_neg (show ¬ (false = true) by decide)] at H; exact H
    clear H
    have H := H1
    clear H1
    have HC13 := Aside0.mk H
    clear H
    go_upto_region 3 with (fail)
    go_cut [34] (fun v34 wc => ∃ (kq : Nat) (x34_12 : Bool), v34 = .bool x34_12 ∧ Aside0 (spec_VerifiedConsistency.j1 kq a1 a2 l3 l4 l5 x34_12 a0_0 a0_1 a0_2 a0_3 a0_4 a0_5 = some (r1, r2)) ∧ Aside0 (kq ≤ kj6) ∧ Aside0 (Kd.V (Kd.slice 5 (Kd.int .u8)) 27 wc w.heap.size (fun k_ => ((P3_ k_ ∨ P4_ k_) ∨ w.heap.size ≤ k_) ∧ k_ ≠ gb306) (.slice A3 l3.length c3) l3) ∧ Aside0 (Kd.V (Kd.int .u8) 5 wc w.heap.size (fun k_ => ((P3_ k_ ∨ P4_ k_) ∨ w.heap.size ≤ k_) ∧ k_ ≠ gb306) (.slice A4 l4.length c4) l4) ∧ Aside0 (wc.heap[gb306]? = some (.cells #[.int .i64 a0_0, .int .i64 a0_1, .int .i64 a0_2, .int .u64 a0_3, .int .u64 a0_4, .int .u64 a0_5] 24 (0, 0))) ∧ Aside0 (Below w.heap.size w wc))
    case first =>
     have H := HC13.out
     clear HC13
     by_cases c14 : a1 = a2
     ·rw [if_pos c14] at H
      have c14b0 : (a1 == a2) = true := beq_iff_eq.mpr c14
      have c14b1 : (a1 != a2) = false := bne_eq_false_iff_eq.mpr c14
      clear c14
      (first | rw [c14b0] | (simp only [i64_w, i32_w]; rw [c14b0]) | skip)
      replace H := Option.bind_eq_some_iff.mp H
      obtain ⟨t307, A150, H⟩ := H
      replace H : (spec_VerifiedConsistency.j1 kj6 a1 a2 l3 l4 l5 (!t307) a0_0 a0_1 a0_2 a0_3 a0_4 a0_5) = some (r1, r2) := H
      have A15 := Aside0.mk A150
      clear A150
      have H' := Aside0.mk H
      clear H
      go_wp2_with (first | (go_at_call 15; (with_reducible refine (spec_SameText.calls _ _ l4 _ _ l5 t307 _ ?side1 ?side2 ?side3 ?side4 A15.out).mono ?_); (case side1 => repeat (first | exact (Kd.V_reads' HO_4.out).2.2 | (with_reducible refine Kd.C_alloc ?_ _) | (with_reducible refine Kd.C_drewN ?_ _) | (with_reducible refine Kd.C_drew ?_))); (case side2 => exact (Kd.V_reads' HO_4.out).2.1); (case side3 => repeat (first | exact (Kd.C_below HR5.out HB.out) | (with_reducible refine Kd.C_alloc ?_ _) | (with_reducible refine Kd.C_drewN ?_ _) | (with_reducible refine Kd.C_drew ?_))); (case side4 => exact HC5.out); rintro e w' ⟨rfl, ⟨nd, rfl⟩⟩))
      go_meet
      case rel => exact ⟨_, (!t307), (by first | rfl | (simp; done) | (simp [*]; done)), H', ⟨by have := HJ6.out; first | omega | exact Nat.le_refl _⟩, ⟨kV HO_3.out⟩, ⟨kV HO_4.out⟩, ⟨by (with_reducible repeat (first | refine blk_drewN ?_ _ | refine blk_drew ?_ | refine blk_alloc ?_ _)); exact BK306.out⟩, ⟨bB⟩⟩
     ·rw [if_neg c14] at H
      have c14b0 : (a1 == a2) = false := beq_eq_false_iff_ne.mpr c14
      have c14b1 : (a1 != a2) = true := bne_iff_ne.mpr c14
      (first | rw [c14b0] | (simp only [i64_w, i32_w]; rw [c14b0]) | skip)
      have H' := Aside0.mk H
      clear H
      go_wp2
      go_meet
      case rel => exact ⟨_, (false), (by first | rfl | (simp; done) | (simp [*]; done)), H', ⟨by have := HJ6.out; first | omega | exact Nat.le_refl _⟩, ⟨kV HO_3.out⟩, ⟨kV HO_4.out⟩, ⟨by (with_reducible repeat (first | refine blk_drewN ?_ _ | refine blk_drew ?_ | refine blk_alloc ?_ _)); exact BK306.out⟩, ⟨bB⟩⟩
    case rest =>
     clear HC13
     try clear c1
     try clear p2
     try clear c3
     try clear c4
     try clear c5
     try clear c9
     try clear c9b0
     try clear c10
     try clear c10b0
     try clear c10b1
     try clear c11
     try clear c11b0
     try clear c11b1
     try clear c12
     try clear c14
     try clear c14b0
     try clear c14b1
     try clear p2
     obtain ⟨kq, x34_12, rfl, HA, HJ12, HO_3, HO_4, BK306, HB⟩ := hcut
     cases kq with
     | zero => exact absurd HA.out (by simp [spec_VerifiedConsistency.j1])
     | succ kj12 =>
      have H := HA.out
      clear HA
      simp only [spec_VerifiedConsistency.j1] at H
      by_cases c16 : x34_12 = true
      ·subst c16
       have H1 : (some (1, l4)) = some (r1, r2) := by rw [if_pos rfl] at H; exact H
       clear H
       have H := H1
       clear H1
       simp only [Option.some.injEq, Prod.mk.injEq] at H
       obtain ⟨rfl, rfl⟩ := H
       go_wp2
       go_ret2
       exact ⟨_, by first | rfl | (simp [errW_none, errW_some] <;> rfl) | (simp [*, errW_none, errW_some] <;> rfl), by (with_reducible repeat (first | apply Kd.V_alloc | apply Kd.V_drewN | apply Kd.V_drew)); exact Kd.V_mono HO_4.out (fun _ hk => hk.1), bB⟩
      ·replace c16 := Bool.eq_false_iff.mpr c16
       subst c16
       have H1 : (if a1 = a2 then (spec_VerifiedConsistency.j2 kj12 a1 a2 l3 l4 l5 true a0_0 a0_1 a0_2 a0_3 a0_4 a0_5) else (spec_VerifiedConsistency.j2 kj12 a1 a2 l3 l4 l5 (a1 == 0) a0_0 a0_1 a0_2 a0_3 a0_4 a0_5)) = some (r1, r2) := by rw [if_neg (show ¬ (false = true) by decide)] at H; exact H
       clear H
       have H := H1
       clear H1
       have HC17 := Aside0.mk H
       clear H
       go_upto_region 5 with (fail)
       go_cut [45] (fun v45 wc => ∃ (kq : Nat) (x45_16 : Bool), v45 = .bool x45_16 ∧ Aside0 (spec_VerifiedConsistency.j2 kq a1 a2 l3 l4 l5 x45_16 a0_0 a0_1 a0_2 a0_3 a0_4 a0_5 = some (r1, r2)) ∧ Aside0 (kq ≤ kj12) ∧ Aside0 (Kd.V (Kd.slice 5 (Kd.int .u8)) 27 wc w.heap.size (fun k_ => ((P3_ k_ ∨ P4_ k_) ∨ w.heap.size ≤ k_) ∧ k_ ≠ gb306) (.slice A3 l3.length c3) l3) ∧ Aside0 (Kd.V (Kd.int .u8) 5 wc w.heap.size (fun k_ => ((P3_ k_ ∨ P4_ k_) ∨ w.heap.size ≤ k_) ∧ k_ ≠ gb306) (.slice A4 l4.length c4) l4) ∧ Aside0 (wc.heap[gb306]? = some (.cells #[.int .i64 a0_0, .int .i64 a0_1, .int .i64 a0_2, .int .u64 a0_3, .int .u64 a0_4, .int .u64 a0_5] 24 (0, 0))) ∧ Aside0 (Below w.heap.size w wc))
       case first =>
        have H := HC17.out
        clear HC17
        by_cases c18 : a1 = a2
        ·rw [if_pos c18] at H
         have c18b0 : (a1 == a2) = true := beq_iff_eq.mpr c18
         have c18b1 : (a1 != a2) = false := bne_eq_false_iff_eq.mpr c18
         clear c18
         (first | rw [c18b0] | (simp only [i64_w, i32_w]; rw [c18b0]) | skip)
         have H' := Aside0.mk H
         clear H
         go_wp2
         go_meet
         case rel => exact ⟨_, (true), (by first | rfl | (simp; done) | (simp [*]; done)), H', ⟨by have := HJ6.out; have := HJ12.out; first | omega | exact Nat.le_refl _⟩, ⟨kV HO_3.out⟩, ⟨kV HO_4.out⟩, ⟨by (with_reducible repeat (first | refine blk_drewN ?_ _ | refine blk_drew ?_ | refine blk_alloc ?_ _)); exact BK306.out⟩, ⟨bB⟩⟩
        ·rw [if_neg c18] at H
         have c18b0 : (a1 == a2) = false := beq_eq_false_iff_ne.mpr c18
         have c18b1 : (a1 != a2) = true := bne_iff_ne.mpr c18
         (first | rw [c18b0] | (simp only [i64_w, i32_w]; rw [c18b0]) | skip)
         have H' := Aside0.mk H
         clear H
         go_wp2
         go_meet
         case rel => exact ⟨_, ((a1 == 0)), (by first | rfl | (simp; done) | (simp [*]; done)), H', ⟨by have := HJ6.out; have := HJ12.out; first | omega | exact Nat.le_refl _⟩, ⟨kV HO_3.out⟩, ⟨kV HO_4.out⟩, ⟨by (with_reducible repeat (first | refine blk_drewN ?_ _ | refine blk_drew ?_ | refine blk_alloc ?_ _)); exact BK306.out⟩, ⟨bB⟩⟩
       case rest =>
        clear HC17
        try clear c1
        try clear p2
        try clear c3
        try clear c4
        try clear c5
        try clear c9
        try clear c9b0
        try clear c10
        try clear c10b0
        try clear c10b1
        try clear c11
        try clear c11b0
        try clear c11b1
        try clear c12
        try clear c14
        try clear c14b0
        try clear c14b1
        try clear c16
        try clear c18
        try clear c18b0
        try clear c18b1
        try clear p2
        obtain ⟨kq, x45_16, rfl, HA, HJ16, HO_3, HO_4, BK306, HB⟩ := hcut
        cases kq with
        | zero => exact absurd HA.out (by simp [spec_VerifiedConsistency.j2])
        | succ kj16 =>
         have H := HA.out
         clear HA
         simp only [spec_VerifiedConsistency.j2] at H
         by_cases c19 : x45_16 = true
         ·subst c19
          have H1 : (some (0, ([] : List Int))) = some (r1, r2) := by rw [if_pos rfl] at H; exact H
          clear H
          have H := H1
          clear H1
          simp only [Option.some.injEq, Prod.mk.injEq] at H
          obtain ⟨rfl, rfl⟩ := H
          go_wp2
          go_ret2
          exact ⟨(.slice none 0 0), by first | rfl | (simp [errW_none, errW_some] <;> rfl) | (simp [*, errW_none, errW_some] <;> rfl), by first | exact Kd.V_nil _ _ _ _ _ | exact Kd.R_nil _ _ _ _ _ | exact Kd.S_nil _ _ _ _ _ | exact Kd.N_nil _ _ _ _ _ | exact Kd.Q_nil _ _ _ _ _, bB⟩
         ·replace c19 := Bool.eq_false_iff.mpr c19
          subst c19
          have H1 : ((spec_ProofParts.f kj16 a1 a2).bind fun t308 => (if (l3.length : Int) = (t308.length : Int) then ((spec_RootsFromProof.f kj16 a0_0 a0_1 a0_2 a0_3 a0_4 a0_5 a1 a2 l3 l4).bind fun bt311 => ((spec_SameText.f bt311.1 l4).bind fun t317 => (if t317 = true then ((spec_SameText.f bt311.2 l5).bind fun t318 => (if t318 = true then (some (0, ([] : List Int))) else (some (1, bt311.2)))) else (some (1, bt311.1))))) else (some (2, ([] : List Int))))) = some (r1, r2) := by rw [if_neg (show ¬ (false = true) by decide)] at H; exact H
          clear H
          have H := H1
          clear H1
          replace H := Option.bind_eq_some_iff.mp H
          obtain ⟨t308, A200, H⟩ := H
          replace H : (if (l3.length : Int) = (t308.length : Int) then ((spec_RootsFromProof.f kj16 a0_0 a0_1 a0_2 a0_3 a0_4 a0_5 a1 a2 l3 l4).bind fun bt311 => ((spec_SameText.f bt311.1 l4).bind fun t317 => (if t317 = true then ((spec_SameText.f bt311.2 l5).bind fun t318 => (if t318 = true then (some (0, ([] : List Int))) else (some (1, bt311.2)))) else (some (1, bt311.1))))) else (some (2, ([] : List Int)))) = some (r1, r2) := H
          have A20 := Aside0.mk A200
          clear A200
          by_cases c21 : (l3.length : Int) = (t308.length : Int)
          ·rw [if_pos c21] at H
           have c21b0 : ((l3.length : Int) == (t308.length : Int)) = true := beq_iff_eq.mpr c21
           have c21b1 : ((l3.length : Int) != (t308.length : Int)) = false := bne_eq_false_iff_eq.mpr c21
           have c21b2 : (l3.length == t308.length) = true := by first | simpa using c21 | (simp at c21 ⊢; omega)
           clear c21
           replace H := Option.bind_eq_some_iff.mp H
           obtain ⟨⟨t311, t314⟩, A220, H⟩ := H
           replace H : ((spec_SameText.f t311 l4).bind fun t317 => (if t317 = true then ((spec_SameText.f t314 l5).bind fun t318 => (if t318 = true then (some (0, ([] : List Int))) else (some (1, t314)))) else (some (1, t311)))) = some (r1, r2) := H
           have A22 := Aside0.mk A220
           clear A220
           replace H := Option.bind_eq_some_iff.mp H
           obtain ⟨t317, A230, H⟩ := H
           replace H : (if t317 = true then ((spec_SameText.f t314 l5).bind fun t318 => (if t318 = true then (some (0, ([] : List Int))) else (some (1, t314)))) else (some (1, t311))) = some (r1, r2) := H
           have A23 := Aside0.mk A230
           clear A230
           by_cases c24 : t317 = true
           ·subst c24
            have H1 : ((spec_SameText.f t314 l5).bind fun t318 => (if t318 = true then (some (0, ([] : List Int))) else (some (1, t314)))) = some (r1, r2) := by rw [if_pos rfl] at H; exact H
            clear H
            have H := H1
            clear H1
            replace H := Option.bind_eq_some_iff.mp H
            obtain ⟨t318, A250, H⟩ := H
            replace H : (if t318 = true then (some (0, ([] : List Int))) else (some (1, t314))) = some (r1, r2) := H
            have A25 := Aside0.mk A250
            clear A250
            by_cases c26 : t318 = true
            ·subst c26
             have H1 : (some (0, ([] : List Int))) = some (r1, r2) := by rw [if_pos rfl] at H; exact H
             clear H
             have H := H1
             clear H1
             simp only [Option.some.injEq, Prod.mk.injEq] at H
             obtain ⟨rfl, rfl⟩ := H
             go_wp2_with (first | ((with_reducible refine gate_callee (f := 50) rfl ?_); refine goesL_ (some 58) rfl rfl Tryd.func50 (by kernel_rfl) rfl #[.int .u64 a1, .int .u64 a2] rfl aV ?_; (with_reducible refine (spec_ProofParts.calls kj16 a1 a2 t308 _ A20.out).mono ?_); rintro e w27 ⟨v309, rfl, ho0, hb⟩; refine ⟨_, rfl, ?_⟩; have n0_ := Aside0.mk (Kd.V_elder' (kV HO_3.out) (Kd.R_base ho0) hb); have n1_ := Aside0.mk (Kd.V_elder' (kV HO_4.out) (Kd.R_base ho0) hb); have n2_ := Aside0.mk (Kd.R_lower (Kd.R_newM (M := fun k_ => (w.heap.size ≤ k_)) ho0 (below_size bB) (fun k_ h_ => h_)) (below_size bB)); have n3_ := Aside0.mk (blk_below (g := gb306) (o := .cells #[.int .i64 a0_0, .int .i64 a0_1, .int .i64 a0_2, .int .u64 a0_3, .int .u64 a0_4, .int .u64 a0_5] 24 (0, 0)) (kB BK306.out) hb); have n4_ := Aside0.mk (below_step bB hb); clear HO_3; clear HO_4; clear BK306; clear HB; have HO_3 := n0_; have HO_4 := n1_; have HO310 := n2_; have BK306 := n3_; have HB := n4_; clear n0_ n1_ n2_ n3_ n4_; (try clear hb); (try clear hb2); (try clear hk); (try clear hi); (try clear ho0); obtain ⟨Ao28, co28, eo28⟩ := Kd.R_slice HO310.out; subst eo28; have hcz29_0 : w27.cell? ⟨gb306, 0, none⟩ = some (.int .i64 a0_0) := (blk_cell BK306.out 0).trans rfl; have hcz29_1 : w27.cell? ⟨gb306, 1, none⟩ = some (.int .i64 a0_1) := (blk_cell BK306.out 1).trans rfl; have hcz29_2 : w27.cell? ⟨gb306, 2, none⟩ = some (.int .i64 a0_2) := (blk_cell BK306.out 2).trans rfl; have hcz29_3 : w27.cell? ⟨gb306, 3, none⟩ = some (.int .u64 a0_3) := (blk_cell BK306.out 3).trans rfl; have hcz29_4 : w27.cell? ⟨gb306, 4, none⟩ = some (.int .u64 a0_4) := (blk_cell BK306.out 4).trans rfl; have hcz29_5 : w27.cell? ⟨gb306, 5, none⟩ = some (.int .u64 a0_5) := (blk_cell BK306.out 5).trans rfl; have hfz29_0 := blk_frozen BK306.out 0; have hfz29_1 := blk_frozen BK306.out 1; have hfz29_2 := blk_frozen BK306.out 2; have hfz29_3 := blk_frozen BK306.out 3; have hfz29_4 := blk_frozen BK306.out 4; have hfz29_5 := blk_frozen BK306.out 5) | ((with_reducible refine gate_callee (f := 51) rfl ?_); refine goesL_ (some 67) rfl rfl Tryd.func51 (by kernel_rfl) rfl #[.agg #[.int .i64 a0_0, .int .i64 a0_1, .int .i64 a0_2, .int .u64 a0_3, .int .u64 a0_4, .int .u64 a0_5], .int .u64 a1, .int .u64 a2, .slice A3 l3.length c3, .slice A4 l4.length c4] rfl aV ?_; (with_reducible refine (spec_RootsFromProof.calls kj16 a0_0 a0_1 a0_2 a0_3 a0_4 a0_5 a1 a2 (fun k_ => ((((P3_ k_ ∨ P4_ k_) ∨ w.heap.size ≤ k_) ∧ k_ ≠ gb306) ∧ some k_ ≠ (.slice Ao28 t308.length co28 : Value).ownBlock)) _ _ l3 (fun k_ => ((((P3_ k_ ∨ P4_ k_) ∨ w.heap.size ≤ k_) ∧ k_ ≠ gb306) ∧ some k_ ≠ (.slice Ao28 t308.length co28 : Value).ownBlock)) _ _ l4 t311 t314 _ ?side1 ?side2 A22.out).mono ?_); (case side1 => first | exact HO_3.out | exact Kd.V_mono HO_3.out (fun k_ h_ => by simp only [and_assoc] at h_ ⊢; exact h_)); (case side2 => first | exact HO_4.out | exact Kd.V_mono HO_4.out (fun k_ h_ => by simp only [and_assoc] at h_ ⊢; exact h_)); rintro e w30 ⟨v312, v315, rfl, ho0, ho1, hb⟩; refine ⟨_, rfl, ?_⟩; have n0_ := Aside0.mk (Kd.V_below (kV HO_3.out) hb); have n1_ := Aside0.mk (Kd.V_below (kV HO_4.out) hb); have n2_ := Aside0.mk (Kd.R_below (kR HO310.out) hb); have n3_ := Aside0.mk (Kd.V_lower (Kd.V_mono (ok' := fun k_ => ((P3_ k_ ∨ P4_ k_) ∨ w.heap.size ≤ k_) ∧ some k_ ≠ (.slice Ao28 t308.length co28 : Value).ownBlock ∧ k_ ≠ gb306) ho0 (fun k_ hk_ => ⟨Or.elim hk_ (fun hs_ => Or.elim hs_ (fun hs_ => hs_.1.1) (fun hs_ => hs_.1.1)) (fun hn_ => (.inr (Nat.le_trans (below_size bB) hn_))), Or.elim hk_ (fun hs_ => Or.elim hs_ (fun hs_ => hs_.2) (fun hs_ => hs_.2)) (fun hn_ => (Kd.fresh' (Kd.R_lt (kR HO310.out)) k_ hn_)), Or.elim hk_ (fun hs_ => Or.elim hs_ (fun hs_ => hs_.1.2) (fun hs_ => hs_.1.2)) (fun hn_ => (Kd.freshB (g := gb306) (o := .cells #[.int .i64 a0_0, .int .i64 a0_1, .int .i64 a0_2, .int .u64 a0_3, .int .u64 a0_4, .int .u64 a0_5] 24 (0, 0)) (kB BK306.out) k_ hn_))⟩)) (below_size bB)); have n4_ := Aside0.mk (Kd.V_lower (Kd.V_mono (ok' := fun k_ => ((P3_ k_ ∨ P4_ k_) ∨ w.heap.size ≤ k_) ∧ some k_ ≠ (.slice Ao28 t308.length co28 : Value).ownBlock ∧ k_ ≠ gb306) ho1 (fun k_ hk_ => ⟨Or.elim hk_ (fun hs_ => Or.elim hs_ (fun hs_ => hs_.1.1) (fun hs_ => hs_.1.1)) (fun hn_ => (.inr (Nat.le_trans (below_size bB) hn_))), Or.elim hk_ (fun hs_ => Or.elim hs_ (fun hs_ => hs_.2) (fun hs_ => hs_.2)) (fun hn_ => (Kd.fresh' (Kd.R_lt (kR HO310.out)) k_ hn_)), Or.elim hk_ (fun hs_ => Or.elim hs_ (fun hs_ => hs_.1.2) (fun hs_ => hs_.1.2)) (fun hn_ => (Kd.freshB (g := gb306) (o := .cells #[.int .i64 a0_0, .int .i64 a0_1, .int .i64 a0_2, .int .u64 a0_3, .int .u64 a0_4, .int .u64 a0_5] 24 (0, 0)) (kB BK306.out) k_ hn_))⟩)) (below_size bB)); have n5_ := Aside0.mk (blk_below (g := gb306) (o := .cells #[.int .i64 a0_0, .int .i64 a0_1, .int .i64 a0_2, .int .u64 a0_3, .int .u64 a0_4, .int .u64 a0_5] 24 (0, 0)) (kB BK306.out) hb); have n6_ := Aside0.mk (below_step bB hb); clear HO_3; clear HO_4; clear HO310; clear BK306; clear HB; have HO_3 := n0_; have HO_4 := n1_; have HO310 := n2_; have HO313 := n3_; have HO316 := n4_; have BK306 := n5_; have HB := n6_; clear n0_ n1_ n2_ n3_ n4_ n5_ n6_; (try clear hb); (try clear hb2); (try clear hk); (try clear hi); (try clear ho0); (try clear ho1); obtain ⟨Ao31, co31, eo31⟩ := Kd.V_slice HO313.out; subst eo31) | ((with_reducible refine gate_callee (f := 15) rfl ?_); refine goesL_ (some 72) rfl rfl Tryd.func15 (by kernel_rfl) rfl #[.slice Ao31 t311.length co31, .slice A4 l4.length c4] rfl aV ?_; (with_reducible refine (spec_SameText.calls _ _ t311 _ _ l4 true _ ?side1 ?side2 ?side3 ?side4 A23.out).mono ?_); (case side1 => repeat (first | exact (Kd.V_reads' HO313.out).2.2 | (with_reducible refine Kd.C_alloc ?_ _) | (with_reducible refine Kd.C_drewN ?_ _) | (with_reducible refine Kd.C_drew ?_))); (case side2 => exact (Kd.V_reads' HO313.out).2.1); (case side3 => repeat (first | exact (Kd.V_reads' HO_4.out).2.2 | (with_reducible refine Kd.C_alloc ?_ _) | (with_reducible refine Kd.C_drewN ?_ _) | (with_reducible refine Kd.C_drew ?_))); (case side4 => exact (Kd.V_reads' HO_4.out).2.1); rintro e w' ⟨rfl, ⟨nd, rfl⟩⟩; refine ⟨_, rfl, ?_⟩; obtain ⟨Ao32, co32, eo32⟩ := Kd.V_slice HO316.out; subst eo32) | ((with_reducible refine gate_callee (f := 15) rfl ?_); refine goesL_ (some 77) rfl rfl Tryd.func15 (by kernel_rfl) rfl #[.slice Ao32 t314.length co32, .slice A5 l5.length c5] rfl aV ?_; (with_reducible refine (spec_SameText.calls _ _ t314 _ _ l5 true _ ?side1 ?side2 ?side3 ?side4 A25.out).mono ?_); (case side1 => repeat (first | exact (Kd.V_reads' HO316.out).2.2 | (with_reducible refine Kd.C_alloc ?_ _) | (with_reducible refine Kd.C_drewN ?_ _) | (with_reducible refine Kd.C_drew ?_))); (case side2 => exact (Kd.V_reads' HO316.out).2.1); (case side3 => repeat (first | exact (Kd.C_below HR5.out bB) | (with_reducible refine Kd.C_alloc ?_ _) | (with_reducible refine Kd.C_drewN ?_ _) | (with_reducible refine Kd.C_drew ?_))); (case side4 => exact HC5.out); rintro e w' ⟨rfl, ⟨nd, rfl⟩⟩; refine ⟨_, rfl, ?_⟩))
             go_ret2
             exact ⟨(.slice none 0 0), by first | rfl | (simp [errW_none, errW_some] <;> rfl) | (simp [*, errW_none, errW_some] <;> rfl), by first | exact Kd.V_nil _ _ _ _ _ | exact Kd.R_nil _ _ _ _ _ | exact Kd.S_nil _ _ _ _ _ | exact Kd.N_nil _ _ _ _ _ | exact Kd.Q_nil _ _ _ _ _, bB⟩
            ·replace c26 := Bool.eq_false_iff.mpr c26
             subst c26
             have H1 : (some (1, t314)) = some (r1, r2) := by rw [if_neg (show ¬ (false = true) by decide)] at H; exact H
             clear H
             have H := H1
             clear H1
             simp only [Option.some.injEq, Prod.mk.injEq] at H
             obtain ⟨rfl, rfl⟩ := H
             go_wp2_with (first | ((with_reducible refine gate_callee (f := 50) rfl ?_); refine goesL_ (some 58) rfl rfl Tryd.func50 (by kernel_rfl) rfl #[.int .u64 a1, .int .u64 a2] rfl aV ?_; (with_reducible refine (spec_ProofParts.calls kj16 a1 a2 t308 _ A20.out).mono ?_); rintro e w33 ⟨v309, rfl, ho0, hb⟩; refine ⟨_, rfl, ?_⟩; have n0_ := Aside0.mk (Kd.V_elder' (kV HO_3.out) (Kd.R_base ho0) hb); have n1_ := Aside0.mk (Kd.V_elder' (kV HO_4.out) (Kd.R_base ho0) hb); have n2_ := Aside0.mk (Kd.R_lower (Kd.R_newM (M := fun k_ => (w.heap.size ≤ k_)) ho0 (below_size bB) (fun k_ h_ => h_)) (below_size bB)); have n3_ := Aside0.mk (blk_below (g := gb306) (o := .cells #[.int .i64 a0_0, .int .i64 a0_1, .int .i64 a0_2, .int .u64 a0_3, .int .u64 a0_4, .int .u64 a0_5] 24 (0, 0)) (kB BK306.out) hb); have n4_ := Aside0.mk (below_step bB hb); clear HO_3; clear HO_4; clear BK306; clear HB; have HO_3 := n0_; have HO_4 := n1_; have HO310 := n2_; have BK306 := n3_; have HB := n4_; clear n0_ n1_ n2_ n3_ n4_; (try clear hb); (try clear hb2); (try clear hk); (try clear hi); (try clear ho0); obtain ⟨Ao34, co34, eo34⟩ := Kd.R_slice HO310.out; subst eo34; have hcz35_0 : w33.cell? ⟨gb306, 0, none⟩ = some (.int .i64 a0_0) := (blk_cell BK306.out 0).trans rfl; have hcz35_1 : w33.cell? ⟨gb306, 1, none⟩ = some (.int .i64 a0_1) := (blk_cell BK306.out 1).trans rfl; have hcz35_2 : w33.cell? ⟨gb306, 2, none⟩ = some (.int .i64 a0_2) := (blk_cell BK306.out 2).trans rfl; have hcz35_3 : w33.cell? ⟨gb306, 3, none⟩ = some (.int .u64 a0_3) := (blk_cell BK306.out 3).trans rfl; have hcz35_4 : w33.cell? ⟨gb306, 4, none⟩ = some (.int .u64 a0_4) := (blk_cell BK306.out 4).trans rfl; have hcz35_5 : w33.cell? ⟨gb306, 5, none⟩ = some (.int .u64 a0_5) := (blk_cell BK306.out 5).trans rfl; have hfz35_0 := blk_frozen BK306.out 0; have hfz35_1 := blk_frozen BK306.out 1; have hfz35_2 := blk_frozen BK306.out 2; have hfz35_3 := blk_frozen BK306.out 3; have hfz35_4 := blk_frozen BK306.out 4; have hfz35_5 := blk_frozen BK306.out 5) | ((with_reducible refine gate_callee (f := 51) rfl ?_); refine goesL_ (some 67) rfl rfl Tryd.func51 (by kernel_rfl) rfl #[.agg #[.int .i64 a0_0, .int .i64 a0_1, .int .i64 a0_2, .int .u64 a0_3, .int .u64 a0_4, .int .u64 a0_5], .int .u64 a1, .int .u64 a2, .slice A3 l3.length c3, .slice A4 l4.length c4] rfl aV ?_; (with_reducible refine (spec_RootsFromProof.calls kj16 a0_0 a0_1 a0_2 a0_3 a0_4 a0_5 a1 a2 (fun k_ => ((((P3_ k_ ∨ P4_ k_) ∨ w.heap.size ≤ k_) ∧ k_ ≠ gb306) ∧ some k_ ≠ (.slice Ao34 t308.length co34 : Value).ownBlock)) _ _ l3 (fun k_ => ((((P3_ k_ ∨ P4_ k_) ∨ w.heap.size ≤ k_) ∧ k_ ≠ gb306) ∧ some k_ ≠ (.slice Ao34 t308.length co34 : Value).ownBlock)) _ _ l4 t311 t314 _ ?side1 ?side2 A22.out).mono ?_); (case side1 => first | exact HO_3.out | exact Kd.V_mono HO_3.out (fun k_ h_ => by simp only [and_assoc] at h_ ⊢; exact h_)); (case side2 => first | exact HO_4.out | exact Kd.V_mono HO_4.out (fun k_ h_ => by simp only [and_assoc] at h_ ⊢; exact h_)); rintro e w36 ⟨v312, v315, rfl, ho0, ho1, hb⟩; refine ⟨_, rfl, ?_⟩; have n0_ := Aside0.mk (Kd.V_below (kV HO_3.out) hb); have n1_ := Aside0.mk (Kd.V_below (kV HO_4.out) hb); have n2_ := Aside0.mk (Kd.R_below (kR HO310.out) hb); have n3_ := Aside0.mk (Kd.V_lower (Kd.V_mono (ok' := fun k_ => ((P3_ k_ ∨ P4_ k_) ∨ w.heap.size ≤ k_) ∧ some k_ ≠ (.slice Ao34 t308.length co34 : Value).ownBlock ∧ k_ ≠ gb306) ho0 (fun k_ hk_ => ⟨Or.elim hk_ (fun hs_ => Or.elim hs_ (fun hs_ => hs_.1.1) (fun hs_ => hs_.1.1)) (fun hn_ => (.inr (Nat.le_trans (below_size bB) hn_))), Or.elim hk_ (fun hs_ => Or.elim hs_ (fun hs_ => hs_.2) (fun hs_ => hs_.2)) (fun hn_ => (Kd.fresh' (Kd.R_lt (kR HO310.out)) k_ hn_)), Or.elim hk_ (fun hs_ => Or.elim hs_ (fun hs_ => hs_.1.2) (fun hs_ => hs_.1.2)) (fun hn_ => (Kd.freshB (g := gb306) (o := .cells #[.int .i64 a0_0, .int .i64 a0_1, .int .i64 a0_2, .int .u64 a0_3, .int .u64 a0_4, .int .u64 a0_5] 24 (0, 0)) (kB BK306.out) k_ hn_))⟩)) (below_size bB)); have n4_ := Aside0.mk (Kd.V_lower (Kd.V_mono (ok' := fun k_ => ((P3_ k_ ∨ P4_ k_) ∨ w.heap.size ≤ k_) ∧ some k_ ≠ (.slice Ao34 t308.length co34 : Value).ownBlock ∧ k_ ≠ gb306) ho1 (fun k_ hk_ => ⟨Or.elim hk_ (fun hs_ => Or.elim hs_ (fun hs_ => hs_.1.1) (fun hs_ => hs_.1.1)) (fun hn_ => (.inr (Nat.le_trans (below_size bB) hn_))), Or.elim hk_ (fun hs_ => Or.elim hs_ (fun hs_ => hs_.2) (fun hs_ => hs_.2)) (fun hn_ => (Kd.fresh' (Kd.R_lt (kR HO310.out)) k_ hn_)), Or.elim hk_ (fun hs_ => Or.elim hs_ (fun hs_ => hs_.1.2) (fun hs_ => hs_.1.2)) (fun hn_ => (Kd.freshB (g := gb306) (o := .cells #[.int .i64 a0_0, .int .i64 a0_1, .int .i64 a0_2, .int .u64 a0_3, .int .u64 a0_4, .int .u64 a0_5] 24 (0, 0)) (kB BK306.out) k_ hn_))⟩)) (below_size bB)); have n5_ := Aside0.mk (blk_below (g := gb306) (o := .cells #[.int .i64 a0_0, .int .i64 a0_1, .int .i64 a0_2, .int .u64 a0_3, .int .u64 a0_4, .int .u64 a0_5] 24 (0, 0)) (kB BK306.out) hb); have n6_ := Aside0.mk (below_step bB hb); clear HO_3; clear HO_4; clear HO310; clear BK306; clear HB; have HO_3 := n0_; have HO_4 := n1_; have HO310 := n2_; have HO313 := n3_; have HO316 := n4_; have BK306 := n5_; have HB := n6_; clear n0_ n1_ n2_ n3_ n4_ n5_ n6_; (try clear hb); (try clear hb2); (try clear hk); (try clear hi); (try clear ho0); (try clear ho1); obtain ⟨Ao37, co37, eo37⟩ := Kd.V_slice HO313.out; subst eo37) | ((with_reducible refine gate_callee (f := 15) rfl ?_); refine goesL_ (some 72) rfl rfl Tryd.func15 (by kernel_rfl) rfl #[.slice Ao37 t311.length co37, .slice A4 l4.length c4] rfl aV ?_; (with_reducible refine (spec_SameText.calls _ _ t311 _ _ l4 true _ ?side1 ?side2 ?side3 ?side4 A23.out).mono ?_); (case side1 => repeat (first | exact (Kd.V_reads' HO313.out).2.2 | (with_reducible refine Kd.C_alloc ?_ _) | (with_reducible refine Kd.C_drewN ?_ _) | (with_reducible refine Kd.C_drew ?_))); (case side2 => exact (Kd.V_reads' HO313.out).2.1); (case side3 => repeat (first | exact (Kd.V_reads' HO_4.out).2.2 | (with_reducible refine Kd.C_alloc ?_ _) | (with_reducible refine Kd.C_drewN ?_ _) | (with_reducible refine Kd.C_drew ?_))); (case side4 => exact (Kd.V_reads' HO_4.out).2.1); rintro e w' ⟨rfl, ⟨nd, rfl⟩⟩; refine ⟨_, rfl, ?_⟩; obtain ⟨Ao38, co38, eo38⟩ := Kd.V_slice HO316.out; subst eo38) | ((with_reducible refine gate_callee (f := 15) rfl ?_); refine goesL_ (some 77) rfl rfl Tryd.func15 (by kernel_rfl) rfl #[.slice Ao38 t314.length co38, .slice A5 l5.length c5] rfl aV ?_; (with_reducible refine (spec_SameText.calls _ _ t314 _ _ l5 false _ ?side1 ?side2 ?side3 ?side4 A25.out).mono ?_); (case side1 => repeat (first | exact (Kd.V_reads' HO316.out).2.2 | (with_reducible refine Kd.C_alloc ?_ _) | (with_reducible refine Kd.C_drewN ?_ _) | (with_reducible refine Kd.C_drew ?_))); (case side2 => exact (Kd.V_reads' HO316.out).2.1); (case side3 => repeat (first | exact (Kd.C_below HR5.out bB) | (with_reducible refine Kd.C_alloc ?_ _) | (with_reducible refine Kd.C_drewN ?_ _) | (with_reducible refine Kd.C_drew ?_))); (case side4 => exact HC5.out); rintro e w' ⟨rfl, ⟨nd, rfl⟩⟩; refine ⟨_, rfl, ?_⟩))
             go_ret2
             exact ⟨_, by first | rfl | (simp [errW_none, errW_some] <;> rfl) | (simp [*, errW_none, errW_some] <;> rfl), by (with_reducible repeat (first | apply Kd.V_alloc | apply Kd.V_drewN | apply Kd.V_drew)); exact Kd.V_mono HO316.out (fun _ hk => hk.1), bB⟩
           ·replace c24 := Bool.eq_false_iff.mpr c24
            subst c24
            have H1 : (some (1, t311)) = some (r1, r2) := by rw [if_neg (show ¬ (false = true) by decide)] at H; exact H
            clear H
            have H := H1
            clear H1
            simp only [Option.some.injEq, Prod.mk.injEq] at H
            obtain ⟨rfl, rfl⟩ := H
            go_wp2_with (first | ((with_reducible refine gate_callee (f := 50) rfl ?_); refine goesL_ (some 58) rfl rfl Tryd.func50 (by kernel_rfl) rfl #[.int .u64 a1, .int .u64 a2] rfl aV ?_; (with_reducible refine (spec_ProofParts.calls kj16 a1 a2 t308 _ A20.out).mono ?_); rintro e w39 ⟨v309, rfl, ho0, hb⟩; refine ⟨_, rfl, ?_⟩; have n0_ := Aside0.mk (Kd.V_elder' (kV HO_3.out) (Kd.R_base ho0) hb); have n1_ := Aside0.mk (Kd.V_elder' (kV HO_4.out) (Kd.R_base ho0) hb); have n2_ := Aside0.mk (Kd.R_lower (Kd.R_newM (M := fun k_ => (w.heap.size ≤ k_)) ho0 (below_size bB) (fun k_ h_ => h_)) (below_size bB)); have n3_ := Aside0.mk (blk_below (g := gb306) (o := .cells #[.int .i64 a0_0, .int .i64 a0_1, .int .i64 a0_2, .int .u64 a0_3, .int .u64 a0_4, .int .u64 a0_5] 24 (0, 0)) (kB BK306.out) hb); have n4_ := Aside0.mk (below_step bB hb); clear HO_3; clear HO_4; clear BK306; clear HB; have HO_3 := n0_; have HO_4 := n1_; have HO310 := n2_; have BK306 := n3_; have HB := n4_; clear n0_ n1_ n2_ n3_ n4_; (try clear hb); (try clear hb2); (try clear hk); (try clear hi); (try clear ho0); obtain ⟨Ao40, co40, eo40⟩ := Kd.R_slice HO310.out; subst eo40; have hcz41_0 : w39.cell? ⟨gb306, 0, none⟩ = some (.int .i64 a0_0) := (blk_cell BK306.out 0).trans rfl; have hcz41_1 : w39.cell? ⟨gb306, 1, none⟩ = some (.int .i64 a0_1) := (blk_cell BK306.out 1).trans rfl; have hcz41_2 : w39.cell? ⟨gb306, 2, none⟩ = some (.int .i64 a0_2) := (blk_cell BK306.out 2).trans rfl; have hcz41_3 : w39.cell? ⟨gb306, 3, none⟩ = some (.int .u64 a0_3) := (blk_cell BK306.out 3).trans rfl; have hcz41_4 : w39.cell? ⟨gb306, 4, none⟩ = some (.int .u64 a0_4) := (blk_cell BK306.out 4).trans rfl; have hcz41_5 : w39.cell? ⟨gb306, 5, none⟩ = some (.int .u64 a0_5) := (blk_cell BK306.out 5).trans rfl; have hfz41_0 := blk_frozen BK306.out 0; have hfz41_1 := blk_frozen BK306.out 1; have hfz41_2 := blk_frozen BK306.out 2; have hfz41_3 := blk_frozen BK306.out 3; have hfz41_4 := blk_frozen BK306.out 4; have hfz41_5 := blk_frozen BK306.out 5) | ((with_reducible refine gate_callee (f := 51) rfl ?_); refine goesL_ (some 67) rfl rfl Tryd.func51 (by kernel_rfl) rfl #[.agg #[.int .i64 a0_0, .int .i64 a0_1, .int .i64 a0_2, .int .u64 a0_3, .int .u64 a0_4, .int .u64 a0_5], .int .u64 a1, .int .u64 a2, .slice A3 l3.length c3, .slice A4 l4.length c4] rfl aV ?_; (with_reducible refine (spec_RootsFromProof.calls kj16 a0_0 a0_1 a0_2 a0_3 a0_4 a0_5 a1 a2 (fun k_ => ((((P3_ k_ ∨ P4_ k_) ∨ w.heap.size ≤ k_) ∧ k_ ≠ gb306) ∧ some k_ ≠ (.slice Ao40 t308.length co40 : Value).ownBlock)) _ _ l3 (fun k_ => ((((P3_ k_ ∨ P4_ k_) ∨ w.heap.size ≤ k_) ∧ k_ ≠ gb306) ∧ some k_ ≠ (.slice Ao40 t308.length co40 : Value).ownBlock)) _ _ l4 t311 t314 _ ?side1 ?side2 A22.out).mono ?_); (case side1 => first | exact HO_3.out | exact Kd.V_mono HO_3.out (fun k_ h_ => by simp only [and_assoc] at h_ ⊢; exact h_)); (case side2 => first | exact HO_4.out | exact Kd.V_mono HO_4.out (fun k_ h_ => by simp only [and_assoc] at h_ ⊢; exact h_)); rintro e w42 ⟨v312, v315, rfl, ho0, ho1, hb⟩; refine ⟨_, rfl, ?_⟩; have n0_ := Aside0.mk (Kd.V_below (kV HO_3.out) hb); have n1_ := Aside0.mk (Kd.V_below (kV HO_4.out) hb); have n2_ := Aside0.mk (Kd.R_below (kR HO310.out) hb); have n3_ := Aside0.mk (Kd.V_lower (Kd.V_mono (ok' := fun k_ => ((P3_ k_ ∨ P4_ k_) ∨ w.heap.size ≤ k_) ∧ some k_ ≠ (.slice Ao40 t308.length co40 : Value).ownBlock ∧ k_ ≠ gb306) ho0 (fun k_ hk_ => ⟨Or.elim hk_ (fun hs_ => Or.elim hs_ (fun hs_ => hs_.1.1) (fun hs_ => hs_.1.1)) (fun hn_ => (.inr (Nat.le_trans (below_size bB) hn_))), Or.elim hk_ (fun hs_ => Or.elim hs_ (fun hs_ => hs_.2) (fun hs_ => hs_.2)) (fun hn_ => (Kd.fresh' (Kd.R_lt (kR HO310.out)) k_ hn_)), Or.elim hk_ (fun hs_ => Or.elim hs_ (fun hs_ => hs_.1.2) (fun hs_ => hs_.1.2)) (fun hn_ => (Kd.freshB (g := gb306) (o := .cells #[.int .i64 a0_0, .int .i64 a0_1, .int .i64 a0_2, .int .u64 a0_3, .int .u64 a0_4, .int .u64 a0_5] 24 (0, 0)) (kB BK306.out) k_ hn_))⟩)) (below_size bB)); have n4_ := Aside0.mk (Kd.V_lower (Kd.V_mono (ok' := fun k_ => ((P3_ k_ ∨ P4_ k_) ∨ w.heap.size ≤ k_) ∧ some k_ ≠ (.slice Ao40 t308.length co40 : Value).ownBlock ∧ k_ ≠ gb306) ho1 (fun k_ hk_ => ⟨Or.elim hk_ (fun hs_ => Or.elim hs_ (fun hs_ => hs_.1.1) (fun hs_ => hs_.1.1)) (fun hn_ => (.inr (Nat.le_trans (below_size bB) hn_))), Or.elim hk_ (fun hs_ => Or.elim hs_ (fun hs_ => hs_.2) (fun hs_ => hs_.2)) (fun hn_ => (Kd.fresh' (Kd.R_lt (kR HO310.out)) k_ hn_)), Or.elim hk_ (fun hs_ => Or.elim hs_ (fun hs_ => hs_.1.2) (fun hs_ => hs_.1.2)) (fun hn_ => (Kd.freshB (g := gb306) (o := .cells #[.int .i64 a0_0, .int .i64 a0_1, .int .i64 a0_2, .int .u64 a0_3, .int .u64 a0_4, .int .u64 a0_5] 24 (0, 0)) (kB BK306.out) k_ hn_))⟩)) (below_size bB)); have n5_ := Aside0.mk (blk_below (g := gb306) (o := .cells #[.int .i64 a0_0, .int .i64 a0_1, .int .i64 a0_2, .int .u64 a0_3, .int .u64 a0_4, .int .u64 a0_5] 24 (0, 0)) (kB BK306.out) hb); have n6_ := Aside0.mk (below_step bB hb); clear HO_3; clear HO_4; clear HO310; clear BK306; clear HB; have HO_3 := n0_; have HO_4 := n1_; have HO310 := n2_; have HO313 := n3_; have HO316 := n4_; have BK306 := n5_; have HB := n6_; clear n0_ n1_ n2_ n3_ n4_ n5_ n6_; (try clear hb); (try clear hb2); (try clear hk); (try clear hi); (try clear ho0); (try clear ho1); obtain ⟨Ao43, co43, eo43⟩ := Kd.V_slice HO313.out; subst eo43) | ((with_reducible refine gate_callee (f := 15) rfl ?_); refine goesL_ (some 72) rfl rfl Tryd.func15 (by kernel_rfl) rfl #[.slice Ao43 t311.length co43, .slice A4 l4.length c4] rfl aV ?_; (with_reducible refine (spec_SameText.calls _ _ t311 _ _ l4 false _ ?side1 ?side2 ?side3 ?side4 A23.out).mono ?_); (case side1 => repeat (first | exact (Kd.V_reads' HO313.out).2.2 | (with_reducible refine Kd.C_alloc ?_ _) | (with_reducible refine Kd.C_drewN ?_ _) | (with_reducible refine Kd.C_drew ?_))); (case side2 => exact (Kd.V_reads' HO313.out).2.1); (case side3 => repeat (first | exact (Kd.V_reads' HO_4.out).2.2 | (with_reducible refine Kd.C_alloc ?_ _) | (with_reducible refine Kd.C_drewN ?_ _) | (with_reducible refine Kd.C_drew ?_))); (case side4 => exact (Kd.V_reads' HO_4.out).2.1); rintro e w' ⟨rfl, ⟨nd, rfl⟩⟩; refine ⟨_, rfl, ?_⟩))
            go_ret2
            exact ⟨_, by first | rfl | (simp [errW_none, errW_some] <;> rfl) | (simp [*, errW_none, errW_some] <;> rfl), by (with_reducible repeat (first | apply Kd.V_alloc | apply Kd.V_drewN | apply Kd.V_drew)); exact Kd.V_mono HO313.out (fun _ hk => hk.1), bB⟩
          ·rw [if_neg c21] at H
           have c21b0 : ((l3.length : Int) == (t308.length : Int)) = false := beq_eq_false_iff_ne.mpr c21
           have c21b1 : ((l3.length : Int) != (t308.length : Int)) = true := bne_iff_ne.mpr c21
           have c21b2 : (l3.length == t308.length) = false := by first | simpa using c21 | (simp at c21 ⊢; omega)
           simp only [Option.some.injEq, Prod.mk.injEq] at H
           obtain ⟨rfl, rfl⟩ := H
           go_wp2_with (first | ((with_reducible refine gate_callee (f := 50) rfl ?_); refine goesL_ (some 58) rfl rfl Tryd.func50 (by kernel_rfl) rfl #[.int .u64 a1, .int .u64 a2] rfl aV ?_; (with_reducible refine (spec_ProofParts.calls kj16 a1 a2 t308 _ A20.out).mono ?_); rintro e w44 ⟨v309, rfl, ho0, hb⟩; refine ⟨_, rfl, ?_⟩; have n0_ := Aside0.mk (Kd.V_elder' (kV HO_3.out) (Kd.R_base ho0) hb); have n1_ := Aside0.mk (Kd.V_elder' (kV HO_4.out) (Kd.R_base ho0) hb); have n2_ := Aside0.mk (Kd.R_lower (Kd.R_newM (M := fun k_ => (w.heap.size ≤ k_)) ho0 (below_size bB) (fun k_ h_ => h_)) (below_size bB)); have n3_ := Aside0.mk (blk_below (g := gb306) (o := .cells #[.int .i64 a0_0, .int .i64 a0_1, .int .i64 a0_2, .int .u64 a0_3, .int .u64 a0_4, .int .u64 a0_5] 24 (0, 0)) (kB BK306.out) hb); have n4_ := Aside0.mk (below_step bB hb); clear HO_3; clear HO_4; clear BK306; clear HB; have HO_3 := n0_; have HO_4 := n1_; have HO310 := n2_; have BK306 := n3_; have HB := n4_; clear n0_ n1_ n2_ n3_ n4_; (try clear hb); (try clear hb2); (try clear hk); (try clear hi); (try clear ho0); obtain ⟨Ao45, co45, eo45⟩ := Kd.R_slice HO310.out; subst eo45))
           go_ret2
           exact ⟨(.slice none 0 0), by first | rfl | (simp [errW_none, errW_some] <;> rfl) | (simp [*, errW_none, errW_some] <;> rfl), by first | exact Kd.V_nil _ _ _ _ _ | exact Kd.R_nil _ _ _ _ _ | exact Kd.S_nil _ _ _ _ _ | exact Kd.N_nil _ _ _ _ _ | exact Kd.Q_nil _ _ _ _ _, bB⟩

end Go.Proofs.YtkmdkmlgahfcpaaDoor.M

