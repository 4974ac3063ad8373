-- Written by a program of ours (wip/xp) out of the translation; Lean checks it.
import Derived.Test.YtkmdkmlgahfcpaaDoorSq
import Derived.Test.YtkmdkmlgahfcpaaDoorMm1
import Derived.Test.YtkmdkmlgahfcpaaDoorMm6
import Derived.Test.YtkmdkmlgahfcpaaDoorMm8
namespace Go.Proofs.YtkmdkmlgahfcpaaDoor.M
open Go.RowKit Go.Proofs.YtkmdkmlgahfcpaaDoorW.PrintWords Go.Proofs.YtkmdkmlgahfcpaaDoorW.PrintLast Go.Proofs.YtkmdkmlgahfcpaaDoorW.PrintMore
attribute [local go_sem] max2_int min2_int max_two min_two max_three min_three max_four min_four   -- for this text's walks alone
set_option linter.unusedVariables false
set_option linter.unusedSimpArgs false

/-! ### proof_Inclusion: function 106 -/
def proof_Inclusion.f (k : Nat) (a0 : Int) (a1 : Int) : Option ((List (S106)) × Int × Int × Int × Int × Option Int) := if a0 ≥ a1 then ((errors_New.f (⟨#[105, 110, 100, 101, 120, 32, 111, 117, 116, 32, 111, 102, 32, 98, 111, 117, 110, 100, 115, 32, 102, 111, 114, 32, 116, 114, 101, 101, 32, 115, 105, 122, 101]⟩ : ByteArray)).bind fun t310 => (some (([] : List (S106)), 0, 0, 0, 0, t310))) else ((proof_nodes.f k a0 0 a1).bind fun bt311 => ((proof_Nodes_skipFirst.f bt311.1 bt311.2.1 bt311.2.2.1 bt311.2.2.2.1 bt311.2.2.2.2).bind fun bt318 => (some (bt318.1, bt318.2.1, bt318.2.2.1, bt318.2.2.2.1, bt318.2.2.2.2, none))))
theorem proof_Inclusion.mono : ∀ a0 a1 k, LeO (proof_Inclusion.f k a0 a1) (proof_Inclusion.f (k + 1) a0 a1) := by
 intro a0 a1 k
 unfold proof_Inclusion.f
 repeat' first
   | (with_reducible exact proof_nodes.mono _ _ _ _)
   | (with_reducible exact LeO.refl _)
   | (with_reducible exact LeO.none _)
   | (with_reducible refine LeO.ite ?_ ?_)
   | (with_reducible refine LeO.bind ?_ (fun _ => ?_))
   | exact proof_nodes.mono _ _ _ _
   | exact LeO.none _
   | refine LeO.ite ?_ ?_
   | refine LeO.bind ?_ (fun _ => ?_)
set_option maxHeartbeats 8000000 in
set_option maxRecDepth 100000 in
theorem proof_Inclusion.calls (k : Nat) (a0 : Int) (a1 : Int) (r1 : List (S106)) (r2 : Int) (r3 : Int) (r4 : Int) (r5 : Int) (r6 : Option Int) (w : World) (hT : TabOK w) (h : proof_Inclusion.f k a0 a1 = some (r1, r2, r3, r4, r5, r6)) :
  Calls Tryd.prog 106 #[.int .u64 a0, .int .u64 a1] w fun e w' => ∃ (T_ : Int → TypeId) (X_ : Int → Value), ∃ v0_ : Value, e = .returned (.tuple #[.agg #[v0_, .int .i64 r2, .int .i64 r3, .int .u64 r4, .int .u64 r5], errW T_ X_ r6]) ∧ Kd.V k106 106 w' w.heap.size (fun k_ => (w.heap.size ≤ k_)) v0_ r1 ∧ Below w.heap.size w w' := by
 have hu122 := Tryd.underlying122
 have HT := Aside0.mk hT
 clear hT
 have HB := Aside0.mk (Below.refl w.heap.size w)
 have H : (if a0 ≥ a1 then ((errors_New.f (⟨#[105, 110, 100, 101, 120, 32, 111, 117, 116, 32, 111, 102, 32, 98, 111, 117, 110, 100, 115, 32, 102, 111, 114, 32, 116, 114, 101, 101, 32, 115, 105, 122, 101]⟩ : ByteArray)).bind fun t310 => (some (([] : List (S106)), 0, 0, 0, 0, t310))) else ((proof_nodes.f k a0 0 a1).bind fun bt311 => ((proof_Nodes_skipFirst.f bt311.1 bt311.2.1 bt311.2.2.1 bt311.2.2.2.1 bt311.2.2.2.2).bind fun bt318 => (some (bt318.1, bt318.2.1, bt318.2.2.1, bt318.2.2.2.1, bt318.2.2.2.2, none))))) = some (r1, r2, r3, r4, r5, r6) := h
 clear h
 by_cases c3 : a0 ≥ a1
 ·rw [if_pos c3] at H
  have c3b0 : decide (a1 ≤ a0) = true := decide_eq_true c3
  clear c3
  replace H := Option.bind_eq_some_iff.mp H
  obtain ⟨t310, A40, H⟩ := H
  replace H : (some (([] : List (S106)), 0, 0, 0, 0, t310)) = some (r1, r2, r3, r4, r5, r6) := H
  have A4 := Aside0.mk A40
  clear A40
  simp only [Option.some.injEq, Prod.mk.injEq] at H
  obtain ⟨rfl, rfl, rfl, rfl, rfl, rfl⟩ := H
  go_enter Tryd.func106, Tryd.ntmps106
  go_wp2_with (first | ((with_reducible refine gate_dst (N := 4) rfl ?_); refine box_event ?hg (N := 4) ?hd (cs := #[.slice none 0 0, .int .i64 0, .int .i64 0, .int .u64 0, .int .u64 0]) (t := 122) ?hr ?_; (case hd => rfl); (case hg => rfl); (case hr => first | (go_simp; done) | (go_simp; rfl)); intro gb309 hg w5 hbox hb; have n0_ := Aside0.mk (below_step bB hb); have n1_ := Aside0.mk (hbox); have n2_ := Aside0.mk ((by rw [hg]; exact (below_size bB) : w.heap.size ≤ gb309)); have n3_ := Aside0.mk ((by rw [hg]; exact (below_size bB) : w.heap.size ≤ gb309)); clear HB; have HB := n0_; have BK309 := n1_; have GW309 := n2_; have GE309 := n3_; clear n0_ n1_ n2_ n3_; clear hb hbox hg) | ((with_reducible refine gate_callee (f := 80) rfl ?_); refine goesL_ (some 10) rfl rfl Tryd.func80 (by kernel_rfl) rfl #[.string (⟨#[105, 110, 100, 101, 120, 32, 111, 117, 116, 32, 111, 102, 32, 98, 111, 117, 110, 100, 115, 32, 102, 111, 114, 32, 116, 114, 101, 101, 32, 115, 105, 122, 101]⟩ : ByteArray)] rfl aV ?_; (with_reducible refine (errors_New.calls (⟨#[105, 110, 100, 101, 120, 32, 111, 117, 116, 32, 111, 102, 32, 98, 111, 117, 110, 100, 115, 32, 102, 111, 114, 32, 116, 114, 101, 101, 32, 115, 105, 122, 101]⟩ : ByteArray) t310 _ A4.out).mono ?_); rintro e w6 ⟨Tt310, Xt310, rfl, hb⟩; refine ⟨_, rfl, ?_⟩; have n0_ := Aside0.mk (blk_below (g := gb309) (o := .cells #[.slice none 0 0, .int .i64 0, .int .i64 0, .int .u64 0, .int .u64 0] 122 (0, 0)) (kB BK309.out) hb); have n1_ := Aside0.mk (below_step bB hb); clear BK309; clear HB; have BK309 := n0_; have HB := n1_; clear n0_ n1_; (try clear hb); (try clear hb2); (try clear hk); (try clear hi); (try simp only [errW_none, errW_some]); have hcz7_0 : w6.cell? ⟨gb309, 0, none⟩ = some (.slice none 0 0) := (blk_cell BK309.out 0).trans rfl; have hcz7_1 : w6.cell? ⟨gb309, 1, none⟩ = some (.int .i64 0) := (blk_cell BK309.out 1).trans rfl; have hcz7_2 : w6.cell? ⟨gb309, 2, none⟩ = some (.int .i64 0) := (blk_cell BK309.out 2).trans rfl; have hcz7_3 : w6.cell? ⟨gb309, 3, none⟩ = some (.int .u64 0) := (blk_cell BK309.out 3).trans rfl; have hcz7_4 : w6.cell? ⟨gb309, 4, none⟩ = some (.int .u64 0) := (blk_cell BK309.out 4).trans rfl; have hfz7_0 := blk_frozen BK309.out 0; have hfz7_1 := blk_frozen BK309.out 1; have hfz7_2 := blk_frozen BK309.out 2; have hfz7_3 := blk_frozen BK309.out 3; have hfz7_4 := blk_frozen BK309.out 4))
  refine bodyPost_ret (results_ct rfl _ _ gb309 122 #[.slice none 0 0, .int .i64 0, .int .i64 0, .int .u64 0, .int .u64 0] (0, 0) _ rfl (by (with_reducible repeat (first | refine blk_drewN ?_ _ | refine blk_drew ?_ | refine blk_alloc ?_ _)); refine blk_put (cs := #[.slice none 0 0, .int .i64 0, .int .i64 0, .int .u64 0, .int .u64 0]) ?_ 4 _ rfl; (with_reducible repeat (first | refine blk_drewN ?_ _ | refine blk_drew ?_ | refine blk_alloc ?_ _)); refine blk_put (cs := #[.slice none 0 0, .int .i64 0, .int .i64 0, .int .u64 0, .int .u64 0]) ?_ 3 _ rfl; (with_reducible repeat (first | refine blk_drewN ?_ _ | refine blk_drew ?_ | refine blk_alloc ?_ _)); refine blk_put (cs := #[.slice none 0 0, .int .i64 0, .int .i64 0, .int .u64 0, .int .u64 0]) ?_ 2 _ rfl; (with_reducible repeat (first | refine blk_drewN ?_ _ | refine blk_drew ?_ | refine blk_alloc ?_ _)); refine blk_put (cs := #[.slice none 0 0, .int .i64 0, .int .i64 0, .int .u64 0, .int .u64 0]) ?_ 1 _ rfl; (with_reducible repeat (first | refine blk_drewN ?_ _ | refine blk_drew ?_ | refine blk_alloc ?_ _)); refine blk_put (cs := #[.slice none 0 0, .int .i64 0, .int .i64 0, .int .u64 0, .int .u64 0]) ?_ 0 _ rfl; (with_reducible repeat (first | refine blk_drewN ?_ _ | refine blk_drew ?_ | refine blk_alloc ?_ _)); exact BK309.out) Tryd.underlying122 rfl (by kernel_rfl)) rfl ?_
  exact ⟨Tt310, Xt310, (.slice none 0 0), by first | rfl | (simp [errW_none, errW_some] <;> rfl) | (simp [*, errW_none, errW_some] <;> rfl), by first | exact Kd.V_nil _ _ _ _ _ | exact Kd.R_nil _ _ _ _ _ | exact Kd.S_nil _ _ _ _ _ | exact Kd.N_nil _ _ _ _ _ | exact Kd.Q_nil _ _ _ _ _, bB⟩
 ·rw [if_neg c3] at H
  have c3b0 : decide (a1 ≤ a0) = false := decide_eq_false c3
  clear c3
  replace H := Option.bind_eq_some_iff.mp H
  obtain ⟨⟨t311, t314, t315, t316, t317⟩, A80, H⟩ := H
  replace H : ((proof_Nodes_skipFirst.f t311 t314 t315 t316 t317).bind fun bt318 => (some (bt318.1, bt318.2.1, bt318.2.2.1, bt318.2.2.2.1, bt318.2.2.2.2, none))) = some (r1, r2, r3, r4, r5, r6) := H
  have A8 := Aside0.mk A80
  clear A80
  replace H := Option.bind_eq_some_iff.mp H
  obtain ⟨⟨t318, t321, t322, t323, t324⟩, A90, H⟩ := H
  replace H : (some (t318, t321, t322, t323, t324, none)) = some (r1, r2, r3, r4, r5, r6) := H
  have A9 := Aside0.mk A90
  clear A90
  simp only [Option.some.injEq, Prod.mk.injEq] at H
  obtain ⟨rfl, rfl, rfl, rfl, rfl, rfl⟩ := H
  go_enter Tryd.func106, Tryd.ntmps106
  go_wp2_with (first | ((with_reducible refine gate_dst (N := 4) rfl ?_); refine box_event ?hg (N := 4) ?hd (cs := #[.slice none 0 0, .int .i64 0, .int .i64 0, .int .u64 0, .int .u64 0]) (t := 122) ?hr ?_; (case hd => rfl); (case hg => rfl); (case hr => first | (go_simp; done) | (go_simp; rfl)); intro gb309 hg w10 hbox hb; have n0_ := Aside0.mk (below_step bB hb); have n1_ := Aside0.mk (hbox); have n2_ := Aside0.mk ((by rw [hg]; exact (below_size bB) : w.heap.size ≤ gb309)); have n3_ := Aside0.mk ((by rw [hg]; exact (below_size bB) : w.heap.size ≤ gb309)); clear HB; have HB := n0_; have BK309 := n1_; have GW309 := n2_; have GE309 := n3_; clear n0_ n1_ n2_ n3_; clear hb hbox hg) | ((with_reducible refine gate_callee (f := 102) rfl ?_); refine goesL_ (some 13) rfl rfl Tryd.func102 (by kernel_rfl) rfl #[.int .u64 a0, .int .u64 0, .int .u64 a1] rfl aV ?_; (with_reducible refine (proof_nodes.calls k a0 0 a1 t311 t314 t315 t316 t317 _ ?side1 A8.out).mono ?_); (case side1 => exact TabOK.below HT.out bB); rintro e w11 ⟨v312, rfl, ho0, hb⟩; refine ⟨_, rfl, ?_⟩; have n0_ := Aside0.mk (Kd.R_lower (Kd.R_newM (M := fun k_ => (w.heap.size ≤ k_)) ho0 (below_size bB) (fun k_ h_ => h_)) (below_size bB)); have n1_ := Aside0.mk (blk_below (g := gb309) (o := .cells #[.slice none 0 0, .int .i64 0, .int .i64 0, .int .u64 0, .int .u64 0] 122 (0, 0)) (kB BK309.out) hb); have n2_ := Aside0.mk (below_step bB hb); clear BK309; clear HB; have HO313 := n0_; have BK309 := n1_; have HB := n2_; clear n0_ n1_ n2_; (try clear hb); (try clear hb2); (try clear hk); (try clear hi); (try clear ho0); obtain ⟨Ao12, co12, eo12⟩ := Kd.R_slice HO313.out; subst eo12) | ((with_reducible refine gate_callee (f := 103) rfl ?_); refine goesL_ (some 14) rfl rfl Tryd.func103 (by kernel_rfl) rfl #[.agg #[.slice Ao12 t311.length co12, .int .i64 t314, .int .i64 t315, .int .u64 t316, .int .u64 t317]] rfl aV ?_; (with_reducible refine (proof_Nodes_skipFirst.calls (fun k_ => some k_ = (.slice Ao12 t311.length co12 : Value).ownBlock) _ _ t311 t314 t315 t316 t317 t318 t321 t322 t323 t324 _ ?side1 A9.out).mono ?_); (case side1 => first | exact Kd.R_V (Kd.R_tight rfl (Kd.R_types (HO313.out) BK309.out (by decide))) | exact Kd.V_mono Kd.R_V (Kd.R_tight rfl (Kd.R_types (HO313.out) BK309.out (by decide))) (fun k_ h_ => by simp only [and_assoc] at h_ ⊢; exact h_)); rintro e w13 ⟨v319, rfl, ho0, hb⟩; refine ⟨_, rfl, ?_⟩; have n0_ := Aside0.mk (Kd.R_below (kR HO313.out) hb); have n1_ := Aside0.mk (Kd.V_lower (Kd.V_mono (ok' := fun k_ => (w.heap.size ≤ k_) ∧ k_ ≠ gb309) ho0 (fun k_ hk_ => ⟨Or.elim hk_ (fun hs_ => ((Kd.R_types (HO313.out) BK309.out (by decide)).1 k_ hs_.symm).1.1) (fun hn_ => (Nat.le_trans (below_size bB) hn_)), Or.elim hk_ (fun hs_ => ((Kd.R_types (HO313.out) BK309.out (by decide)).1 k_ hs_.symm).2) (fun hn_ => (Kd.freshB (g := gb309) (o := .cells #[.slice none 0 0, .int .i64 0, .int .i64 0, .int .u64 0, .int .u64 0] 122 (0, 0)) (kB BK309.out) k_ hn_))⟩)) (below_size bB)); have n2_ := Aside0.mk (blk_below (g := gb309) (o := .cells #[.slice none 0 0, .int .i64 0, .int .i64 0, .int .u64 0, .int .u64 0] 122 (0, 0)) (kB BK309.out) hb); have n3_ := Aside0.mk (below_step bB hb); clear HO313; clear BK309; clear HB; have HO313 := n0_; have HO320 := n1_; have BK309 := n2_; have HB := n3_; clear n0_ n1_ n2_ n3_; (try clear hb); (try clear hb2); (try clear hk); (try clear hi); (try clear ho0); obtain ⟨Ao14, co14, eo14⟩ := Kd.V_slice HO320.out; subst eo14; have hcz15_0 : w13.cell? ⟨gb309, 0, none⟩ = some (.slice none 0 0) := (blk_cell BK309.out 0).trans rfl; have hcz15_1 : w13.cell? ⟨gb309, 1, none⟩ = some (.int .i64 0) := (blk_cell BK309.out 1).trans rfl; have hcz15_2 : w13.cell? ⟨gb309, 2, none⟩ = some (.int .i64 0) := (blk_cell BK309.out 2).trans rfl; have hcz15_3 : w13.cell? ⟨gb309, 3, none⟩ = some (.int .u64 0) := (blk_cell BK309.out 3).trans rfl; have hcz15_4 : w13.cell? ⟨gb309, 4, none⟩ = some (.int .u64 0) := (blk_cell BK309.out 4).trans rfl; have hfz15_0 := blk_frozen BK309.out 0; have hfz15_1 := blk_frozen BK309.out 1; have hfz15_2 := blk_frozen BK309.out 2; have hfz15_3 := blk_frozen BK309.out 3; have hfz15_4 := blk_frozen BK309.out 4))
  refine bodyPost_ret (results_ct rfl _ _ gb309 122 #[.slice Ao14 t318.length co14, .int .i64 t321, .int .i64 t322, .int .u64 t323, .int .u64 t324] (0, 0) _ rfl (by (with_reducible repeat (first | refine blk_drewN ?_ _ | refine blk_drew ?_ | refine blk_alloc ?_ _)); refine blk_put (cs := #[.slice Ao14 t318.length co14, .int .i64 t321, .int .i64 t322, .int .u64 t323, .int .u64 0]) ?_ 4 _ rfl; (with_reducible repeat (first | refine blk_drewN ?_ _ | refine blk_drew ?_ | refine blk_alloc ?_ _)); refine blk_put (cs := #[.slice Ao14 t318.length co14, .int .i64 t321, .int .i64 t322, .int .u64 0, .int .u64 0]) ?_ 3 _ rfl; (with_reducible repeat (first | refine blk_drewN ?_ _ | refine blk_drew ?_ | refine blk_alloc ?_ _)); refine blk_put (cs := #[.slice Ao14 t318.length co14, .int .i64 t321, .int .i64 0, .int .u64 0, .int .u64 0]) ?_ 2 _ rfl; (with_reducible repeat (first | refine blk_drewN ?_ _ | refine blk_drew ?_ | refine blk_alloc ?_ _)); refine blk_put (cs := #[.slice Ao14 t318.length co14, .int .i64 0, .int .i64 0, .int .u64 0, .int .u64 0]) ?_ 1 _ rfl; (with_reducible repeat (first | refine blk_drewN ?_ _ | refine blk_drew ?_ | refine blk_alloc ?_ _)); refine blk_put (cs := #[.slice none 0 0, .int .i64 0, .int .i64 0, .int .u64 0, .int .u64 0]) ?_ 0 _ rfl; (with_reducible repeat (first | refine blk_drewN ?_ _ | refine blk_drew ?_ | refine blk_alloc ?_ _)); exact BK309.out) Tryd.underlying122 rfl (by kernel_rfl)) rfl ?_
  exact ⟨(fun _ => 0), (fun _ => .nilIface), _, by first | rfl | (simp [errW_none, errW_some] <;> rfl) | (simp [*, errW_none, errW_some] <;> rfl), by (with_reducible repeat (first | apply Kd.V_alloc | apply Kd.V_drewN | apply Kd.V_drew)); exact Kd.V_mono (Kd.V_far (p := ⟨gb309, 4, none⟩) (Kd.V_far (p := ⟨gb309, 3, none⟩) (Kd.V_far (p := ⟨gb309, 2, none⟩) (Kd.V_far (p := ⟨gb309, 1, none⟩) (Kd.V_far (p := ⟨gb309, 0, none⟩) (Kd.V_mono HO320.out (fun k_ hk => (⟨hk, hk.2⟩ : _ ∧ k_ ≠ gb309))) (fun _ hk => hk.2) (.slice Ao14 t318.length co14)) (fun _ hk => hk.2) (.int .i64 t321)) (fun _ hk => hk.2) (.int .i64 t322)) (fun _ hk => hk.2) (.int .u64 t323)) (fun _ hk => hk.2) (.int .u64 t324)) (fun _ hk => hk.1.1), bB⟩


/-! ### impl_TreeInclusion: function 38 -/
set_option linter.unusedVariables false
set_option linter.unusedSimpArgs false

/-- A level: a row of texts of the call's own. -/
def Lvl (w : World) (B : Nat) (v : Value) (h : List (List Int)) : Prop := (Kd.slice 5 (Kd.int .u8)).R 27 w B (fun _ => True) v h
def ApartL (vs : List Value) : Prop := ∀ (i j : Nat) (u v : Value) (k : Nat), i ≠ j → vs[i]? = some u → vs[j]? = some v → u.ownBlock = some k → v.ownBlock ≠ some k
structure Tr (w : World) (B g : Nat) (ag : Value) (n : Nat) (H : List (List (List Int))) (S : Nat → Prop) (vo : Value) (vs : List Value) : Prop where
 blk : w.heap[g]? = some (.cells #[ag, .int .u64 n, vo] 136 (0, 0))
 base : B ≤ g
 out : w.ownsRow B 25 1 vo vs.length vs
 len : vs.length = H.length
 lvl : ∀ (j : Nat) (v : Value) (h : List (List Int)), vs[j]? = some v → H[j]? = some h → Lvl w B v h
 apart : ApartL vs
 sg : S g
 so : ∀ k, vo.ownBlock = some k → S k
 sv : ∀ (j : Nat) (v : Value) (k : Nat), vs[j]? = some v → v.ownBlock = some k → S k
section
variable {w w1 w2 w' : World} {B g n : Nat} {ag : Value} {H : List (List (List Int))} {S : Nat → Prop} {vo : Value} {vs : List Value}
theorem Lvl.own {v : Value} {x : List (List Int)} (h : Lvl w B v x) : ∃ cs, w.ownsRow B 27 1 v x.length cs := Kd.R_own h
/-- A level's rows are none of another kind's blocks. -/
theorem Lvl.ne {v : Value} {x : List (List Int)} {k q : Nat} {cs : Array Value} (h : Lvl w B v x) (hk : w.heap[k]? = some (.cells cs q (0, 0))) (hq : q ≠ 5) (hv : v.ownBlock ≠ some k) :
  (Kd.slice 5 (Kd.int .u8)).R 27 w B (fun b => b ≠ k) v x := by
 obtain ⟨h0, inner, ho, hr⟩ := h
 refine ⟨fun b hb e => hv (e ▸ hb), inner, ho, hr.imp_ (fun p c hp => Kd.M_mono _ (fun b hb => ?_) (Kd.M_bound _ hp))⟩
 obtain ⟨⟨h1, h2⟩, h3, h4, q', hq', cells, hc⟩ := hb
 refine ⟨?_, h2⟩
 rintro rfl
 rw [hk] at hc
 injection hc with hc
 injection hc with _ hc
 have e5 : q' = 5 := by simpa [Kd.slice, Kd.int, Kd.scalar] using hq'
 exact hq (hc.trans e5)
theorem Lvl.below {v : Value} {x : List (List Int)} (h : Lvl w B v x) (hb : Below w.heap.size w w1) : Lvl w1 B v x := Kd.R_below h hb
theorem Tr.below (h : Tr w B g ag n H S vo vs) (hb : Below w.heap.size w w') : Tr w' B g ag n H S vo vs :=
 ⟨blk_below h.blk hb, h.base, pw_own_below h.out hb, h.len, fun j v x h1 h2 => (h.lvl j v x h1 h2).below hb, h.apart, h.sg, h.so, h.sv⟩
theorem Tr.mono {S' : Nat → Prop} (h : Tr w B g ag n H S vo vs) (hs : ∀ k, S k → S' k) : Tr w B g ag n H S' vo vs :=
 ⟨h.blk, h.base, h.out, h.len, h.lvl, h.apart, hs _ h.sg, fun k hk => hs _ (h.so k hk), fun j v k h1 h2 => hs _ (h.sv j v k h1 h2)⟩
theorem Tr.cell (h : Tr w B g ag n H S vo vs) : w.cell? ⟨g, 0, none⟩ = some ag ∧ w.cell? ⟨g, 1, none⟩ = some (.int .u64 n) ∧ w.cell? ⟨g, 2, none⟩ = some vo :=
 ⟨(blk_cell h.blk 0).trans rfl, (blk_cell h.blk 1).trans rfl, (blk_cell h.blk 2).trans rfl⟩
theorem Tr.free (h : Tr w B g ag n H S vo vs) (i : Nat) : w.frozen? ⟨g, i, none⟩ = false := blk_frozen h.blk i
/-- The outer row's place. -/
theorem Tr.row (h : Tr w B g ag n H S vo vs) (hn : 0 < vs.length) : ∃ go co, vo = .slice (some ⟨go, 0, none⟩) vs.length co ∧ vs.length ≤ co ∧ B ≤ go ∧ S go ∧ go ≠ g := by
 rcases h.out.2 with ⟨_, h0⟩ | ⟨go, co, cur, e, hb, hg, hc, _⟩
 ·omega
 ·refine ⟨go, co, e, hc, hb, h.so go (by rw [e]; rfl), fun e2 => ?_⟩
  rw [e2, h.blk] at hg
  injection hg with hg
  injection hg with _ hg
  exact absurd hg (by decide)
theorem Tr.rowCell {go co : Nat} (h : Tr w B g ag n H S (.slice (some ⟨go, 0, none⟩) vs.length co) vs) (j : Nat) (hj : j < vs.length) : w.cell? ⟨go, j, none⟩ = vs[j]? := h.out.cellAt j (by omega)
theorem Tr.rowFree {go co : Nat} (h : Tr w B g ag n H S (.slice (some ⟨go, 0, none⟩) vs.length co) vs) (j : Nat) : w.frozen? ⟨go, j, none⟩ = false := h.out.frozenAt j
theorem Tr.at_ (h : Tr w B g ag n H S vo vs) {j : Nat} (hj : j < H.length) : ∃ v x, vs[j]? = some v ∧ H[j]? = some x ∧ Lvl w B v x := by
 have h1 : j < vs.length := by have := h.len; omega
 exact ⟨_, _, List.getElem?_eq_getElem h1, List.getElem?_eq_getElem hj, h.lvl j _ _ (List.getElem?_eq_getElem h1) (List.getElem?_eq_getElem hj)⟩
/-- A level's own row has been written, or appended to: the frame's two parts. -/
theorem Tr.mid (h : Tr w B g ag n H S vo vs) {j : Nat} {v : Value} (hj : vs[j]? = some v) (hjH : j < H.length) (hg : w.grownBy w1 v.ownBlock) :
  w1.heap[g]? = some (.cells #[ag, .int .u64 n, vo] 136 (0, 0)) ∧ w1.ownsRow B 25 1 vo vs.length vs ∧
   ∀ (i : Nat) (u : Value) (x : List (List Int)), i ≠ j → vs[i]? = some u → H[i]? = some x → Lvl w1 B u x := by
 have hl := h.lvl j v _ hj (List.getElem?_eq_getElem hjH)
 obtain ⟨cs, ho⟩ := hl.own
 refine ⟨blk_grown h.blk hg ?_, own_other h.out hg (own_type_ne h.out ho (by decide)), fun i u x hij hu hx => ?_⟩
 ·intro e
  obtain ⟨c, hc⟩ := own_typed ho g e.symm
  rw [h.blk] at hc
  injection hc with hc
  injection hc with _ hc
  exact absurd hc (by decide)
 ·have hlu := h.lvl i u x hu hx
  cases hv : v.ownBlock with
  | none => rw [hv] at hg; exact Kd.R_grown hlu hg (fun k _ => by simp)
  | some k =>
   obtain ⟨c, hc⟩ := own_typed ho k hv
   rw [hv] at hg
   exact Kd.R_mono (Kd.R_grown (hlu.ne hc (by decide) (h.apart j i v u k (Ne.symm hij) hj hu hv)) hg (fun b hb e => hb (Option.some.inj e))) (fun _ _ => trivial)
/-- A level's row has been made longer and stored back. -/
theorem Tr.put {go co : Nat} (h : Tr w B g ag n H S (.slice (some ⟨go, 0, none⟩) vs.length co) vs) {j : Nat} {v v1 : Value} {x1 : List (List Int)} (hj : vs[j]? = some v) (hg : w.grownBy w1 v.ownBlock) (hb : Below w1.heap.size w1 w2)
  (hv : Lvl w2 B v1 x1) (hat : v1.ownBlock = v.ownBlock ∨ ∃ b, v1.ownBlock = some b ∧ w.heap.size ≤ b) :
  Tr (w2.setCell ⟨go, j, none⟩ v1) B g ag n (H.set j x1) (fun k => S k ∨ w.heap.size ≤ k) (.slice (some ⟨go, 0, none⟩) vs.length co) (vs.set j v1) := by
 have hjl : j < vs.length := (List.getElem?_eq_some_iff.1 hj).1
 have hjH : j < H.length := by have := h.len; omega
 obtain ⟨m1, m2, m3⟩ := h.mid hj hjH hg
 have k1 := blk_below m1 hb
 have k2 := pw_own_below m2 hb
 have hne : go ≠ g := by
  rintro rfl
  obtain ⟨c, hc⟩ := own_typed k2 go rfl
  rw [k1] at hc
  injection hc with hc
  injection hc with _ hc
  exact absurd hc (by decide)
 obtain ⟨s1, s2⟩ := k2.stored j v1
 obtain ⟨cgo, hgo⟩ := own_typed k2 go rfl
 have hlen : (vs.set j v1).length = vs.length := List.length_set
 have lvk : ∀ (u : Value) (x : List (List Int)), Lvl w2 B u x → Lvl (w2.setCell ⟨go, j, none⟩ v1) B u x := fun u x hu =>
  Kd.R_set hu hgo (by intro q hq; simp [Kd.slice, Kd.int, Kd.scalar] at hq; omega) j v1
 have hold : ∀ (i : Nat) (u : Value) (k : Nat), vs[i]? = some u → u.ownBlock = some k → k < w.heap.size := by
  intro i u k hu hk
  have hi : i < H.length := by have := (List.getElem?_eq_some_iff.1 hu).1; have := h.len; omega
  obtain ⟨cs, ho⟩ := (h.lvl i u _ hu (List.getElem?_eq_getElem hi)).own
  exact own_lt ho k hk
 refine ⟨blk_far k1 (Ne.symm hne) v1, h.base, by rw [hlen]; exact s1, by rw [hlen, List.length_set]; exact h.len, ?_, ?_, .inl h.sg, fun k hk => .inl (h.so k hk), ?_⟩
 ·intro i u x hu hx
  by_cases hij : i = j
  ·subst hij
   rw [List.getElem?_set_self hjl] at hu
   rw [List.getElem?_set_self hjH] at hx
   cases hu
   cases hx
   exact lvk _ _ hv
  ·rw [List.getElem?_set_ne (Ne.symm hij)] at hu hx
   exact lvk _ _ ((m3 i u x hij hu hx).below hb)
 ·intro i i' u u' k hii hu hu' hk hk'
  by_cases h1 : i = j
  ·subst h1
   rw [List.getElem?_set_self hjl] at hu
   rw [List.getElem?_set_ne hii] at hu'
   cases hu
   rcases hat with e | ⟨b, e, hbb⟩
   ·exact h.apart i i' v u' k hii hj hu' (e ▸ hk) hk'
   ·have := hold i' u' k hu' hk'
    rw [hk] at e
    cases e
    omega
  ·rw [List.getElem?_set_ne (Ne.symm h1)] at hu
   by_cases h2 : i' = j
   ·subst h2
    rw [List.getElem?_set_self hjl] at hu'
    cases hu'
    rcases hat with e | ⟨b, e, hbb⟩
    ·exact h.apart i i' u v k hii hu hj hk (e ▸ hk')
    ·have := hold i u k hu hk
     rw [hk'] at e
     cases e
     omega
   ·rw [List.getElem?_set_ne (Ne.symm h2)] at hu'
    exact h.apart i i' u u' k hii hu hu' hk hk'
 ·intro i u k hu hk
  by_cases hij : i = j
  ·subst hij
   rw [List.getElem?_set_self hjl] at hu
   cases hu
   rcases hat with e | ⟨b, e, hbb⟩
   ·exact .inl (h.sv i v k hj (e ▸ hk))
   ·rw [hk] at e
    cases e
    exact .inr hbb
  ·rw [List.getElem?_set_ne (Ne.symm hij)] at hu
   exact .inl (h.sv i u k hu hk)
/-- The count is set. -/
theorem Tr.count (h : Tr w B g ag n H S vo vs) (m : Nat) : Tr (w.setCell ⟨g, 1, none⟩ (.int .u64 m)) B g ag m H S vo vs := by
 refine ⟨blk_put h.blk 1 _ rfl, h.base, own_setCell h.out ?_ _, h.len, fun j v x h1 h2 => Kd.R_set (h.lvl j v x h1 h2) h.blk (by intro q hq; simp [Kd.slice, Kd.int, Kd.scalar] at hq; omega) 1 _, h.apart, h.sg, h.so, h.sv⟩
 intro e
 obtain ⟨c, hc⟩ := own_typed h.out g e.symm
 rw [h.blk] at hc
 injection hc with hc
 injection hc with _ hc
 exact absurd hc (by decide)
/-- The outer row has been made longer by an empty level, and stored back. -/
theorem Tr.more (h : Tr w B g ag n H S vo vs) {vo1 : Value} (hg : w.grownBy w1 vo.ownBlock) (ho : w1.ownsRow B 25 1 vo1 (vs ++ [Value.slice none 0 0]).length (vs ++ [Value.slice none 0 0]))
  (hat : vo1.ownBlock = vo.ownBlock ∨ ∃ b, vo1.ownBlock = some b ∧ w.heap.size ≤ b) :
  Tr (w1.setCell ⟨g, 2, none⟩ vo1) B g ag n (H ++ [[]]) (fun k => S k ∨ w.heap.size ≤ k) vo1 (vs ++ [Value.slice none 0 0]) := by
 have hgne : some g ≠ vo.ownBlock := by
  intro e
  obtain ⟨c, hc⟩ := own_typed h.out g e.symm
  rw [h.blk] at hc
  injection hc with hc
  injection hc with _ hc
  exact absurd hc (by decide)
 have k1 := blk_grown h.blk hg hgne
 have lv : ∀ (j : Nat) (v : Value) (x : List (List Int)), vs[j]? = some v → H[j]? = some x → Lvl w1 B v x := fun j v x h1 h2 => by
  have hl := h.lvl j v x h1 h2
  cases hv : vo.ownBlock with
  | none => rw [hv] at hg; exact Kd.R_grown hl hg (fun k _ => by simp)
  | some k =>
   obtain ⟨c, hc⟩ := own_typed h.out k hv
   rw [hv] at hg
   exact Kd.R_mono (Kd.R_grown (Kd.R_types hl hc (by intro q hq; simp [Kd.slice, Kd.int, Kd.scalar] at hq; omega)) hg (fun b hb e => hb.2 (Option.some.inj e))) (fun _ _ => trivial)
 refine ⟨blk_put k1 2 _ rfl, h.base, own_setCell ho ?_ _, by simp [h.len], ?_, ?_, .inl h.sg, ?_, ?_⟩
 ·intro e
  obtain ⟨c, hc⟩ := own_typed ho g e.symm
  rw [k1] at hc
  injection hc with hc
  injection hc with _ hc
  exact absurd hc (by decide)
 ·intro j v x h1 h2
  by_cases hj : j < vs.length
  ·rw [List.getElem?_append_left hj] at h1
   rw [List.getElem?_append_left (by have := h.len; omega)] at h2
   exact Kd.R_set (lv j v x h1 h2) k1 (by intro q hq; simp [Kd.slice, Kd.int, Kd.scalar] at hq; omega) 2 _
  ·have hjl : j < (vs ++ [Value.slice none 0 0]).length := (List.getElem?_eq_some_iff.1 h1).1
   rw [List.length_append] at hjl
   simp at hjl
   have e : j = vs.length := by omega
   subst e
   simp at h1
   rw [h.len] at h2
   simp at h2
   subst h1 h2
   exact Kd.R_nil _ _ _ _ _
 ·intro i j u v k hij hu hv hk hk'
  by_cases hi : i < vs.length
  ·rw [List.getElem?_append_left hi] at hu
   by_cases hj : j < vs.length
   ·rw [List.getElem?_append_left hj] at hv
    exact h.apart i j u v k hij hu hv hk hk'
   ·have hjl : j < (vs ++ [Value.slice none 0 0]).length := (List.getElem?_eq_some_iff.1 hv).1
    simp at hjl
    have e : j = vs.length := by omega
    subst e
    simp at hv
    subst hv
    simp [Value.ownBlock] at hk'
  ·have hil : i < (vs ++ [Value.slice none 0 0]).length := (List.getElem?_eq_some_iff.1 hu).1
   simp at hil
   have e : i = vs.length := by omega
   subst e
   simp at hu
   subst hu
   simp [Value.ownBlock] at hk
 ·intro k hk
  rcases hat with e | ⟨b, e, hbb⟩
  ·exact .inl (h.so k (e ▸ hk))
  ·rw [hk] at e
   cases e
   exact .inr hbb
 ·intro j v k hv hk
  by_cases hj : j < vs.length
  ·rw [List.getElem?_append_left hj] at hv
   exact .inl (h.sv j v k hv hk)
  ·have hjl : j < (vs ++ [Value.slice none 0 0]).length := (List.getElem?_eq_some_iff.1 hv).1
   simp at hjl
   have e : j = vs.length := by omega
   subst e
   simp at hv
   subst hv
   simp [Value.ownBlock] at hk
end

set_option linter.unusedVariables false
set_option linter.unusedSimpArgs false
attribute [local go_sem ↓] Go.wp_at_zero Go.wp_at_succ

/-- A node is put at level j; where it completes a pair, its parent goes one level up. -/
def up (hc : List Int → List Int → Option (List Int)) (n : Nat) : Nat → List (List (List Int)) → Nat → List Int → Option (List (List (List Int)))
 | 0, _, _, _ => none
 | k + 1, H, j, x => if n / 2 ^ j % 2 = 1 then (if j < H.length ∧ j < 63 ∧ 0 < (H.getD j []).length ∧ (H.getD j []).length < 1099511627776 then (hc ((H.getD j []).getD ((H.getD j []).length - 1) []) x).bind fun y => up hc n k (H.set j (H.getD j [] ++ [x])) (j + 1) y else none)
   else (if j < H.length then (if j < 63 ∧ (H.getD j []).length < 1099511627776 then some (H.set j (H.getD j [] ++ [x])) else none) else if j = H.length ∧ j < 63 then some (H ++ [[x]]) else none)

theorem bit_at (n j : Nat) (hn : n < 4611686018427387904) : bits .and .u64 ((n : Int) / 2 ^ j) 1 = ((n / 2 ^ j % 2 : Nat) : Int) := by
 have e2 : (n : Int) / 2 ^ j = ((n / 2 ^ j : Nat) : Int) := by norm_cast
 have hb : n / 2 ^ j < 18446744073709551616 := Nat.lt_of_le_of_lt (Nat.div_le_self _ _) (by omega)
 rw [e2, show (1 : Int) = ((1 : Nat) : Int) from rfl, bits_and_u64_nat _ 1 hb (by omega), show n / 2 ^ j &&& 1 = n / 2 ^ j % 2 from Nat.and_two_pow_sub_one_eq_mod _ 1]
def agOf (a0 a1 a2 a3 a4 a5 : Int) : Value := .iface 85 (.agg #[.int .i64 a0, .int .i64 a1, .int .i64 a2, .int .u64 a3, .int .u64 a4, .int .u64 a5])
theorem info_rows : (Tryd.prog.info? 25).map (fun i => (i.zero, i.size, i.bytes)) = some (some (.slice none 0 0), 1, 24) := by kernel_rfl
theorem one_nil : ∀ u ∈ [Value.slice none 0 0], u.oneCell' = true := by intro u hu; rw [List.mem_singleton.1 hu]; rfl
theorem own_some {w : World} {B e n : Nat} {v : Value} {xs : List Value} (h : w.ownsRow B e 1 v n xs) (hn : 0 < n) : ∃ g c, v = .slice (some ⟨g, 0, none⟩) n c ∧ B ≤ g := by
 rcases h.2 with ⟨_, h0⟩ | ⟨go, co, cur, e, hb, _⟩
 ·omega
 ·exact ⟨go, co, e, hb⟩
theorem Tr.moreBlk {w w1 : World} {B g n : Nat} {ag : Value} {H : List (List (List Int))} {S : Nat → Prop} {vo : Value} {vs : List Value} (h : Tr w B g ag n H S vo vs) (hg : w.grownBy w1 vo.ownBlock) :
  w1.cell? ⟨g, 2, none⟩ = some vo ∧ w1.frozen? ⟨g, 2, none⟩ = false ∧ w1.heap[g]? = some (.cells #[ag, .int .u64 n, vo] 136 (0, 0)) := by
 have hgne : some g ≠ vo.ownBlock := by
  intro e
  obtain ⟨c, hc⟩ := own_typed h.out g e.symm
  rw [h.blk] at hc
  injection hc with hc
  injection hc with _ hc
  exact absurd hc (by decide)
 have k1 := blk_grown h.blk hg hgne
 exact ⟨(blk_cell k1 2).trans rfl, blk_frozen k1 2, k1⟩
set_option maxHeartbeats 4000000 in
set_option maxRecDepth 100000 in
theorem appendImpl_calls (k kf : Nat) (a0 a1 a2 a3 a4 a5 : Int) (B g n : Nat) (H r : List (List (List Int))) (S : Nat → Prop) (vo : Value) (vs : List Value) (v : Value) (x : List Int) (w : World)
  (hT : Tr w B g (agOf a0 a1 a2 a3 a4 a5) n H S vo vs) (hx : (Kd.int .u8).R 5 w B (fun _ => True) v x) (hB : B ≤ w.heap.size) (hn : n < 4611686018427387904)
  (h : up (fun l r => impl_toy_HashChildren.f k a0 a1 a2 a3 a4 a5 l r) n kf H 0 x = some r) :
  Calls Tryd.prog 77 #[.pointer (some ⟨g, 0, none⟩), v] w fun e w' => e = .returned (.tuple #[]) ∧ ∃ vo' vs', Tr w' B g (agOf a0 a1 a2 a3 a4 a5) (n + 1) r (fun k => S k ∨ w.heap.size ≤ k) vo' vs' ∧ Kept w w' S ∧ Below B w w' := by
 obtain ⟨A1, c1, rfl⟩ := Kd.R_slice hx
 have HT := Aside0.mk hT
 have HX := Aside0.mk hx
 have H' := Aside0.mk h
 clear hT hx h
 go_enter Tryd.func77, Tryd.ntmps77
 go_wp2
 go_loopg [1, 4, 5] kf (fun kq v1 v4 v5 w' => ∃ (vo' : Value) (vs' : List Value) (H1 : List (List (List Int))) (j : Nat) (x1 : List Int) (A1 : Option Addr) (c1 : Nat), v1 = .slice A1 x1.length c1 ∧ v4 = .int .i64 (j : Int) ∧ j ≤ 63 ∧ Aside0 (up (fun l r => impl_toy_HashChildren.f k a0 a1 a2 a3 a4 a5 l r) n kq H1 j x1 = some r) ∧ Aside0 (kq ≤ kf) ∧ Aside0 (Tr w' B g (agOf a0 a1 a2 a3 a4 a5) n H1 (fun k => S k ∨ w.heap.size ≤ k) vo' vs') ∧ Aside0 ((Kd.int .u8).R 5 w' B (fun _ => True) v1 x1) ∧ Aside0 (Kept w w' S) ∧ Aside0 (Below B w w'))
 case atStart => exact ⟨vo, vs, H, 0, x, A1, c1, rfl, rfl, by omega, H', ⟨Nat.le_refl _⟩, ⟨HT.out.mono (fun _ h => .inl h)⟩, HX, ⟨Kept.refl _ _⟩, ⟨Below.refl _ _⟩⟩
 case round =>
  clear H'
  obtain ⟨vo', vs', H1, j, x1, A1, c1, rfl, rfl, hj63, HA, HK1, HT1, HX1, HKe, HBe⟩ := hrel
  cases gk with
  | zero => exact absurd HA.out (by simp [up])
  | succ k1 =>
   have H := HA.out
   clear HA
   simp only [up] at H
   obtain ⟨e0, e1, e2⟩ := HT1.out.cell
   have f1 := HT1.out.free 1
   have hbit := bit_at n j hn
   have HLEN := Aside0.mk HT1.out.len
   by_cases c1 : n / 2 ^ j % 2 = 1
   ·rw [if_pos c1] at H
    rw [c1] at hbit
    by_cases c2 : j < H1.length ∧ j < 63 ∧ 0 < (H1.getD j []).length ∧ (H1.getD j []).length < 1099511627776
    ·rw [if_pos c2] at H
     obtain ⟨c2, c3, c4, c5⟩ := c2
     obtain ⟨y, hy, H⟩ := Option.bind_eq_some_iff.mp H
     obtain ⟨go, co, rfl, hco, hBgo, hSgo, hgg⟩ := HT1.out.row (by have := HLEN.out; omega)
     obtain ⟨v, xl, hv, hxl, hL⟩ := HT1.out.at_ c2
     have exl : H1.getD j [] = xl := by rw [List.getD_eq_getElem?_getD, hxl]; rfl
     rw [exl] at hy H c4 c5
     obtain ⟨Av, cv, rfl⟩ := Kd.R_slice hL
     have ec := (HT1.out.rowCell j (by have := HLEN.out; omega)).trans hv
     have ef := HT1.out.rowFree j
     have hj0 : (0 : Int) ≤ (j : Int) := by omega
     have hj1 : (j : Int) < (vs'.length : Int) := by have := HLEN.out; omega
     have H' := Aside0.mk H
     have HY := Aside0.mk hy
     clear H hy
     have HL := Aside0.mk hL
     clear hL
     have NX := Aside0.mk exl
     clear exl
     have NH := Aside0.mk hxl
     have NV := Aside0.mk hv
     clear hxl hv
     have hBw : B ≤ wr.heap.size := Nat.le_trans hB HBe.out.size
     go_wp2_with ((with_reducible refine gate_builtin (b := .append) (xs := #[.tmp 22, .tmp 24]) rfl ?_); at_builtin; refine Kd.R_append (Kd.slice 5 (Kd.int .u8)) (w0 := w) B rfl (.tmp 22) (.tmp 24) 25 27 (.slice none 0 0) 24 rfl Tryd.underlying25 info27 rfl (by decide) (by omega) (Value.slice Av xl.length cv) xl x1 [.slice A1 x1.length _] (fun _ => True) (fun k_ => some k_ ≠ (Value.slice Av xl.length cv).ownBlock) rfl rfl ⟨_, rfl, Kd.R_mono (Kd.R_apart' HX1.out (Kd.R_typed HL.out) (by decide)) (fun _ h_ => h_.2)⟩ (fun _ h_ => ⟨trivial, h_⟩) (fun _ _ => trivial) HL.out HBe.out hBw (by omega) ?_; intro v1 w1 hL1 hb1 hg1 hat1)
     clear ec ef
     obtain ⟨A9, c9, rfl⟩ := Kd.R_slice hL1
     have e9 : (xl ++ [x1]).length = xl.length + 1 := by simp
     rw [e9] at hL1 hat1
     cases A9 with
     | none => 
      obtain ⟨_, inner, ho, _⟩ := hL1
      rcases ho.2 with ⟨_, h0⟩ | ⟨g', cap', cur, hv', _⟩
      ·rw [e9] at h0; omega
      ·cases hv'
     | some ad9 =>
     obtain ⟨g9, rfl⟩ := Kd.R_head hL1
     obtain ⟨cc, hcl, hM, hcell⟩ := Kd.R_getA hL1 ([] : List Int) ((xl.length : Int) - 1) (by omega) (by omega)
     obtain ⟨ve, rfl, hE⟩ := hM
     have ege : (xl ++ [x1]).getD ((xl.length : Int) - 1).toNat [] = xl.getD (xl.length - 1) [] := by
      rw [show ((xl.length : Int) - 1).toNat = xl.length - 1 by omega, List.getD_eq_getElem?_getD, List.getElem?_append_left (by omega), ← List.getD_eq_getElem?_getD]
     rw [ege] at hE
     generalize xl.getD (xl.length - 1) [] = xe at hE HY
     obtain ⟨Ae, ce, rfl⟩ := Kd.R_slice hE
     have ece := hcell 0 _ rfl
     obtain ⟨m1, m2, m3⟩ := HT1.out.mid NV.out c2 hg1
     have em : w1.cell? ⟨g, 0, none⟩ = some (agOf a0 a1 a2 a3 a4 a5) := (blk_cell m1 0).trans rfl
     have ece2 : w1.cell? ⟨g9, ((xl.length : Int) - 1).toNat, none⟩ = some (Value.slice Ae xe.length ce) := by
      have e := ece
      rw [show (Kd.slice 5 (Kd.int .u8)).sz = 1 from rfl, Nat.mul_one, Nat.add_zero, add_at, Nat.zero_add] at e
      exact e
     clear ece
     rw [e9]
     have HE := Aside0.mk hE
     have HL1 := Aside0.mk hL1
     clear hE hL1
     obtain ⟨m, hm⟩ : ∃ m, xl.length = m + 1 := ⟨xl.length - 1, by omega⟩
     rw [show ((xl.length : Int) - 1).toNat = m by omega] at ece2
     have hw1 : IntKind.i64.wrap ((xl.length : Int) + 1 - 2) = (m : Int) := by rw [i64_w]; unfold wrap64; omega
     have hm0 : (0 : Int) ≤ (m : Int) := by omega
     have hm1 : (m : Int) < (xl.length : Int) + 1 := by omega
     have HM := Aside0.mk hm
     clear hm
     unfold agOf at em
     have HXw := Aside0.mk (Kd.R_grown (Kd.R_apart' HX1.out (Kd.R_typed HL.out) (by decide)) hg1 (fun k hk => hk.2))
     go_still_tail 13, (by kernel_rfl)
     go_wp2_with ((with_reducible refine gate_invoke (m := "HashChildren") rfl ?_); refine invokesL_ (some 39) rfl rfl Tryd.func52 (by kernel_rfl) rfl 85 (.agg #[.int .i64 a0, .int .i64 a1, .int .i64 a2, .int .u64 a3, .int .u64 a4, .int .u64 a5]) #[.slice Ae xe.length ce, .slice A1 x1.length _] #[.agg #[.int .i64 a0, .int .i64 a1, .int .i64 a2, .int .u64 a3, .int .u64 a4, .int .u64 a5], .slice Ae xe.length ce, .slice A1 x1.length _] rfl rfl (by first | rfl | (simp only [Act.eval]; rfl)) (by (try simp only [List.map_toArray, List.map_cons, List.map_nil]); first | done | rfl) (fun _ => by kernel_rfl) ?_; (with_reducible refine (impl_toy_HashChildren.calls k a0 a1 a2 a3 a4 a5 _ _ xe _ _ x1 y _ ?side1 ?side2 ?side3 ?side4 HY.out).mono ?_); (case side1 => exact Kd.C_drew (Kd.R_reads' HE.out).2.2); (case side2 => exact (Kd.R_reads' HE.out).2.1); (case side3 => exact Kd.C_drew (Kd.R_reads' HXw.out).2.2); (case side4 => exact (Kd.R_reads' HXw.out).2.1); rintro e w2 ⟨v2, rfl, ho2, hb2⟩; refine ⟨_, rfl, ?_⟩; have hb3 := below_step (below_drew (Below.refl w1.heap.size w1)) hb2; have mk1 := blk_below m1 hb3; have mk2 := pw_own_below m2 hb3; have HL2 := Aside0.mk (Lvl.below HL1.out hb3); have HY2 := Aside0.mk ho2; have HB3 := Aside0.mk hb3; clear ho2 hb2 hb3 HL1 HE; have ev := (blk_cell mk1 2).trans rfl; have ev1 := mk2.frozenAt j; have ev2 := (mk2.cellAt j (by have := HLEN.out; omega)).trans NV.out)
     have hlt1 := Nat.le_trans hBw (Nat.le_trans hg1.size (Nat.le_refl _))
     go_roundg k1
     case measure => have := HK1.out; omega
     case rel =>
      obtain ⟨A2, c2', rfl⟩ := Kd.R_slice HY2.out
      exact ⟨_, _, _, j + 1, y, A2, c2', rfl, by simp, by omega, H',
       ⟨by have := HK1.out; omega⟩,
       ⟨(HT1.out.put NV.out hg1 HB3.out HL2.out hat1).mono (fun k hk => hk.elim id (fun hk => .inr (Nat.le_trans HKe.out.1 hk)))⟩,
       ⟨Kd.R_set (Kd.R_lower HY2.out hlt1) (own_typed mk2 go rfl).choose_spec (by decide) j _⟩,
       ⟨((Kept.of_grown hg1 HKe.out (fun k hk => HT1.out.sv j _ k NV.out hk)).below HB3.out).setCell hSgo _⟩,
       ⟨(below_then hb1 hlt1 HB3.out).setCell hBgo _⟩⟩
    ·rw [if_neg c2] at H
     exact absurd H (by simp)
   ·rw [if_neg c1] at H
    have c1' : n / 2 ^ j % 2 = 0 := by omega
    rw [c1'] at hbit
    clear c1
    by_cases c2 : j < H1.length
    ·rw [if_pos c2] at H
     by_cases c3 : j < 63 ∧ (H1.getD j []).length < 1099511627776
     ·rw [if_pos c3] at H
      obtain ⟨c3, c5⟩ := c3
      have hr := Option.some.inj H
      obtain ⟨go, co, rfl, hco, hBgo, hSgo, hgg⟩ := HT1.out.row (by have := HLEN.out; omega)
      obtain ⟨v, xl, hv, hxl, hL⟩ := HT1.out.at_ c2
      have exl : H1.getD j [] = xl := by rw [List.getD_eq_getElem?_getD, hxl]; rfl
      rw [exl] at c5 hr
      have HR := Aside0.mk hr
      clear hr H
      obtain ⟨Av, cv, rfl⟩ := Kd.R_slice hL
      have ec := (HT1.out.rowCell j (by have := HLEN.out; omega)).trans hv
      have ef := HT1.out.rowFree j
      have hj0 : (0 : Int) ≤ (j : Int) := by omega
      have hj1 : (j : Int) < (vs'.length : Int) := by have := HLEN.out; omega
      have hj2 : ¬ ((vs'.length : Int) < (j : Int)) := by omega
      have hj3 : ((j : Int) == (vs'.length : Int)) = false := by rw [beq_eq_false_iff_ne]; omega
      have HL := Aside0.mk hL
      have NX := Aside0.mk exl
      have NV := Aside0.mk hv
      clear hL exl hxl hv
      have hBw : B ≤ wr.heap.size := Nat.le_trans hB HBe.out.size
      have HTd := Aside0.mk (HT1.out.below (below_drew (Below.refl wr.heap.size wr)))
      go_wp2
      have ne1 : go < wr.heap.size := World.block_lt_of_cell? wr ⟨go, j, none⟩ ec
      have ne2 : g < wr.heap.size := World.block_lt_of_cell? wr ⟨g, 2, none⟩ e2
      have hgg2 : ¬ g = go := fun e => hgg e.symm
      go_region_law
       ((refine Kd.R_append_step (Kd.slice 5 (Kd.int .u8)) (w0 := w) B (by rfl) (.tmp 82) (.tmp 84) 25 27 (.slice none 0 0) 24 (by rfl) Tryd.underlying25 info27 rfl (by decide) (by omega) (Value.slice Av xl.length cv) xl x1 [.slice A1 x1.length _] (fun _ => True) (fun k_ => some k_ ≠ (Value.slice Av xl.length cv).ownBlock) (by rfl) (by rfl) ⟨_, rfl, Kd.R_mono (Kd.R_apart' (Kd.R_drew HX1.out) (Kd.R_typed (Kd.R_drew HL.out)) (by decide)) (fun _ h_ => h_.2)⟩ (fun _ h_ => ⟨trivial, h_⟩) (fun _ _ => trivial) (Kd.R_drew HL.out) (below_drew HBe.out) hBw (by omega) ?_; intro v1 w1 hL1 hb1 hg1 hat1; obtain ⟨A9, c9, rfl⟩ := Kd.R_slice hL1; obtain ⟨m1, m2, m3⟩ := HTd.out.mid NV.out c2 hg1; have ev0 := m2.frozenAt j; have ev1 := (m2.cellAt j (by have := HLEN.out; omega)).trans NV.out; have ev2 := (blk_cell m1 2).trans rfl))
      all_goals
       have e9 : (xl ++ [x1]).length = xl.length + 1 := by simp
       rw [e9] at hL1 hat1
       have hT2 := HTd.out.put NV.out hg1 (Below.refl w1.heap.size w1) hL1 hat1
       obtain ⟨q0, q1, q2⟩ := hT2.cell
       have q3 := hT2.free 1
       have hnw : IntKind.u64.wrap ((n : Int) + 1) = (n : Int) + 1 := by simp [IntKind.wrap_u64]; omega
       have HT2 := Aside0.mk hT2
       have HL1 := Aside0.mk hL1
       clear hT2 hL1
       go_wp2
       go_end0
       have hT3 := (HT2.out.count (n + 1)).mono (S' := fun k => S k ∨ w.heap.size ≤ k) (fun k hk => hk.elim id (fun hk => .inr (Nat.le_trans HKe.out.1 hk)))
       rw [HR.out] at hT3
       exact ⟨rfl, _, _, hT3, ((Kept.of_grown hg1 (HKe.out.drew) (fun k hk => HT1.out.sv j _ k NV.out hk)).setCell hSgo _).setCell HT1.out.sg _, (hb1.setCell hBgo _).setCell HT1.out.base _⟩
     ·rw [if_neg c3] at H
      exact absurd H (by simp)
    ·rw [if_neg c2] at H
     by_cases c3 : j = H1.length ∧ j < 63
     ·rw [if_pos c3] at H
      obtain ⟨c3, c4⟩ := c3
      have HR := Aside0.mk (Option.some.inj H)
      clear H
      obtain ⟨Ao, co0, eo0⟩ : ∃ A c, vo' = .slice A vs'.length c := by
       rcases HT1.out.out.2 with ⟨e, h0⟩ | ⟨go, co, cur, e, _⟩
       ·exact ⟨none, 0, by rw [h0]; exact e⟩
       ·exact ⟨_, co, e⟩
      subst eo0
      have hj2 : ¬ ((vs'.length : Int) < (j : Int)) := by have := HLEN.out; omega
      have hj3 : ((j : Int) == (vs'.length : Int)) = true := by rw [beq_iff_eq]; have := HLEN.out; omega
      have hjv : vs'.length < 63 := by have := HLEN.out; omega
      have hBw : B ≤ wr.heap.size := Nat.le_trans hB HBe.out.size
      have C3 := Aside0.mk c3
      clear c3
      go_wp2_with ((with_reducible refine gate_builtin (b := .append) (xs := #[.tmp 66, .tmp 67]) rfl ?_); at_builtin; refine print_append_cells (w0 := w) B rfl (.tmp 66) (.tmp 67) 134 25 (.slice none 0 0) 1 24 rfl Tryd.underlying134 info_rows rfl (by decide) (by omega) (.slice Ao vs'.length co0) vs'.length vs' [.slice none 0 0] rfl rfl rfl one_nil HT1.out.out HBe.out hBw (by omega) ?_; intro vo1 w1 hO1 hb1 hg1 hat1; obtain ⟨gq, cq, rfl, hBgq⟩ := own_some hO1 (by omega); obtain ⟨er1, er2, er3⟩ := HT1.out.moreBlk hg1)
      have HTm := HT1.out.more hg1 (by rw [List.length_append]; exact hO1) hat1
      have hBw1 : B ≤ w1.heap.size := Nat.le_trans hBw hg1.size
      have HKm := ((Kept.of_grown hg1 HKe.out (fun k hk => HT1.out.so k hk)).setCell (p := ⟨g, 2, none⟩) HT1.out.sg (.slice (some ⟨gq, 0, none⟩) (vs'.length + 1) cq))
      have HBm := hb1.setCell (p := ⟨g, 2, none⟩) HT1.out.base (.slice (some ⟨gq, 0, none⟩) (vs'.length + 1) cq)
      have HXm := Kd.R_set (Kd.R_grown (Kd.R_apart' HX1.out (own_typed HT1.out.out) (by decide)) hg1 (fun k hk => hk.2)) er3 (by decide) 2 (.slice (some ⟨gq, 0, none⟩) (vs'.length + 1) cq)
      have hSz : wr.heap.size ≤ (w1.setCell ⟨g, 2, none⟩ (.slice (some ⟨gq, 0, none⟩) (vs'.length + 1) cq)).heap.size := by simpa using hg1.size
      obtain ⟨vs2, hvs2⟩ : ∃ l, l = vs' ++ [Value.slice none 0 0] := ⟨_, rfl⟩
      obtain ⟨H2, hH2⟩ : ∃ l, l = H1 ++ [([] : List (List Int))] := ⟨_, rfl⟩
      rw [← hvs2, ← hH2] at HTm
      have hl2 : vs2.length = vs'.length + 1 := by rw [hvs2]; simp
      rw [← hl2] at HTm HKm HBm HXm hSz ⊢
      generalize hwq : w1.setCell ⟨g, 2, none⟩ (.slice (some ⟨gq, 0, none⟩) vs2.length cq) = wq at HTm HKm HBm HXm hSz ⊢
      have c3 := C3.out
      have NVq : Aside0 (vs2[j]? = some (Value.slice none 0 0)) := ⟨by rw [hvs2, c3, ← HLEN.out]; simp⟩
      have HRq : Aside0 (H2.set j (([] : List (List Int)) ++ [x1]) = r) := ⟨by rw [hH2, c3, ← HR.out]; simp⟩
      have c2q : j < H2.length := by rw [hH2, c3]; simp
      have hjq0 : (0 : Int) ≤ (j : Int) := by omega
      have hjq1 : (j : Int) < (vs2.length : Int) := by have := HLEN.out; omega
      have hgq : gq ≠ g := by
       obtain ⟨gq', co', e', _, _, _, hgg'⟩ := HTm.row (by omega)
       injection e' with e' _ _
       injection e' with e'
       injection e' with e'
       rw [e']
       exact hgg'
      have hSq : S gq ∨ w.heap.size ≤ gq := (HTm.so gq rfl).elim id (fun hk => .inr (Nat.le_trans HKe.out.1 hk))
      have ecq := (HTm.rowCell j (by omega)).trans NVq.out
      have efq := HTm.rowFree j
      have e2q := HTm.cell.2.2
      have hBq : B ≤ wq.heap.size := Nat.le_trans hBw hSz
      have HLv : Aside0 (Lvl wq B (Value.slice none 0 0) []) := ⟨Kd.R_nil _ _ _ _ _⟩
      have HLq := Aside0.mk HTm.len
      have HTq := Aside0.mk (HTm.mono (S' := fun k => S k ∨ w.heap.size ≤ k) (fun k hk => hk.elim id (fun hk => .inr (Nat.le_trans HKe.out.1 hk))))
      have HKq := Aside0.mk HKm
      have HBq := Aside0.mk HBm
      have HXq := Aside0.mk (Kd.R_mono HXm (fun k _ => trivial : ∀ k, _ → (fun _ => True) k))
      clear HTm HKm HBm HXm hvs2 hH2 hwq hO1 hb1 hg1 hat1 er1 er2 er3 c3 hl2 hSz hBw1
      have HTe := Aside0.mk (HTq.out.below (below_drew (Below.refl wq.heap.size wq)))
      have ne1 : gq < wq.heap.size := World.block_lt_of_cell? wq ⟨gq, j, none⟩ ecq
      have ne2 : g < wq.heap.size := World.block_lt_of_cell? wq ⟨g, 2, none⟩ e2q
      have hgg2 : ¬ g = gq := fun e => hgq e.symm
      go_region_law
       ((refine Kd.R_append_step (Kd.slice 5 (Kd.int .u8)) (w0 := w) B (by rfl) (.tmp 82) (.tmp 84) 25 27 (.slice none 0 0) 24 (by rfl) Tryd.underlying25 info27 rfl (by decide) (by omega) (Value.slice none 0 0) ([] : List (List Int)) x1 [.slice A1 x1.length _] (fun _ => True) (fun k_ => some k_ ≠ (Value.slice none 0 0).ownBlock) (by rfl) (by rfl) ⟨_, rfl, Kd.R_mono (Kd.R_apart' (Kd.R_drew HXq.out) (Kd.R_typed (Kd.R_drew HLv.out)) (by decide)) (fun _ h_ => h_.2)⟩ (fun _ h_ => ⟨trivial, h_⟩) (fun _ _ => trivial) (Kd.R_drew HLv.out) (below_drew HBq.out) hBq (by simp) ?_; intro v1 w3 hL2 hb2 hg2 hat2; obtain ⟨A9, c9, rfl⟩ := Kd.R_slice hL2; obtain ⟨m4, m5, m6⟩ := HTe.out.mid NVq.out c2q hg2; have ev0 := m5.frozenAt j; have ev1 := (m5.cellAt j (by have := HLq.out; omega)).trans NVq.out; have ev2 := (blk_cell m4 2).trans rfl))
      all_goals
       have e9 : (([] : List (List Int)) ++ [x1]).length = 1 := by simp
       rw [e9] at hL2 hat2
       have hT2 := HTe.out.put NVq.out hg2 (Below.refl w3.heap.size w3) hL2 hat2
       obtain ⟨q0, q1, q2⟩ := hT2.cell
       have q3 := hT2.free 1
       have hnw : IntKind.u64.wrap ((n : Int) + 1) = (n : Int) + 1 := by simp [IntKind.wrap_u64]; omega
       have HT2 := Aside0.mk hT2
       have HL1 := Aside0.mk hL2
       clear hT2 hL2
       go_wp2
       go_end0
       have hT3 := (HT2.out.count (n + 1)).mono (S' := fun k => S k ∨ w.heap.size ≤ k) (fun k hk => hk.elim id (fun hk => .inr (Nat.le_trans HKq.out.1 hk)))
       rw [HRq.out] at hT3
       exact ⟨rfl, _, _, hT3, ((Kept.of_grown hg2 (HKq.out.drew) (fun k hk => HTq.out.sv j _ k NVq.out hk)).setCell hSq _).setCell HTq.out.sg _, (hb2.setCell hBgq _).setCell HTq.out.base _⟩
     ·rw [if_neg c3] at H
      exact absurd H (by simp)

set_option linter.unusedVariables false
set_option linter.unusedSimpArgs false

def inH (H : List (List (List Int))) (s : S106) : Prop := 0 ≤ s.f0 ∧ s.f0 < (H.length : Int) ∧ 0 ≤ s.f1 ∧ s.f1 < ((H.getD s.f0.toNat []).length : Int)
instance (H : List (List (List Int))) (s : S106) : Decidable (inH H s) := by unfold inH; infer_instance
def valH (H : List (List (List Int))) (s : S106) : List Int := (H.getD s.f0.toNat []).getD s.f1.toNat []
theorem R_putrow {W : World} {B gh n cap : Nat} {xs : List (List Int)} (h : (Kd.slice 5 (Kd.int .u8)).R 27 W B (fun _ => True) (.slice (some ⟨gh, 0, none⟩) n cap) xs) {i : Nat} (hi : i < xs.length) {u : Value} {x : List Int}
  (hu : (Kd.int .u8).R 5 W B (fun _ => True) u x) : (Kd.slice 5 (Kd.int .u8)).R 27 (W.setCell ⟨gh, i, none⟩ u) B (fun _ => True) (.slice (some ⟨gh, 0, none⟩) n cap) (xs.set i x) := by
 have hty := Kd.R_typed h
 have hn := (Kd.R_reads' h).1
 subst hn
 obtain ⟨h0, inner, ho, hr⟩ := h
 have hs := (ho.stored i u).1
 have hinn : inner.length = xs.length := by rw [hr.1]; simp [Kd.slice]
 refine ⟨fun _ _ => trivial, inner.set i u, by rw [List.length_set]; exact hs, ?_⟩
 have h1 := hr.imp_ (R' := (Kd.slice 5 (Kd.int .u8)).M (W.setCell ⟨gh, i, none⟩ u) B (fun k => True ∧ some k ≠ (Value.slice (some ⟨gh, 0, none⟩) xs.length cap).ownBlock))
  (fun p c hp => Kd.M_far hp (fun k hk e => hk.2 (by simp [Value.ownBlock, e])) u)
 have hM : (Kd.slice 5 (Kd.int .u8)).M (W.setCell ⟨gh, i, none⟩ u) B (fun k => True ∧ some k ≠ (Value.slice (some ⟨gh, 0, none⟩) xs.length cap).ownBlock) x [u] :=
  ⟨u, rfl, Kd.R_far (p := ⟨gh, i, none⟩) (Kd.R_apart' hu hty (by decide)) (fun k hk e => hk.2 (by simp [Value.ownBlock, e])) u⟩
 have h2 := Kd.reps_set h1 hi hM rfl
 have e : inner.take (i * 1) ++ [u] ++ inner.drop ((i + 1) * 1) = inner.set i u := by
  rw [Nat.mul_one, Nat.mul_one, List.set_eq_take_append_cons_drop, if_pos (by omega)]
  simp
 rw [← e]
 exact h2
theorem cell_far {w : World} {p a : Addr} {u v : Value} (h : w.cell? a = some v) (hne : ¬ a.block = p.block) : (w.setCell p u).drew.cell? a = some v := (World.cell?_of_block (w := w) (w' := (w.setCell p u).drew) (Below.heap_setCell w p u a.block hne)).trans h
set_option maxHeartbeats 4000000 in
set_option maxRecDepth 100000 in
theorem getNodes_calls (B g n : Nat) (ag : Value) (H : List (List (List Int))) (S : Nat → Prop) (vo : Value) (vs : List Value) (A1 : Option Addr) (c1 : Nat) (ids : List S106) (w : World)
  (hT : Tr w B g ag n H S vo vs) (hI : Kd.C k106 w A1 ids.length ids) (hB : B ≤ w.heap.size) (hl : ids.length < 1099511627776) (hin : ∀ s ∈ ids, inH H s) :
  Calls Tryd.prog 78 #[.pointer (some ⟨g, 0, none⟩), .slice A1 ids.length c1] w fun e w' => ∃ v0, e = .returned v0 ∧ (Kd.slice 5 (Kd.int .u8)).R 27 w' B (fun _ => True) v0 (ids.map (valH H)) ∧ Below w.heap.size w w' ∧ ∀ k_, v0.ownBlock = some k_ → w.heap.size ≤ k_ := by
 have HC := Aside0.mk hI
 have HT := Aside0.mk hT
 have HI := Aside0.mk hin
 clear hT hI hin
 go_enter Tryd.func78, Tryd.ntmps78
 have hl0 : (0 : Int) ≤ (ids.length : Int) := by omega
 go_wp2_with ((with_reducible refine gate_dst (N := 10) rfl ?_); refine Kd.R_make (Kd.slice 5 (Kd.int .u8)) (w0 := w) B 27 rfl (N := 10) rfl 25 (.tmp 9) (.tmp 9) rfl (ids.length : Int) rfl rfl Tryd.underlying25 (.slice none 0 0) 24 info27 rfl (by decide) (by omega) ([] : List Int) (ok := fun _ => True) (okp := fun _ => True) ⟨_, rfl, Kd.R_nil _ _ _ _ _⟩ (fun _ h => h) trivial hl0 (by rw [Int.toNat_natCast]; omega) (Below.refl B w |> fun h => ⟨h.os, h.tape, h.output, h.size, fun k hk => rfl⟩) hB ?_; intro v1 w1 hR hb hg hat)
 rw [Int.toNat_natCast] at hR
 have e1 : (List.replicate ids.length ([] : List Int)).length = ids.length := List.length_replicate
 obtain ⟨Ah, ch, eh⟩ := Kd.R_slice hR
 rw [e1] at eh
 subst eh
 obtain ⟨gh, egh, hgh⟩ := hat
 cases Ah with
 | none => simp [Value.ownBlock] at egh
 | some ad =>
 obtain ⟨g', rfl⟩ := Kd.R_head hR
 have eg : g' = gh := by simpa [Value.ownBlock] using egh
 subst eg
 clear egh
 have hB1 : Below w.heap.size w w1 := ⟨hg.os, hg.tape, hg.output, hg.size, fun k hk => hg.block k hk (by simp)⟩
 have HR := Aside0.mk hR
 have HB1 := Aside0.mk hB1
 clear hR hB1 hb hg
 go_loopg [13] (ids.length + 1) (fun kq v13 w' => ∃ (i : Nat) (xs' : List (List Int)), v13 = .int .i64 (i : Int) ∧ i ≤ ids.length ∧ Aside0 (kq = ids.length + 1 - i) ∧ Aside0 (xs'.length = ids.length ∧ ∀ i', i' < i → xs'[i']? = (ids.map (valH H))[i']?) ∧ Aside0 ((Kd.slice 5 (Kd.int .u8)).R 27 w' B (fun _ => True) (.slice (some ⟨g', 0, none⟩) ids.length ch) xs') ∧ Aside0 (Below w.heap.size w w'))
 case atStart => exact ⟨0, _, rfl, by omega, ⟨by omega⟩, ⟨e1, fun i' h => by omega⟩, HR, HB1⟩
 case round =>
  clear HR HB1
  obtain ⟨i, xs', rfl, hi, HK1, HXS, HR, HBw⟩ := hrel
  cases gk with
  | zero => exact absurd HK1.out (by omega)
  | succ k1 =>
   by_cases c1' : i < ids.length
   ·have hi0 : (0 : Int) ≤ (i : Int) := by omega
    have hi1 : (i : Int) < (ids.length : Int) := by omega
    obtain ⟨ad1, rfl, hc0, hc1⟩ := at_T106 (Kd.C_below HC.out HBw.out) (i : Int) hi0 hi1
    rw [Int.toNat_natCast] at hc0 hc1
    have es : rd_T106 ids (i : Int) = ids[i] := by unfold rd_T106; simp [c1']
    rw [es] at hc0 hc1
    obtain ⟨q0, q1, q2, q3⟩ := HI.out ids[i] (List.getElem_mem c1')
    have ev : valH H ids[i] = (H.getD ids[i].f0.toNat []).getD ids[i].f1.toNat [] := rfl
    have hgetv : (ids.map (valH H))[i]? = some (valH H ids[i]) := by rw [List.getElem?_map, List.getElem?_eq_getElem c1']; rfl
    obtain ⟨l, hl'⟩ := Int.eq_ofNat_of_zero_le q0
    obtain ⟨m, hm'⟩ := Int.eq_ofNat_of_zero_le q2
    rw [hl', Int.toNat_natCast] at q3
    rw [hl'] at hc0 q1
    rw [hm'] at hc1 q3
    rw [hl', hm', Int.toNat_natCast, Int.toNat_natCast] at ev
    obtain ⟨w3, hw3⟩ : ∃ w3, w3 = wr.alloc (.cells #[Value.int .u64 (l : Int), Value.int .u64 (m : Int)] 106) := ⟨_, rfl⟩
    have hB3 : Below w.heap.size w w3 := by rw [hw3]; exact below_alloc HBw.out _
    have hBr3 : Below wr.heap.size wr w3 := by rw [hw3]; exact below_alloc (Below.refl _ _) _
    have hT3 := HT.out.below hB3
    have hlenv : vs.length = H.length := hT3.len
    obtain ⟨go, co, rfl, hco, hBgo, hSgo, hgg⟩ := hT3.row (by omega)
    obtain ⟨vl, xl, hv, hxl, hL⟩ := hT3.at_ (j := l) (by omega)
    have exl : H.getD l [] = xl := by rw [List.getD_eq_getElem?_getD, hxl]; rfl
    rw [exl] at q3 ev
    obtain ⟨Al, cl, rfl⟩ := Kd.R_slice hL
    cases Al with
    | none =>
     exfalso
     obtain ⟨_, inner, ho, _⟩ := hL
     rcases ho.2 with ⟨_, h0⟩ | ⟨g', cap', cur, hv', _⟩
     ·omega
     ·cases hv'
    | some adl =>
    obtain ⟨gl, rfl⟩ := Kd.R_head hL
    obtain ⟨cc, hcl, hM, hcell⟩ := Kd.R_getA hL ([] : List Int) (m : Int) (by omega) (by omega)
    obtain ⟨ve, rfl, hE⟩ := hM
    have ecl : w3.cell? ⟨gl, m, none⟩ = some ve := by
     have e := hcell 0 _ rfl
     rw [show (Kd.slice 5 (Kd.int .u8)).sz = 1 from rfl, Nat.mul_one, Nat.add_zero, add_at, Nat.zero_add, Int.toNat_natCast] at e
     exact e
    rw [Int.toNat_natCast, ← ev] at hE
    clear hcell hcl
    have ecg := hT3.cell.2.2
    have ecl2 := (hT3.rowCell l (by omega)).trans hv
    have hgl : gl < w.heap.size := by
     obtain ⟨v', x', hv', hx', hL'⟩ := HT.out.at_ (j := l) (by omega)
     rw [hv] at hv'
     cases hv'
     obtain ⟨inn, ho⟩ := hL'.own
     exact own_lt ho gl rfl
    have hgo : go < w.heap.size := own_lt HT.out.out go rfl
    have hg0 : g < w.heap.size := blk_lt HT.out.blk
    have hR3 := Kd.R_below HR.out hBr3
    have hg'r : g' < wr.heap.size := Kd.R_lt HR.out g' rfl
    obtain ⟨inner, hown⟩ := Kd.R_own hR3
    have hown : w3.ownsRow B 27 1 (.slice (some ⟨g', 0, none⟩) ids.length ch) ids.length inner := by rw [HXS.out.1] at hown; exact hown
    have eci := hown.cellAt i (by omega)
    have efi := hown.frozenAt i
    have hil : inner.length = ids.length := by have := hown.1; omega
    obtain ⟨u0, hu0⟩ : ∃ u0, inner[i]? = some u0 := ⟨_, List.getElem?_eq_getElem (by omega)⟩
    rw [hu0] at eci
    obtain ⟨Ae, ce, rfl⟩ := Kd.R_slice hE
    have ecb0 : w3.cell? ⟨wr.heap.size, 0, none⟩ = some (.int .u64 (l : Int)) := by rw [hw3]; exact (blk_cell (blk_new wr _) 0).trans rfl
    have ecb1 : w3.cell? ⟨wr.heap.size, 1, none⟩ = some (.int .u64 (m : Int)) := by rw [hw3]; exact (blk_cell (blk_new wr _) 1).trans rfl
    have n1 : ¬ g = g' := by omega
    have n2 : ¬ go = g' := by omega
    have n3 : ¬ gl = g' := by omega
    have n4 : ¬ wr.heap.size = g' := by omega
    have HE := Aside0.mk (Kd.R_mono (ok' := fun _ => True) hE (fun _ _ => trivial))
    have HR3 := Aside0.mk hR3
    have HB3 := Aside0.mk hB3
    have HGV := Aside0.mk hgetv
    have il1 : (l : Int) < (vs.length : Int) := by omega
    have il0 : (0 : Int) ≤ (l : Int) := by omega
    have im0 : (0 : Int) ≤ (m : Int) := by omega
    clear hE hR3 hB3 hBr3 hT3 hL ev hgetv hxl exl hv hown hil hco hu0
    go_wp2
    rw [← hw3]
    clear hw3
    generalize wr.heap.size = b at ecb0 ecb1 n4 hg'r ⊢
    go_region_held3 (fun w' => w'.cell? ⟨g, 2, none⟩ = some (.slice (some ⟨go, 0, none⟩) vs.length co) ∧ w'.cell? ⟨go, l, none⟩ = some (.slice (some ⟨gl, 0, none⟩) xl.length cl) ∧ w'.cell? ⟨gl, m, none⟩ = some (.slice Ae (valH H ids[i]).length ce) ∧ w'.cell? ⟨b, 0, none⟩ = some (.int .u64 (l : Int)) ∧ w'.cell? ⟨b, 1, none⟩ = some (.int .u64 (m : Int))) (first | exact ⟨cell_far ecg n1, cell_far ecl2 n2, cell_far ecl n3, cell_far ecb0 n4, cell_far ecb1 n4⟩ | go_keep) (fail)
    go_wp2
    go_roundg k1
    case measure => have := HK1.out; omega
    case rel =>
     have hHE : (Kd.int .u8).R 5 w3 B (fun _ => True) (.slice Ae (valH H ids[i]).length ce) (valH H ids[i]) := HE.out
     refine ⟨i + 1, xs'.set i (valH H ids[i]), by simp, by omega, ⟨by have := HK1.out; omega⟩, ⟨by rw [List.length_set]; exact HXS.out.1, ?_⟩, ⟨?_⟩, ⟨?_⟩⟩
     ·intro i' hi'
      by_cases e : i' = i
      ·subst e
       rw [List.getElem?_set_self (by have := HXS.out.1; omega), HGV.out]
      ·rw [List.getElem?_set_ne (Ne.symm e)]
       exact HXS.out.2 i' (by omega)
     ·exact Kd.R_drew (R_putrow HR3.out (by have := HXS.out.1; omega) hHE)
     ·exact (below_drew HB3.out).setCell hgh _
   ·have ei : i = ids.length := by omega
    subst ei
    have hnlt : ¬ ((ids.length : Int) < (ids.length : Int)) := by omega
    go_wp2
    go_ret
    have e : xs' = ids.map (valH H) := by
     apply List.ext_getElem?
     intro i'
     by_cases hi' : i' < ids.length
     ·exact HXS.out.2 i' hi'
     ·rw [List.getElem?_eq_none (by have := HXS.out.1; omega), List.getElem?_eq_none (by simp; omega)]
    have hR := HR.out
    rw [e] at hR
    exact ⟨_, rfl, hR, HBw.out, fun k_ hk_ => (show g' = k_ by simpa [Value.ownBlock] using hk_) ▸ hgh⟩

set_option linter.unusedVariables false
set_option linter.unusedSimpArgs false

def adds (hc : List Int → List Int → Option (List Int)) (kf : Nat) : Nat → List (List (List Int)) → List (List Int) → Option (List (List (List Int)))
 | _, H, [] => some H
 | n, H, x :: rest => if n < 4611686018427387904 then (up hc n kf H 0 x).bind fun H' => adds hc kf (n + 1) H' rest else none

set_option maxHeartbeats 4000000 in
set_option maxRecDepth 100000 in
theorem new_calls (ag : Value) (hag : ∃ t v, ag = .iface t v) (w : World) :
  Calls Tryd.prog 44 #[ag] w fun e w' => e = .returned (.pointer (some ⟨w.heap.size, 0, none⟩)) ∧ Tr w' w.heap.size w.heap.size ag 0 [] (fun k => k = w.heap.size) (.slice none 0 0) [] ∧ Below w.heap.size w w' := by
 obtain ⟨t, v, rfl⟩ := hag
 go_enter Tryd.func44, Tryd.ntmps44
 go_wp2
 go_ret
 refine ⟨rfl, ⟨blk_new w _, Nat.le_refl _, World.ownsRow_nil _ _ _ _, rfl, ?_, ?_, rfl, ?_, ?_⟩, below_alloc (Below.refl _ _) _⟩
 ·intro j v x h1 _; simp at h1
 ·intro i j u v k _ h1 _ _; simp at h1
 ·intro k hk; simp [Value.ownBlock] at hk
 ·intro j v k h1 _; simp at h1

set_option maxHeartbeats 4000000 in
set_option maxRecDepth 100000 in
theorem append_calls (k kf : Nat) (a0 a1 a2 a3 a4 a5 : Int) (B g n : Nat) (H r : List (List (List Int))) (S : Nat → Prop) (vo : Value) (vs : List Value) (v : Value) (xs : List (List Int)) (w : World)
  (hT : Tr w B g (agOf a0 a1 a2 a3 a4 a5) n H S vo vs) (hx : (Kd.slice 5 (Kd.int .u8)).R 27 w B (fun k => ¬ S k) v xs) (hB : B ≤ w.heap.size) (hl : xs.length < 1099511627776)
  (h : adds (fun l r => impl_toy_HashChildren.f k a0 a1 a2 a3 a4 a5 l r) kf n H xs = some r) :
  Calls Tryd.prog 45 #[.pointer (some ⟨g, 0, none⟩), v] w fun e w' => e = .returned (.tuple #[]) ∧ ∃ vo' vs', Tr w' B g (agOf a0 a1 a2 a3 a4 a5) (n + xs.length) r (fun k => S k ∨ w.heap.size ≤ k) vo' vs' ∧ Kept w w' S ∧ Below B w w' := by
 obtain ⟨A1, c1, rfl⟩ := Kd.R_slice hx
 have HT := Aside0.mk hT
 have HX := Aside0.mk (Kd.R_mono (ok' := fun k => ¬ S k ∧ k < w.heap.size) (Kd.R_bound hx) (fun k hk => ⟨hk.1, hk.2.2.1⟩))
 have H' := Aside0.mk h
 clear hT hx h
 go_enter Tryd.func45, Tryd.ntmps45
 go_wp2
 go_loopg [8] (xs.length + 1) (fun kq v8 w' => ∃ (vo' : Value) (vs' : List Value) (H1 : List (List (List Int))) (i : Nat), v8 = .int .i64 (i : Int) ∧ i ≤ xs.length ∧ Aside0 (adds (fun l r => impl_toy_HashChildren.f k a0 a1 a2 a3 a4 a5 l r) kf (n + i) H1 (xs.drop i) = some r) ∧ Aside0 (kq = xs.length + 1 - i) ∧ Aside0 (Tr w' B g (agOf a0 a1 a2 a3 a4 a5) (n + i) H1 (fun k => S k ∨ w.heap.size ≤ k) vo' vs') ∧ Aside0 ((Kd.slice 5 (Kd.int .u8)).R 27 w' B (fun k => ¬ S k ∧ k < w.heap.size) (.slice A1 xs.length c1) xs) ∧ Aside0 (Kept w w' S) ∧ Aside0 (Below B w w'))
 case atStart => exact ⟨vo, vs, H, 0, rfl, by omega, H', ⟨by omega⟩, ⟨HT.out.mono (fun _ h => .inl h)⟩, HX, ⟨Kept.refl _ _⟩, ⟨Below.refl _ _⟩⟩
 case round =>
  clear H'
  obtain ⟨vo', vs', H1, i, rfl, hi, HA, HK1, HT1, HX1, HKe, HBe⟩ := hrel
  cases gk with
  | zero => exact absurd HK1.out (by omega)
  | succ k1 =>
   have hbw : B ≤ wr.heap.size := Nat.le_trans hB HBe.out.size
   by_cases c1' : i < xs.length
   ·have hx0 : xs.drop i = xs[i] :: xs.drop (i + 1) := List.drop_eq_getElem_cons c1'
    have H := HA.out
    rw [hx0] at H
    simp only [adds] at H
    by_cases c2 : n + i < 4611686018427387904
    ·rw [if_pos c2] at H
     obtain ⟨H2, hH2, H⟩ := Option.bind_eq_some_iff.mp H
     have HU := Aside0.mk hH2
     have HN := Aside0.mk H
     clear H hH2 HA hx0
     have hi0 : (0 : Int) ≤ (i : Int) := by omega
     have hi1 : (i : Int) < (xs.length : Int) := by omega
     cases A1 with
     | none =>
      exfalso
      obtain ⟨_, inner, ho, _⟩ := HX1.out
      rcases ho.2 with ⟨_, h0⟩ | ⟨g', cap', cur, hv', _⟩
      ·omega
      ·cases hv'
     | some ad =>
     obtain ⟨gx, rfl⟩ := Kd.R_head HX1.out
     obtain ⟨cc, hcl, hM, hcell⟩ := Kd.R_getA HX1.out ([] : List Int) (i : Int) hi0 hi1
     obtain ⟨ve, rfl, hE⟩ := hM
     rw [show xs.getD (i : Int).toNat [] = xs[i] by simp [c1']] at hE
     have ecx : wr.cell? ⟨gx, i, none⟩ = some ve := by
      have e := hcell 0 _ rfl
      rw [show (Kd.slice 5 (Kd.int .u8)).sz = 1 from rfl, Nat.mul_one, Nat.add_zero, add_at, Nat.zero_add, Int.toNat_natCast] at e
      exact e
     clear hcell hcl
     have HE := Aside0.mk (Kd.R_mono (ok' := fun _ => True) hE (fun _ _ => trivial))
     clear hE
     go_wp2_with (go_at_call 77; (with_reducible refine (appendImpl_calls k kf a0 a1 a2 a3 a4 a5 B g (n + i) H1 H2 (fun k => S k ∨ w.heap.size ≤ k) vo' vs' ve xs[i] wr HT1.out HE.out hbw c2 HU.out).mono ?_); rintro e w1 ⟨rfl, vo1, vs1, hT1, hK1, hB1⟩)
     go_roundg k1
     case measure => have := HK1.out; omega
     case rel =>
      refine ⟨vo1, vs1, H2, i + 1, by simp, by omega, ⟨HN.out⟩, ⟨by have := HK1.out; omega⟩, ⟨hT1.mono (fun k hk => hk.elim id (fun hk => .inr (Nat.le_trans HKe.out.1 hk)))⟩, ⟨?_⟩, ⟨?_⟩, ⟨?_⟩⟩
      ·exact Kd.R_kept HX1.out hK1 (fun k hk hs => hs.elim hk.1 (fun h2 => by omega))
      ·exact HKe.out.then_ hK1 (fun k hk => hk)
      ·exact HBe.out.trans hB1
    ·rw [if_neg c2] at H
     exact absurd H (by simp)
   ·have ei : i = xs.length := by omega
    subst ei
    have H := HA.out
    rw [List.drop_length] at H
    simp only [adds] at H
    have HR := Aside0.mk (Option.some.inj H)
    clear H
    have hnlt : ¬ ((xs.length : Int) < (xs.length : Int)) := by omega
    go_wp2
    go_end0
    have hT2 := HT1.out
    rw [HR.out] at hT2
    exact ⟨rfl, ⟨_, _, hT2⟩, HKe.out, HBe.out⟩

theorem up_mono {hc hc' : List Int → List Int → Option (List Int)} (hm : ∀ a b, LeO (hc a b) (hc' a b)) (n : Nat) : ∀ (k : Nat) (H : List (List (List Int))) (j : Nat) (x : List Int), LeO (up hc n k H j x) (up hc' n (k + 1) H j x)
 | 0, H, j, x => fun r h => by simp [up] at h
 | k + 1, H, j, x => by
  rw [up, up]
  repeat' first
   | exact hm _ _
   | exact up_mono hm n k _ _ _
   | exact LeO.refl _
   | refine LeO.ite ?_ ?_
   | refine LeO.bind ?_ (fun _ => ?_)
theorem adds_mono {hc hc' : List Int → List Int → Option (List Int)} (hm : ∀ a b, LeO (hc a b) (hc' a b)) (kf : Nat) : ∀ (xs : List (List Int)) (n : Nat) (H : List (List (List Int))), LeO (adds hc kf n H xs) (adds hc' (kf + 1) n H xs)
 | [], n, H => by rw [adds, adds]; exact LeO.refl _
 | x :: rest, n, H => by
  rw [adds, adds]
  repeat' first
   | exact up_mono hm _ _ _ _ _
   | exact adds_mono hm kf rest _ _
   | exact LeO.refl _
   | refine LeO.ite ?_ ?_
   | refine LeO.bind ?_ (fun _ => ?_)
def inclH (k : Nat) (a0 a1 a2 a3 a4 a5 : Int) (H : List (List (List Int))) (i s : Int) : Option (List (List Int)) :=
 (proof_Inclusion.f k i s).bind fun n => if n.2.2.2.2.2.isNone = true then
  (if (∀ q ∈ n.1, inH H q) ∧ 0 ≤ n.2.1 ∧ n.2.1 ≤ n.2.2.1 ∧ n.2.2.1 ≤ (n.1.length : Int) ∧ n.1.length < 1099511627776 then
   rhGo (fun l r => impl_toy_HashChildren.f k a0 a1 a2 a3 a4 a5 l r) n.2.1.toNat n.2.2.1.toNat (n.1.length + 1) 0 [] (n.1.map (valH H)) else none) else none
def impl_TreeInclusion.f (k : Nat) (a0_0 a0_1 a0_2 a0_3 a0_4 a0_5 : Int) (l1 : List (List Int)) (a2 a3 : Int) : Option (List (List Int) × Bool) :=
 if IntKind.u64.wrap (l1.length : Int) < a3 then some ([], false) else if a3 ≤ a2 then some ([], false) else
  (impl_texts.f k l1).bind fun l => if l.length < 1099511627776 then (adds (fun l r => impl_toy_HashChildren.f k a0_0 a0_1 a0_2 a0_3 a0_4 a0_5 l r) k 0 [] l).bind fun H => (inclH k a0_0 a0_1 a0_2 a0_3 a0_4 a0_5 H a2 a3).bind fun r => (impl_texts.f k r).bind fun q => some (q, true) else none
theorem impl_TreeInclusion.mono : ∀ a0_0 a0_1 a0_2 a0_3 a0_4 a0_5 l1 a2 a3 k, LeO (impl_TreeInclusion.f k a0_0 a0_1 a0_2 a0_3 a0_4 a0_5 l1 a2 a3) (impl_TreeInclusion.f (k + 1) a0_0 a0_1 a0_2 a0_3 a0_4 a0_5 l1 a2 a3) := by
 intro a0_0 a0_1 a0_2 a0_3 a0_4 a0_5 l1 a2 a3 k
 unfold impl_TreeInclusion.f inclH
 repeat' first
  | exact impl_texts.mono _ _
  | exact proof_Inclusion.mono _ _ _
  | exact adds_mono (fun _ _ => impl_toy_HashChildren.mono _ _ _ _ _ _ _ _ _) _ _ _ _
  | exact rhGo_mono (fun _ _ => impl_toy_HashChildren.mono _ _ _ _ _ _ _ _ _) _ _ _ _ _ _
  | exact LeO.refl _
  | refine LeO.ite ?_ ?_
  | refine LeO.bind ?_ (fun _ => ?_)
def HeldIP (gb g : Nat) (A2 : Option Addr) (n c2 b e : Nat) (lv ix : Int) (ag : Value) (w : World) : Prop :=
 w.cell? ⟨gb, 0, none⟩ = some (.slice A2 n c2) ∧ w.cell? ⟨gb, 1, none⟩ = some (.int .i64 (b : Int)) ∧ w.cell? ⟨gb, 2, none⟩ = some (.int .i64 (e : Int)) ∧ w.cell? ⟨gb, 3, none⟩ = some (.int .u64 lv) ∧ w.cell? ⟨gb, 4, none⟩ = some (.int .u64 ix) ∧ w.cell? ⟨g, 0, none⟩ = some ag
theorem HeldIP.below {gb g : Nat} {A2 : Option Addr} {n c2 b e : Nat} {lv ix : Int} {ag : Value} {w w' : World} {B : Nat} (h : HeldIP gb g A2 n c2 b e lv ix ag w) (hb : Below B w w') (h1 : gb < B) (h2 : g < B) : HeldIP gb g A2 n c2 b e lv ix ag w' :=
 ⟨(hb.cell (p := ⟨gb, 0, none⟩) h1).trans h.1, (hb.cell (p := ⟨gb, 1, none⟩) h1).trans h.2.1, (hb.cell (p := ⟨gb, 2, none⟩) h1).trans h.2.2.1, (hb.cell (p := ⟨gb, 3, none⟩) h1).trans h.2.2.2.1, (hb.cell (p := ⟨gb, 4, none⟩) h1).trans h.2.2.2.2.1, (hb.cell (p := ⟨g, 0, none⟩) h2).trans h.2.2.2.2.2⟩
theorem toy_meth (a0 a1 a2 a3 a4 a5 : Int) : IsFn Tryd.prog (.func (.method "HashChildren") #[.iface 85 (.agg #[.int .i64 a0, .int .i64 a1, .int .i64 a2, .int .u64 a3, .int .u64 a4, .int .u64 a5])] #[]) 52 (.agg #[.int .i64 a0, .int .i64 a1, .int .i64 a2, .int .u64 a3, .int .u64 a4, .int .u64 a5]) :=
 isFn_method Tryd.func52 (by kernel_rfl) rfl 85 _ "HashChildren" (fun _ => by kernel_rfl)
set_option maxHeartbeats 8000000 in
set_option maxRecDepth 100000 in
theorem inclusionProof_calls (k : Nat) (a0 a1 a2 a3 a4 a5 : Int) (B g n : Nat) (H : List (List (List Int))) (S : Nat → Prop) (vo : Value) (vs : List Value) (i s : Int) (r : List (List Int)) (w : World)
  (hT : Tr w B g (agOf a0 a1 a2 a3 a4 a5) n H S vo vs) (hB : B ≤ w.heap.size) (hTab : TabOK w) (h : inclH k a0 a1 a2 a3 a4 a5 H i s = some r) :
  Calls Tryd.prog 72 #[.pointer (some ⟨g, 0, none⟩), .int .u64 i, .int .u64 s] w fun e w' => ∃ v0, e = .returned (.tuple #[v0, .nilIface]) ∧ (Kd.slice 5 (Kd.int .u8)).R 27 w' B (fun _ => True) v0 r ∧ Below w.heap.size w w' := by
 have HT := Aside0.mk hT
 have HTab := Aside0.mk hTab
 have HBw := Aside0.mk hB
 have HGw := Aside0.mk (blk_lt hT.blk)
 clear hT hTab hB
 unfold inclH at h
 obtain ⟨⟨ids, b, e, lv, ix, er⟩, hn, h⟩ := Option.bind_eq_some_iff.mp h
 have HN := Aside0.mk hn
 clear hn
 dsimp only at h
 cases er with
 | some q =>
  simp only [Option.isNone_some, Bool.false_eq_true, if_false] at h
  exact absurd h (by simp)
 | none =>
  simp only [Option.isNone_none, if_true] at h
  by_cases c1 : (∀ q ∈ ids, inH H q) ∧ 0 ≤ b ∧ b ≤ e ∧ e ≤ (ids.length : Int) ∧ ids.length < 1099511627776
  case neg => rw [if_neg c1] at h; exact absurd h (by simp)
  rw [if_pos c1] at h
  obtain ⟨e1, e2, e3, e4, e5⟩ := c1
  obtain ⟨b, rfl⟩ : ∃ n : Nat, b = (n : Int) := ⟨b.toNat, by omega⟩
  obtain ⟨e, rfl⟩ : ∃ n : Nat, e = (n : Int) := ⟨e.toNat, by omega⟩
  rw [Int.toNat_natCast, Int.toNat_natCast] at h
  have HL : (ids.map (valH H)).length = ids.length := List.length_map _
  have HRr := Aside0.mk (show rhGo (fun l r => impl_toy_HashChildren.f k a0 a1 a2 a3 a4 a5 l r) b e ((ids.map (valH H)).length + 1) 0 [] (ids.map (valH H)) = some r by rw [HL]; exact h)
  have E1 := Aside0.mk e1
  have E2 := Aside0.mk HL
  have E3 := Aside0.mk (show b ≤ e by omega)
  have E4 := Aside0.mk (show e ≤ (ids.map (valH H)).length by rw [HL]; omega)
  have E5 := Aside0.mk e5
  have E6 := Aside0.mk (show (ids.map (valH H)).length < 1099511627776 by rw [HL]; exact e5)
  clear h e1 e2 e3 e4 e5 HL
  go_enter Tryd.func72, Tryd.ntmps72
  go_wp2_with (first
   | (go_at_call 106; (with_reducible refine (proof_Inclusion.calls k i s ids b e lv ix none w HTab.out HN.out).mono ?_); rintro e' w2 ⟨T_, X_, v2, rfl, hV2, hB2⟩; obtain ⟨A2, c2, rfl⟩ := Kd.V_slice hV2; have HV2 := Aside0.mk (Kd.V_reads' hV2).2.2; have HB2 := Aside0.mk hB2; clear hV2 hB2; simp only [errW_none])
   | ((with_reducible refine gate_dst (N := 8) rfl ?_); refine box_event ?hg (N := 8) ?hd (cs := #[.slice none 0 0, .int .i64 0, .int .i64 0, .int .u64 0, .int .u64 0]) (t := 122) ?hr ?_; (case hd => rfl); (case hg => rfl); (case hr => first | (go_simp; done) | (go_simp; rfl)); intro gb hg w3 hbox hb; have HB3 := Aside0.mk (below_step HB2.out hb); have HB23 := Aside0.mk hb; have GB2 := Aside0.mk (show w2.heap.size ≤ gb from Nat.le_of_eq hg.symm); have BK := Aside0.mk hbox; have GB := Aside0.mk (show w.heap.size ≤ gb from by rw [hg]; exact HB2.out.size); have f0 := blk_frozen hbox 0; have g0 : w3.cell? ⟨gb, 0, none⟩ = some (.slice none 0 0) := (blk_cell hbox 0).trans rfl; have f1 := blk_frozen hbox 1; have g1 : w3.cell? ⟨gb, 1, none⟩ = some (.int .i64 0) := (blk_cell hbox 1).trans rfl; have f2 := blk_frozen hbox 2; have g2 : w3.cell? ⟨gb, 2, none⟩ = some (.int .i64 0) := (blk_cell hbox 2).trans rfl; have f3 := blk_frozen hbox 3; have g3 : w3.cell? ⟨gb, 3, none⟩ = some (.int .u64 0) := (blk_cell hbox 3).trans rfl; have f4 := blk_frozen hbox 4; have g4 : w3.cell? ⟨gb, 4, none⟩ = some (.int .u64 0) := (blk_cell hbox 4).trans rfl; clear hg hbox hb))
  clear f0 f1 f2 f3 f4 g0 g1 g2 g3 g4
  obtain ⟨w5, hw5⟩ : ∃ w5, w5 = ((((w3.setCell ⟨gb, 0, none⟩ (.slice A2 ids.length c2)).setCell ⟨gb, 1, none⟩ (.int .i64 (b : Int))).setCell ⟨gb, 2, none⟩ (.int .i64 (e : Int))).setCell ⟨gb, 3, none⟩ (.int .u64 lv)).setCell ⟨gb, 4, none⟩ (.int .u64 ix) := ⟨_, rfl⟩
  rw [← hw5]
  have K5 : w5.heap[gb]? = some (.cells #[.slice A2 ids.length c2, .int .i64 (b : Int), .int .i64 (e : Int), .int .u64 lv, .int .u64 ix] 122 (0, 0)) := by
   rw [hw5]
   exact blk_put (blk_put (blk_put (blk_put (blk_put BK.out 0 _ rfl) 1 _ rfl) 2 _ rfl) 3 _ rfl) 4 _ rfl
  have hB5 : Below w.heap.size w w5 := by
   rw [hw5]
   have := GB.out
   exact ((((HB3.out.setCell this _).setCell this _).setCell this _).setCell this _).setCell this _
  have hC5 : Kd.C k106 w5 A2 ids.length ids := by
   rw [hw5]
   exact Kd.C_below HV2.out (((((HB23.out.setCell GB2.out _).setCell GB2.out _).setCell GB2.out _).setCell GB2.out _).setCell GB2.out _)
  clear hw5
  have HB5 := Aside0.mk hB5
  have HT5 := Aside0.mk (HT.out.below hB5)
  have HC5 := Aside0.mk hC5
  have HGL := Aside0.mk (blk_lt K5)
  have HGg := Aside0.mk (Nat.lt_of_lt_of_le HGw.out hB5.size)
  have HBB := Aside0.mk (Nat.le_trans HBw.out hB5.size)
  have g0 : w5.cell? ⟨gb, 0, none⟩ = some (.slice A2 ids.length c2) := (blk_cell K5 0).trans rfl
  have g1 : w5.cell? ⟨gb, 1, none⟩ = some (.int .i64 (b : Int)) := (blk_cell K5 1).trans rfl
  have g2 : w5.cell? ⟨gb, 2, none⟩ = some (.int .i64 (e : Int)) := (blk_cell K5 2).trans rfl
  have g3 : w5.cell? ⟨gb, 3, none⟩ = some (.int .u64 lv) := (blk_cell K5 3).trans rfl
  have g4 : w5.cell? ⟨gb, 4, none⟩ = some (.int .u64 ix) := (blk_cell K5 4).trans rfl
  have t0 : w5.cell? ⟨g, 0, none⟩ = some (.iface 85 (.agg #[.int .i64 a0, .int .i64 a1, .int .i64 a2, .int .u64 a3, .int .u64 a4, .int .u64 a5])) := HT5.out.cell.1
  have hmf : ∀ (fn : Fn) (first cap : Array Value) (w : World), (Instr.makeFunc fn first cap).run Tryd.prog w = .ok (.func fn first cap) w := fun _ _ _ _ => rfl
  have HS : Aside0 (HeldIP gb g A2 ids.length c2 b e lv ix (.iface 85 (.agg #[.int .i64 a0, .int .i64 a1, .int .i64 a2, .int .u64 a3, .int .u64 a4, .int .u64 a5])) w5) := Aside0.mk ⟨g0, g1, g2, g3, g4, t0⟩
  clear K5 hB5 hC5 BK
  go_region_held3 (fun w' => w'.cell? ⟨gb, 0, none⟩ = some (.slice A2 ids.length c2) ∧ w'.cell? ⟨gb, 1, none⟩ = some (.int .i64 (b : Int)) ∧ w'.cell? ⟨gb, 2, none⟩ = some (.int .i64 (e : Int)) ∧ w'.cell? ⟨gb, 3, none⟩ = some (.int .u64 lv) ∧ w'.cell? ⟨gb, 4, none⟩ = some (.int .u64 ix) ∧ w'.cell? ⟨g, 0, none⟩ = some (.iface 85 (.agg #[.int .i64 a0, .int .i64 a1, .int .i64 a2, .int .u64 a3, .int .u64 a4, .int .u64 a5]))) (first | exact HS7.out | exact HS6.out | go_keep)
   (first
    | (go_at_call 78; (with_reducible refine (getNodes_calls B g n (agOf a0 a1 a2 a3 a4 a5) H S vo vs A2 c2 ids _ ?side1 ?side2 ?side3 E5.out E1.out).mono ?_); (case side1 => first | exact HT5.out | exact HT5.out.below (below_drew (Below.refl _ _)) | exact HT5.out.below (pw_below_drewN (Below.refl _ _) _)); (case side2 => first | exact HC5.out | exact Kd.C_drew HC5.out | exact Kd.C_drewN HC5.out _); (case side3 => exact HBB.out); rintro e' w6 ⟨v6, rfl, hR6, hB6, hO6⟩; have hb6 : Below w5.heap.size w5 w6 := (by first | exact hB6 | exact below_step (below_drew (Below.refl _ _)) hB6 | exact below_step (pw_below_drewN (Below.refl _ _) _) hB6); have HB6 := Aside0.mk hb6; have HO6 := Aside0.mk (show ∀ k_, v6.ownBlock = some k_ → w5.heap.size ≤ k_ from hO6); have HS6 := Aside0.mk (HS.out.below hb6 HGL.out HGg.out); have HR6 := Aside0.mk hR6; clear hR6 hB6 hb6 hO6)
    | (go_at_call 71; (with_reducible refine (proof_Nodes_Rehash.gen k a0 a1 a2 a3 a4 a5 _ (toy_meth a0 a1 a2 a3 a4 a5) B w5.heap.size A2 ids.length c2 b e lv ix v6 (ids.map (valH H)) r _ ?side1 ?side2 ?side3 HO6.out E2.out.symm E3.out E4.out E6.out HRr.out).mono ?_); (case side1 => first | exact HR6.out | exact Kd.R_drew HR6.out | exact Kd.R_drewN HR6.out _); (case side2 => exact Nat.le_trans HBB.out HB6.out.size); (case side3 => exact HB6.out.size); rintro e' w7 ⟨v7, rfl, hR7, hB7⟩; obtain ⟨A7, c7, rfl⟩ := Kd.R_slice hR7; have hb7 : Below w5.heap.size w5 w7 := (by first | exact HB6.out.trans hB7 | exact (below_drew HB6.out).trans hB7 | exact (pw_below_drewN HB6.out _).trans hB7); have HB7 := Aside0.mk hb7; have HS7 := Aside0.mk (HS.out.below hb7 HGL.out HGg.out); have HR7 := Aside0.mk hR7; clear hR7 hB7 hb7))
  all_goals
   go_wp2
   go_ret2
   exact ⟨_, rfl, HR7.out, below_step HB5.out HB7.out⟩
set_option maxHeartbeats 8000000 in
set_option maxRecDepth 100000 in
theorem impl_TreeInclusion.calls (k : Nat) (a0_0 a0_1 a0_2 a0_3 a0_4 a0_5 : Int) (A1 : Option Addr) (c1 : Nat) (l1 : List (List Int)) (a2 a3 : Int) (r1 : List (List Int)) (r2 : Bool) (w : World) (hT : TabOK w)
  (hr1 : Kd.C (Kd.slice 5 (Kd.int .u8)) w A1 l1.length l1) (hc1 : l1.length ≤ c1) (h : impl_TreeInclusion.f k a0_0 a0_1 a0_2 a0_3 a0_4 a0_5 l1 a2 a3 = some (r1, r2)) :
  Calls Tryd.prog 38 #[.agg #[.int .i64 a0_0, .int .i64 a0_1, .int .i64 a0_2, .int .u64 a0_3, .int .u64 a0_4, .int .u64 a0_5], .slice A1 l1.length c1, .int .u64 a2, .int .u64 a3] w fun e w' => ∃ v0_ : Value, e = .returned (.tuple #[v0_, .bool r2]) ∧ Kd.S (Kd.slice 5 (Kd.int .u8)) 27 w' w.heap.size (fun _ => True) v0_ r1 ∧ Below w.heap.size w w' := by
 have HTab := Aside0.mk hT
 have HR1 := Aside0.mk hr1
 have HC1 := Aside0.mk hc1
 clear hT hr1 hc1
 unfold impl_TreeInclusion.f at h
 go_enter Tryd.func38, Tryd.ntmps38
 by_cases c1' : IntKind.u64.wrap (l1.length : Int) < a3
 ·rw [if_pos c1'] at h
  injection h with h
  injection h with h1 h2
  subst h1 h2
  go_wp2
  go_ret2
  exact ⟨_, rfl, Kd.S_nil _ _ _ _ _, below_alloc (Below.refl _ _) _⟩
 rw [if_neg c1'] at h
 by_cases c3 : a3 ≤ a2
 ·rw [if_pos c3] at h
  injection h with h
  injection h with h1 h2
  subst h1 h2
  go_wp2
  go_ret2
  exact ⟨_, rfl, Kd.S_nil _ _ _ _ _, below_alloc (Below.refl _ _) _⟩
 rw [if_neg c3] at h
 obtain ⟨l, hl, h⟩ := Option.bind_eq_some_iff.mp h
 by_cases c2 : l.length < 1099511627776
 case neg => rw [if_neg c2] at h; exact absurd h (by simp)
 rw [if_pos c2] at h
 obtain ⟨H, hH, h⟩ := Option.bind_eq_some_iff.mp h
 obtain ⟨r, hr, h⟩ := Option.bind_eq_some_iff.mp h
 obtain ⟨q, hq, h⟩ := Option.bind_eq_some_iff.mp h
 injection h with h
 injection h with h1 h2
 subst h1 h2
 have HL := Aside0.mk hl
 have HH := Aside0.mk hH
 have HRr := Aside0.mk hr
 have HQ := Aside0.mk hq
 clear hl hH hr hq
 have hBA : Below w.heap.size w (w.alloc (.cells #[.int .i64 a0_0, .int .i64 a0_1, .int .i64 a0_2, .int .u64 a0_3, .int .u64 a0_4, .int .u64 a0_5] 24)) := below_alloc (Below.refl _ _) _
 go_wp2_with (first
  | (go_at_call 44; generalize w.alloc (.cells #[.int .i64 a0_0, .int .i64 a0_1, .int .i64 a0_2, .int .u64 a0_3, .int .u64 a0_4, .int .u64 a0_5] 24) = wA at hBA ⊢; (with_reducible refine (new_calls (.iface 85 (.agg #[.int .i64 a0_0, .int .i64 a0_1, .int .i64 a0_2, .int .u64 a0_3, .int .u64 a0_4, .int .u64 a0_5])) ⟨_, _, rfl⟩ wA).mono ?_); rintro e w1 ⟨rfl, hT1, hB1⟩; have hB01 := below_then hBA hBA.size hB1; have hgA : wA.heap.size < w1.heap.size := blk_lt hT1.blk; have HT1 := Aside0.mk (show Tr w1 wA.heap.size wA.heap.size (agOf a0_0 a0_1 a0_2 a0_3 a0_4 a0_5) 0 [] (fun k => k = wA.heap.size) (.slice none 0 0) [] from hT1); have HB01 := Aside0.mk hB01; clear hT1 hB01 hB1)
  | (go_at_call 46; (with_reducible refine (impl_texts.calls k A1 c1 l1 l w1 (Kd.C_below HR1.out HB01.out) HC1.out HL.out).mono ?_); rintro e w2 ⟨v2, rfl, hS2, hB2⟩; have hT2 := HT1.out.below hB2; have hR2 := Kd.R_lower (Kd.R_mono (ok' := fun k => ¬ (k = wA.heap.size)) (Kd.R_bound (Kd.S_R hS2)) (fun k hk => by have := hk.2.1; omega)) (Nat.le_of_lt hgA); have hB02 := below_step HB01.out hB2; have hA2 : wA.heap.size ≤ w2.heap.size := Nat.le_trans (Nat.le_of_lt hgA) hB2.size; have HT2 := Aside0.mk hT2; have HR2 := Aside0.mk hR2; have HB02 := Aside0.mk hB02; clear hT2 hR2 hB02 hS2 hB2)
  | (go_at_call 45; (with_reducible refine (append_calls k k a0_0 a0_1 a0_2 a0_3 a0_4 a0_5 wA.heap.size wA.heap.size 0 [] H (fun k => k = wA.heap.size) (.slice none 0 0) [] v2 l w2 HT2.out HR2.out hA2 c2 HH.out).mono ?_); rintro e w3 ⟨rfl, vo3, vs3, hT3, hK3, hB3⟩; have hB03 := HB02.out.trans (hB3.mono hBA.size); have HT3 := Aside0.mk hT3; have HB03 := Aside0.mk hB03; have hA3 : wA.heap.size ≤ w3.heap.size := Nat.le_trans hA2 hB3.size; have HTab3 := Aside0.mk (TabOK.below HTab.out hB03); clear hT3 hB03 hK3 hB3)
  | (go_at_call 72; (with_reducible refine (inclusionProof_calls k a0_0 a0_1 a0_2 a0_3 a0_4 a0_5 wA.heap.size wA.heap.size _ H _ vo3 vs3 a2 a3 r w3 HT3.out hA3 HTab3.out HRr.out).mono ?_); rintro e w4 ⟨v4, rfl, hR4, hB4⟩; obtain ⟨A4, c4, rfl⟩ := Kd.R_slice hR4; have HR4 := Aside0.mk hR4; have HB4 := Aside0.mk (below_step HB03.out hB4); clear hR4 hB4))
 all_goals
  go_region_held3 (fun _ => True) (trivial)
   ((go_at_call 46; (with_reducible refine (impl_texts.calls k A4 c4 r q _ ?side1 ?side2 HQ.out).mono ?_); (case side1 => first | exact (Kd.R_reads' HR4.out).2.2 | exact Kd.C_drew (Kd.R_reads' HR4.out).2.2 | exact Kd.C_drewN (Kd.R_reads' HR4.out).2.2 _); (case side2 => exact (Kd.R_reads' HR4.out).2.1); rintro e' w8 ⟨v8, rfl, hS8, hB8⟩; have HB8 := Aside0.mk (by first | exact below_step HB4.out hB8 | exact below_step (below_drew HB4.out) hB8 | exact below_step (pw_below_drewN HB4.out _) hB8 : Below w.heap.size w w8); have HS8 := Aside0.mk (show Kd.S (Kd.slice 5 (Kd.int .u8)) 27 w8 w4.heap.size (fun _ => True) v8 q from hS8); clear hS8 hB8))
  all_goals
   go_wp2
   go_ret2
   refine ⟨_, rfl, ?_, ?_⟩
   ·first
     | exact Kd.S_lower HS8.out HB4.out.size
     | exact Kd.S_drew (Kd.S_lower HS8.out HB4.out.size)
     | exact Kd.S_drewN (Kd.S_lower HS8.out HB4.out.size) _
   ·first
     | exact HB8.out
     | exact below_drew HB8.out
     | exact pw_below_drewN HB8.out _

end Go.Proofs.YtkmdkmlgahfcpaaDoor.M

