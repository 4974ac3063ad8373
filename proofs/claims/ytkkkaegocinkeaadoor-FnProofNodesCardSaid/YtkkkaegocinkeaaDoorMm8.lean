-- Written by a program of ours (wip/xp) out of the translation; Lean checks it.
import Derived.Test.YtkkkaegocinkeaaDoorSq
import Derived.Test.YtkkkaegocinkeaaDoorMm1
import Derived.Test.YtkkkaegocinkeaaDoorMm4
import Derived.Test.YtkkkaegocinkeaaDoorMm6
import Derived.Test.YtkkkaegocinkeaaDoorMm7
import Derived.Test.YtkkkaegocinkeaaDoorMm3
namespace Go.Proofs.YtkkkaegocinkeaaDoor.M
open Go.RowKit Go.Proofs.YtkkkaegocinkeaaDoorW.PrintWords Go.Proofs.YtkkkaegocinkeaaDoorW.PrintLast Go.Proofs.YtkkkaegocinkeaaDoorW.PrintMore
attribute [local go_sem] max2_int min2_int max_two min_two max_three min_three max_four min_four   -- for this text's walks alone
set_option linter.unusedVariables false
set_option linter.unusedSimpArgs false

/-! ### spec_fork: function 34 -/
def spec_fork.l0 : Nat → Int → Int → Int → Option (Int × Int)
 | 0, _, _, _ => none
 | k + 1, x1, x243000, x243001 => if 0 ≤ x243000 then (if (x243001 / 2) = ((shr .u64 x1 x243000) / 2) then (some (x243000, shr .u64 x1 x243000)) else (spec_fork.l0 k x1 (IntKind.u64.wrap (x243000 + 1)) (x243001 / 2))) else (none)
def spec_fork.f (k : Nat) (a0_0 : Int) (a0_1 : Int) (a1 : Int) : Option (Int × Int) := spec_fork.l0 k a1 a0_0 a0_1
theorem spec_fork.mono_l : ∀ k, (∀ y0 y1 y2, LeO (spec_fork.l0 k y0 y1 y2) (spec_fork.l0 (k + 1) y0 y1 y2))
 | 0 => fun _ _ _ r h => by simp [spec_fork.l0] at h
 | k + 1 => by
  have ih0 := spec_fork.mono_l k
  ·intro y0 y1 y2
   unfold spec_fork.l0
   repeat' first
   | (with_reducible exact ih0 _ _ _)
   | (with_reducible exact LeO.refl _)
   | (with_reducible exact LeO.none _)
   | (with_reducible refine LeO.ite ?_ ?_)
   | (with_reducible refine LeO.bind ?_ (fun _ => ?_))
   | exact ih0 _ _ _
   | exact LeO.none _
   | refine LeO.ite ?_ ?_
   | refine LeO.bind ?_ (fun _ => ?_)
theorem spec_fork.mono : ∀ a0 a1 a2 k, LeO (spec_fork.f k a0 a1 a2) (spec_fork.f (k + 1) a0 a1 a2) := by
 intro a0 a1 a2 k
 have ih0 := spec_fork.mono_l k
 unfold spec_fork.f
 repeat' first
   | (with_reducible exact ih0 _ _ _)
   | (with_reducible exact LeO.refl _)
   | (with_reducible exact LeO.none _)
   | (with_reducible refine LeO.ite ?_ ?_)
   | (with_reducible refine LeO.bind ?_ (fun _ => ?_))
   | exact ih0 _ _ _
   | exact LeO.none _
   | refine LeO.ite ?_ ?_
   | refine LeO.bind ?_ (fun _ => ?_)
set_option maxHeartbeats 8000000 in
set_option maxRecDepth 100000 in
theorem spec_fork.calls (k : Nat) (a0_0 : Int) (a0_1 : Int) (a1 : Int) (r1 : Int) (r2 : Int) (w : World) (h : spec_fork.f k a0_0 a0_1 a1 = some (r1, r2)) :
  Calls Tryd.prog 34 #[.agg #[.int .u64 a0_0, .int .u64 a0_1], .int .u64 a1] w fun e w' => e = .returned (.agg #[.int .u64 r1, .int .u64 r2]) ∧ Below w.heap.size w w' := by
 have hu28 := Tryd.underlying28
 have HB := Aside0.mk (Below.refl w.heap.size w)
 have H : (spec_fork.l0 k a1 a0_0 a0_1) = some (r1, r2) := h
 clear h
 have H' := Aside0.mk H
 clear H
 go_enter Tryd.func34, Tryd.ntmps34
 go_wp2_with (first | ((with_reducible refine gate_dst (N := 2) rfl ?_); refine box_event ?hg (N := 2) ?hd (cs := #[.int .u64 a0_0, .int .u64 a0_1]) (t := 28) ?hr ?_; (case hd => rfl); (case hg => rfl); (case hr => first | (go_simp; done) | (go_simp; rfl)); intro gb242 hg w3 hbox hb; have n0_ := Aside0.mk (below_step bB hb); have n1_ := Aside0.mk (hbox); have n2_ := Aside0.mk ((by rw [hg]; exact (below_size bB) : w.heap.size ≤ gb242)); have n3_ := Aside0.mk ((by rw [hg]; exact (below_size bB) : w.heap.size ≤ gb242)); clear HB; have HB := n0_; have BK242 := n1_; have GW242 := n2_; have GE242 := n3_; clear n0_ n1_ n2_ n3_; clear hb hbox hg) | ((with_reducible refine gate_dst (N := 4) rfl ?_); refine box_event ?hg (N := 4) ?hd (cs := #[.int .u64 0, .int .u64 0]) (t := 28) ?hr ?_; (case hd => rfl); (case hg => rfl); (case hr => first | (go_simp; done) | (go_simp; rfl)); intro gb243 hg w4 hbox hb; have n0_ := Aside0.mk (blk_below (g := gb242) (o := .cells #[.int .u64 a0_0, .int .u64 a0_1] 28 (0, 0)) (kB BK242.out) hb); have n1_ := Aside0.mk (below_step bB hb); have n2_ := Aside0.mk (hbox); have n3_ := Aside0.mk ((by rw [hg]; exact (below_size bB) : w.heap.size ≤ gb243)); have n4_ := Aside0.mk ((by rw [hg]; exact (below_size bB) : w.heap.size ≤ gb243)); have n5_ := Aside0.mk ((by rw [hg]; exact Nat.ne_of_lt (blk_lt (g := gb242) (o := .cells #[.int .u64 a0_0, .int .u64 a0_1] 28 (0, 0)) (kB BK242.out)) : gb242 ≠ gb243)); have n6_ := Aside0.mk ((by rw [hg]; exact Nat.ne_of_gt (blk_lt (g := gb242) (o := .cells #[.int .u64 a0_0, .int .u64 a0_1] 28 (0, 0)) (kB BK242.out)) : gb243 ≠ gb242)); clear BK242; clear HB; have BK242 := n0_; have HB := n1_; have BK243 := n2_; have GW243 := n3_; have GE243 := n4_; have NB242_243 := n5_; have NB243_242 := n6_; clear n0_ n1_ n2_ n3_ n4_ n5_ n6_; clear hb hbox hg))
 try simp only [Act.put, List.setIfInBounds_toArray, List.set_cons_zero, List.set_cons_succ]
 go_loopg [] k (fun kq w' => ∃ (x243000_1 : Int) (x243001_1 : Int), Aside0 (spec_fork.l0 kq a1 x243000_1 x243001_1 = some (r1, r2)) ∧ Aside0 (kq ≤ k) ∧ Aside0 (w'.heap[gb242]? = some (.cells #[.int .u64 x243000_1, .int .u64 x243001_1] 28 (0, 0))) ∧ Aside0 (w'.heap[gb243]? = some (.cells #[.int .u64 0, .int .u64 0] 28 (0, 0))) ∧ Aside0 (Below w.heap.size w w'))
 case atStart => exact ⟨(a0_0), (a0_1), H', ⟨Nat.le_refl _⟩, ⟨by (with_reducible repeat (first | refine blk_drewN ?_ _ | refine blk_drew ?_ | refine blk_alloc ?_ _)); exact BK242.out⟩, ⟨by (with_reducible repeat (first | refine blk_drewN ?_ _ | refine blk_drew ?_ | refine blk_alloc ?_ _)); exact BK243.out⟩, ⟨bB⟩⟩
 case round =>
  clear H'
  try clear p2
  try clear c3
  obtain ⟨x243000_1, x243001_1, HA, HK1, BK242, BK243, HB⟩ := hrel
  cases gk with
  | zero => exact absurd HA.out (by simp [spec_fork.l0])
  | succ k1 =>
   have H := HA.out
   clear HA
   simp only [spec_fork.l0] at H
   by_cases c5 : 0 ≤ x243000_1
   ·rw [if_pos c5] at H
    have c5b0 := eq_true c5
    have c5b1 : decide (0 ≤ x243000_1) = true := decide_eq_true c5
    clear c5
    obtain ⟨ji6, hji6⟩ : ∃ j_ : Int, (shr .u64 a1 x243000_1) = j_ := ⟨_, rfl⟩
    replace H : (if (x243001_1 / 2) = ((ji6) / 2) then (some (x243000_1, ji6)) else (spec_fork.l0 k1 a1 (IntKind.u64.wrap (x243000_1 + 1)) (x243001_1 / 2))) = some (r1, r2) := by first | (rw [hji6] at H; exact H) | (simp only [hji6] at H ⊢; exact H)
    have hji6_ : (a1 / 2 ^ min x243000_1.toNat 64) = ji6 := hji6
    have hji6z : x243000_1 ≤ 64 → (a1 / 2 ^ x243000_1.toNat) = ji6 := shr_small hji6
    by_cases c7 : (x243001_1 / 2) = ((ji6) / 2)
    ·rw [if_pos c7] at H
     have c7b0 : ((x243001_1 / 2) == ((ji6) / 2)) = true := beq_iff_eq.mpr c7
     have c7b1 : ((x243001_1 / 2) != ((ji6) / 2)) = false := bne_eq_false_iff_eq.mpr c7
     clear c7
     have c8b0 := eq_true (dA : 0 ≤ x243000_1)
     simp only [Option.some.injEq, Prod.mk.injEq] at H
     obtain ⟨rfl, rfl⟩ := H
     have hnb9 := NB242_243.out
     have hnc9 := NB243_242.out
     have hcz10_0 : wr.cell? ⟨gb242, 0, none⟩ = some (.int .u64 x243000_1) := (blk_cell BK242.out 0).trans rfl
     have hcz10_1 : wr.cell? ⟨gb242, 1, none⟩ = some (.int .u64 x243001_1) := (blk_cell BK242.out 1).trans rfl
     have hfz10_0 := blk_frozen BK242.out 0
     have hfz10_1 := blk_frozen BK242.out 1
     have hcz11_0 : wr.cell? ⟨gb243, 0, none⟩ = some (.int .u64 0) := (blk_cell BK243.out 0).trans rfl
     have hcz11_1 : wr.cell? ⟨gb243, 1, none⟩ = some (.int .u64 0) := (blk_cell BK243.out 1).trans rfl
     have hfz11_0 := blk_frozen BK243.out 0
     have hfz11_1 := blk_frozen BK243.out 1
     go_wp2
     refine bodyPost_ret (results_cell_row rfl _ _ gb243 28 #[.int .u64 x243000_1, .int .u64 ji6] (0, 0) _ rfl (by (with_reducible repeat (first | refine blk_drewN ?_ _ | refine blk_drew ?_ | refine blk_alloc ?_ _)); refine blk_put (cs := #[.int .u64 x243000_1, .int .u64 0]) ?_ 1 _ rfl; (with_reducible repeat (first | refine blk_drewN ?_ _ | refine blk_drew ?_ | refine blk_alloc ?_ _)); refine blk_put (cs := #[.int .u64 0, .int .u64 0]) ?_ 0 _ rfl; (with_reducible repeat (first | refine blk_drewN ?_ _ | refine blk_drew ?_ | refine blk_alloc ?_ _)); exact BK243.out) Tryd.underlying28 rfl (by kernel_rfl)) rfl ?_
     exact ⟨by first | rfl | (simp [errW_none, errW_some] <;> rfl) | (simp only [← hji6]; first | rfl | (simp [errW_none, errW_some] <;> rfl)) | (simp [*, errW_none, errW_some] <;> rfl), bB⟩
    ·rw [if_neg c7] at H
     have c7b0 : ((x243001_1 / 2) == ((ji6) / 2)) = false := beq_eq_false_iff_ne.mpr c7
     have c7b1 : ((x243001_1 / 2) != ((ji6) / 2)) = true := bne_iff_ne.mpr c7
     have H' := Aside0.mk H
     clear H
     have hnb12 := NB242_243.out
     have hnc12 := NB243_242.out
     have hcz13_0 : wr.cell? ⟨gb242, 0, none⟩ = some (.int .u64 x243000_1) := (blk_cell BK242.out 0).trans rfl
     have hcz13_1 : wr.cell? ⟨gb242, 1, none⟩ = some (.int .u64 x243001_1) := (blk_cell BK242.out 1).trans rfl
     have hfz13_0 := blk_frozen BK242.out 0
     have hfz13_1 := blk_frozen BK242.out 1
     go_wp2
     go_roundg k1
     case measure => have := HK1.out; omega
     case rel => exact ⟨(IntKind.u64.wrap (x243000_1 + 1)), (x243001_1 / 2), H', ⟨by have := HK1.out; omega⟩, ⟨by (with_reducible repeat (first | refine blk_drewN ?_ _ | refine blk_drew ?_ | refine blk_alloc ?_ _)); refine blk_put (cs := #[.int .u64 (IntKind.u64.wrap (x243000_1 + 1)), .int .u64 x243001_1]) ?_ 1 _ rfl; (with_reducible repeat (first | refine blk_drewN ?_ _ | refine blk_drew ?_ | refine blk_alloc ?_ _)); refine blk_put (cs := #[.int .u64 x243000_1, .int .u64 x243001_1]) ?_ 0 _ rfl; (with_reducible repeat (first | refine blk_drewN ?_ _ | refine blk_drew ?_ | refine blk_alloc ?_ _)); exact BK242.out⟩, ⟨by (with_reducible repeat (first | refine blk_drewN ?_ _ | refine blk_drew ?_ | refine blk_alloc ?_ _)); refine blk_far ?_ NB243_242.out _; (with_reducible repeat (first | refine blk_drewN ?_ _ | refine blk_drew ?_ | refine blk_alloc ?_ _)); refine blk_far ?_ NB243_242.out _; (with_reducible repeat (first | refine blk_drewN ?_ _ | refine blk_drew ?_ | refine blk_alloc ?_ _)); exact BK243.out⟩, ⟨bB⟩⟩
   ·rw [if_neg c5] at H
    exact absurd H (by simp)


/-! ### spec_NodeProof: function 18 -/
theorem np_size (W : World) (o : Obj) : (W.alloc o).heap.size = W.heap.size + 1 := by simp
theorem np_cut (A : Option Addr) (c n j : Nat) (hj : j ≤ n) : ∃ v : Value, v = .slice (if c = j then A else A.map (·.add (j * 2))) (n - j) (c - j) ∧ ∀ W, (Instr.slice 65 (.slice A n c) (some (.int .u64 (j : Int))) none none).run Tryd.prog W = .ok v W := by
 obtain ⟨i0, hi, _, hsz, _⟩ := info_parts info45
 refine ⟨_, rfl, fun W => ?_⟩
 have h := cut_from (P := Tryd.prog) 65 45 .u64 Tryd.underlying65 hi 2 hsz A n c (j : Int) (by omega) (by omega) W
 rw [Int.toNat_natCast] at h
 exact h
theorem np_proofOf (k : Nat) (p1 p2 : Int) (ps : List S45) (j : Nat) (r1 : List S28) (r2 r3 r4 r5 : Int) (v : Value) (A : Option Addr) (c : Nat) (w : World) (hv : v = .slice (if c = j then A else A.map (·.add (j * 2))) (ps.length - j) (c - j)) (hj : j ≤ ps.length) (hc : ps.length ≤ c) (hC : Kd.C k45 w A ps.length ps)
  (h : spec_proofOf.f k p1 p2 (ps.drop j) = some (r1, r2, r3, r4, r5)) :
  Calls Tryd.prog 32 #[.agg #[.int .u64 p1, .int .u64 p2], v] w fun e w' => ∃ v0_ : Value, e = .returned (.agg #[v0_, .int .u64 r2, .int .u64 r3, .int .i64 r4, .int .i64 r5]) ∧ Kd.R k28 28 w' w.heap.size (fun _ => True) v0_ r1 ∧ Below w.heap.size w w' := by
 subst hv
 have := spec_proofOf.calls k p1 p2 (if c = j then A else A.map (·.add (j * 2))) (c - j) (ps.drop j) r1 r2 r3 r4 r5 w (Kd.C_drop hC hj hc) (by rw [List.length_drop]; omega) h
 rw [List.length_drop] at this
 exact this
theorem np_put5 (W2 w4 : World) (b base : Nat) (v0 : Value) (r1 : List S28) (r2 r3 r4 r5 : Int) (hk : w4.heap[b]? = some (.cells #[.slice none 0 0, .int .u64 0, .int .u64 0, .int .i64 0, .int .i64 0] 39 (0, 0))) (hR : Kd.R k28 28 w4 base (fun _ => True) v0 r1) (hb : b < base) (hB : Below W2.heap.size W2 w4) (h2 : W2.heap.size ≤ b) (W : World)
  (hw : W = ((((w4.setCell ⟨b, 0, none⟩ v0).setCell ⟨b, 1, none⟩ (.int .u64 r2)).setCell ⟨b, 2, none⟩ (.int .u64 r3)).setCell ⟨b, 3, none⟩ (.int .i64 r4)).setCell ⟨b, 4, none⟩ (.int .i64 r5)) :
  W.heap[b]? = some (.cells #[v0, .int .u64 r2, .int .u64 r3, .int .i64 r4, .int .i64 r5] 39 (0, 0)) ∧ Kd.R k28 28 W W2.heap.size (fun k_ => k_ ≠ b) v0 r1 ∧ Below W2.heap.size W2 W := by
 subst hw
 refine ⟨blk_put (blk_put (blk_put (blk_put (blk_put hk 0 _ rfl) 1 _ rfl) 2 _ rfl) 3 _ rfl) 4 _ rfl, ?_, (((((hB.setCell h2 _).setCell h2 _).setCell h2 _).setCell h2 _).setCell h2 _)⟩
 have h0 : Kd.R k28 28 w4 W2.heap.size (fun k_ => k_ ≠ b) v0 r1 := Kd.R_lower (Kd.R_mono (Kd.R_bound hR) (fun k hk => by have := hk.2.1; omega)) (by omega)
 exact Kd.R_far (Kd.R_far (Kd.R_far (Kd.R_far (Kd.R_far h0 (p := ⟨b, 0, none⟩) (fun k h => h) _) (p := ⟨b, 1, none⟩) (fun k h => h) _) (p := ⟨b, 2, none⟩) (fun k h => h) _) (p := ⟨b, 3, none⟩) (fun k h => h) _) (p := ⟨b, 4, none⟩) (fun k h => h) _
set_option maxHeartbeats 1000000 in
set_option maxRecDepth 100000 in
theorem np_walk (k : Nat) (lv ix a2 p1 p2 : Int) (ps : List S45) (j : Nat) (r1 : List S28) (r2 r3 r4 r5 e1 e2 : Int) (w : World) (hlv : lv = (j : Int)) (hLv : spec_Leaves.f lv ix = some (p1, p2)) (hPP : spec_PathParts.f k p1 a2 = some ps) (hj : j ≤ ps.length)
  (hPO : spec_proofOf.f k p1 p2 (ps.drop j) = some (r1, r2, r3, r4, r5)) (hr1 : r1.length < 1099511627776) (hF : spec_fork.f k lv ix a2 = some (e1, e2)) (B5 E5 : Int) (hB5 : (if r5 > 0 then wrap64 (r4 + 1) else r4) = B5) (hE5 : (if r5 > 0 then wrap64 (r5 + 1) else r5) = E5) :
  Calls Tryd.prog 18 #[.agg #[.int .u64 lv, .int .u64 ix], .int .u64 a2] w fun e w' => ∃ v0_ : Value, e = .returned (.agg #[v0_, .int .u64 e1, .int .u64 e2, .int .i64 B5, .int .i64 E5]) ∧ Kd.R k28 28 w' w.heap.size (fun _ => True) v0_ ((⟨lv, ix⟩ : S28) :: r1) ∧ Below w.heap.size w w' := by
 subst hlv
 have hu := Tryd.underlying39
 have hu2 := Tryd.underlying28
 have hu3 := Tryd.underlying45
 have HLv := Aside0.mk hLv
 have HPP := Aside0.mk hPP
 have HPO := Aside0.mk hPO
 have HF := Aside0.mk hF
 have Hr1 := Aside0.mk hr1
 have HBE := Aside0.mk (And.intro hB5 hE5)
 clear hLv hPP hPO hF hr1 hB5 hE5
 go_enter Tryd.func18, Tryd.ntmps18
 go_upto_region 2 with (first
  | (go_at_call 31; (with_reducible refine (spec_Leaves.calls (j : Int) ix p1 p2 _ HLv.out).mono ?_); rintro e w1 ⟨rfl, hB⟩; have kN := blk_below (blk_alloc (blk_new w (Obj.cells #[.int .u64 (j : Int), .int .u64 ix] 28)) (Obj.cells #[.slice none 0 0, .int .u64 0, .int .u64 0, .int .i64 0, .int .i64 0] 39)) hB; have kO := blk_below (blk_new (w.alloc (Obj.cells #[.int .u64 (j : Int), .int .u64 ix] 28)) (Obj.cells #[.slice none 0 0, .int .u64 0, .int .u64 0, .int .i64 0, .int .i64 0] 39)) hB; have hB0 := below_step (below_alloc (below_alloc (Below.refl w.heap.size w) (Obj.cells #[.int .u64 (j : Int), .int .u64 ix] 28)) (Obj.cells #[.slice none 0 0, .int .u64 0, .int .u64 0, .int .i64 0, .int .i64 0] 39)) hB; clear hB))
 rw [np_size] at kO
 have kP := blk_new w1 (Obj.cells #[.int .u64 p1, .int .u64 p2] 45)
 have nPN := blk_lt kN
 have nPO := blk_lt kO
 replace kN := blk_alloc kN (Obj.cells #[.int .u64 p1, .int .u64 p2] 45)
 replace kO := blk_alloc kO (Obj.cells #[.int .u64 p1, .int .u64 p2] 45)
 replace hB0 := below_alloc hB0 (Obj.cells #[.int .u64 p1, .int .u64 p2] 45)
 have nPb := hB0.size
 generalize hw2 : World.alloc w1 _ = w2 at kN kO kP hB0 nPb ⊢
 generalize hbP : w1.heap.size = bP at kP nPN nPO ⊢
 generalize hbO : w.heap.size + 1 = bO at kO nPO ⊢
 generalize hbN : w.heap.size = bN at kN nPN ⊢
 go_cut [6] from 9 to 17 (fun v6 wc => ∃ (bR : Nat) (v0 : Value), v6 = .pointer (some ⟨bR, 0, none⟩) ∧ Aside0 (wc.heap[bR]? = some (.cells #[v0, .int .u64 r2, .int .u64 r3, .int .i64 r4, .int .i64 r5] 39 (0, 0))) ∧ Aside0 (Kd.R k28 28 wc w2.heap.size (fun k_ => k_ ≠ bR) v0 r1) ∧ Aside0 (Below w2.heap.size w2 wc) ∧ Aside0 (w2.heap.size ≤ bR))
 case first =>
  have sA : w2.drew.cell? ⟨bP, 0, none⟩ = some (.int .u64 p1) ∧ w2.drew.cell? ⟨bP, 1, none⟩ = some (.int .u64 p2) ∧ w2.drew.cell? ⟨bN, 0, none⟩ = some (.int .u64 (j : Int)) := ⟨(blk_cell (blk_drew kP) 0).trans rfl, (blk_cell (blk_drew kP) 1).trans rfl, (blk_cell (blk_drew kN) 0).trans rfl⟩
  have sB : (w2.alloc (Obj.cells #[.slice none 0 0, .int .u64 0, .int .u64 0, .int .i64 0, .int .i64 0] 39)).drew.cell? ⟨bP, 0, none⟩ = some (.int .u64 p1) ∧ (w2.alloc (Obj.cells #[.slice none 0 0, .int .u64 0, .int .u64 0, .int .i64 0, .int .i64 0] 39)).drew.cell? ⟨bP, 1, none⟩ = some (.int .u64 p2) ∧ (w2.alloc (Obj.cells #[.slice none 0 0, .int .u64 0, .int .u64 0, .int .i64 0, .int .i64 0] 39)).drew.cell? ⟨bN, 0, none⟩ = some (.int .u64 (j : Int)) := ⟨(blk_cell (blk_drew (blk_alloc kP (Obj.cells #[.slice none 0 0, .int .u64 0, .int .u64 0, .int .i64 0, .int .i64 0] 39))) 0).trans rfl, (blk_cell (blk_drew (blk_alloc kP (Obj.cells #[.slice none 0 0, .int .u64 0, .int .u64 0, .int .i64 0, .int .i64 0] 39))) 1).trans rfl, (blk_cell (blk_drew (blk_alloc kN (Obj.cells #[.slice none 0 0, .int .u64 0, .int .u64 0, .int .i64 0, .int .i64 0] 39))) 0).trans rfl⟩
  have HSA := Aside0.mk sA
  have nP2 : bP ≠ w2.heap.size := by have := blk_lt kP; omega
  have nN2 : bN ≠ w2.heap.size := by have := blk_lt kN; omega
  have HSB := Aside0.mk sB
  clear sA sB
  go_region_held3 (fun w' => w'.cell? ⟨bP, 0, none⟩ = some (.int .u64 p1) ∧ w'.cell? ⟨bP, 1, none⟩ = some (.int .u64 p2) ∧ w'.cell? ⟨bN, 0, none⟩ = some (.int .u64 (j : Int)))
   (first | (with_reducible exact HSA.out) | (with_reducible exact HSB.out) | (with_reducible exact HSC.out) | (with_reducible exact HSD.out) | (with_reducible exact HSE.out) | (with_reducible exact HSF.out) | (refine ⟨?_, ?_, ?_⟩ <;> ((iterate 5 (with_reducible refine (cell_far ?_ _).trans ?_; (first | exact nP2 | exact nN2 | exact nP3 | exact nN3))); first | (with_reducible exact HSE.out.1) | (with_reducible exact HSE.out.2.1) | (with_reducible exact HSE.out.2.2))) | exact ⟨(blk_cell (blk_alloc kP4 _) 0).trans rfl, (blk_cell (blk_alloc kP4 _) 1).trans rfl, (blk_cell (blk_alloc kN4 _) 0).trans rfl⟩ | go_keep)
   (first
    | (go_at_call 33; (with_reducible refine (spec_PathParts.calls k p1 a2 ps _ HPP.out).mono ?_); rintro e w3 ⟨v3, rfl, hR3, hB3⟩; obtain ⟨A3, c3, rfl⟩ := Kd.R_slice hR3; obtain ⟨_, hc3, hC3⟩ := Kd.R_reads' hR3; obtain ⟨vc, hvc, hcut⟩ := np_cut A3 c3 ps.length j hj; have HVC := Aside0.mk hvc; clear hvc; (first | (have hb3 : Below w2.drew.heap.size w2.drew w3 := (by with_reducible exact hB3); have kP3 := blk_below (blk_drew kP) hb3; have kN3 := blk_below (blk_drew kN) hb3; have HB3 := Aside0.mk (below_step (below_drew (Below.refl w2.heap.size w2)) hb3)) | (have hb3 : Below (w2.alloc (Obj.cells #[.slice none 0 0, .int .u64 0, .int .u64 0, .int .i64 0, .int .i64 0] 39)).drew.heap.size (w2.alloc (Obj.cells #[.slice none 0 0, .int .u64 0, .int .u64 0, .int .i64 0, .int .i64 0] 39)).drew w3 := (by with_reducible exact hB3); have kR3 : w3.heap[w2.heap.size]? = some (.cells #[.slice none 0 0, .int .u64 0, .int .u64 0, .int .i64 0, .int .i64 0] 39 (0, 0)) := blk_below (blk_drew (blk_new w2 (Obj.cells #[.slice none 0 0, .int .u64 0, .int .u64 0, .int .i64 0, .int .i64 0] 39))) hb3; have kP3 := blk_below (blk_drew (blk_alloc kP (Obj.cells #[.slice none 0 0, .int .u64 0, .int .u64 0, .int .i64 0, .int .i64 0] 39))) hb3; have kN3 := blk_below (blk_drew (blk_alloc kN (Obj.cells #[.slice none 0 0, .int .u64 0, .int .u64 0, .int .i64 0, .int .i64 0] 39))) hb3; have HB3 := Aside0.mk (below_step (below_drew (below_alloc (Below.refl w2.heap.size w2) (Obj.cells #[.slice none 0 0, .int .u64 0, .int .u64 0, .int .i64 0, .int .i64 0] 39))) hb3))); have sC : w3.cell? ⟨bP, 0, none⟩ = some (.int .u64 p1) ∧ w3.cell? ⟨bP, 1, none⟩ = some (.int .u64 p2) ∧ w3.cell? ⟨bN, 0, none⟩ = some (.int .u64 (j : Int)) := ⟨(blk_cell (kP3) 0).trans rfl, (blk_cell (kP3) 1).trans rfl, (blk_cell (kN3) 0).trans rfl⟩; have sD : (w3.alloc (Obj.cells #[.slice none 0 0, .int .u64 0, .int .u64 0, .int .i64 0, .int .i64 0] 39)).cell? ⟨bP, 0, none⟩ = some (.int .u64 p1) ∧ (w3.alloc (Obj.cells #[.slice none 0 0, .int .u64 0, .int .u64 0, .int .i64 0, .int .i64 0] 39)).cell? ⟨bP, 1, none⟩ = some (.int .u64 p2) ∧ (w3.alloc (Obj.cells #[.slice none 0 0, .int .u64 0, .int .u64 0, .int .i64 0, .int .i64 0] 39)).cell? ⟨bN, 0, none⟩ = some (.int .u64 (j : Int)) := ⟨(blk_cell (blk_alloc kP3 (Obj.cells #[.slice none 0 0, .int .u64 0, .int .u64 0, .int .i64 0, .int .i64 0] 39)) 0).trans rfl, (blk_cell (blk_alloc kP3 (Obj.cells #[.slice none 0 0, .int .u64 0, .int .u64 0, .int .i64 0, .int .i64 0] 39)) 1).trans rfl, (blk_cell (blk_alloc kN3 (Obj.cells #[.slice none 0 0, .int .u64 0, .int .u64 0, .int .i64 0, .int .i64 0] 39)) 0).trans rfl⟩; have nP3 : bP ≠ w3.heap.size := (by have := blk_lt kP3; omega); have nN3 : bN ≠ w3.heap.size := (by have := blk_lt kN3; omega); have HSC := Aside0.mk sC; have HSD := Aside0.mk sD; have HC3 := Aside0.mk hC3; have HR3 := Aside0.mk hR3; clear sC sD hC3 hR3 hB3)
    | (go_at_call 32; (with_reducible refine (np_proofOf k p1 p2 ps j r1 r2 r3 r4 r5 vc A3 c3 _ HVC.out hj hc3 (by first | (with_reducible exact HC3.out) | (with_reducible exact Kd.C_alloc HC3.out _)) HPO.out).mono ?_); rintro e w4 ⟨v0, rfl, hR4, hB4⟩; obtain ⟨A4, c4, rfl⟩ := Kd.R_slice hR4; (first | (have hb4 : Below w3.heap.size w3 w4 := (by with_reducible exact hB4); have kP4 := blk_below kP3 hb4; have kN4 := blk_below kN3 hb4; have HB4 := Aside0.mk (below_step HB3.out hb4); (first | (have kR4 := blk_below kR3 hb4; have ec0 := (blk_cell kR4 0).trans rfl; have ef0 := blk_frozen kR4 0; have ec1 := (blk_cell kR4 1).trans rfl; have ef1 := blk_frozen kR4 1; have ec2 := (blk_cell kR4 2).trans rfl; have ef2 := blk_frozen kR4 2; have ec3 := (blk_cell kR4 3).trans rfl; have ef3 := blk_frozen kR4 3; have ec4 := (blk_cell kR4 4).trans rfl; have ef4 := blk_frozen kR4 4) | skip)) | (have hb4 : Below (w3.alloc (Obj.cells #[.slice none 0 0, .int .u64 0, .int .u64 0, .int .i64 0, .int .i64 0] 39)).heap.size (w3.alloc (Obj.cells #[.slice none 0 0, .int .u64 0, .int .u64 0, .int .i64 0, .int .i64 0] 39)) w4 := (by with_reducible exact hB4); have kP4 := blk_below (blk_alloc kP3 (Obj.cells #[.slice none 0 0, .int .u64 0, .int .u64 0, .int .i64 0, .int .i64 0] 39)) hb4; have kN4 := blk_below (blk_alloc kN3 (Obj.cells #[.slice none 0 0, .int .u64 0, .int .u64 0, .int .i64 0, .int .i64 0] 39)) hb4; have kR4 : w4.heap[w3.heap.size]? = some (.cells #[.slice none 0 0, .int .u64 0, .int .u64 0, .int .i64 0, .int .i64 0] 39 (0, 0)) := blk_below (blk_new w3 (Obj.cells #[.slice none 0 0, .int .u64 0, .int .u64 0, .int .i64 0, .int .i64 0] 39)) hb4; have HB4 := Aside0.mk (below_step (below_alloc HB3.out (Obj.cells #[.slice none 0 0, .int .u64 0, .int .u64 0, .int .i64 0, .int .i64 0] 39)) hb4); have ec0 := (blk_cell kR4 0).trans rfl; have ef0 := blk_frozen kR4 0; have ec1 := (blk_cell kR4 1).trans rfl; have ef1 := blk_frozen kR4 1; have ec2 := (blk_cell kR4 2).trans rfl; have ef2 := blk_frozen kR4 2; have ec3 := (blk_cell kR4 3).trans rfl; have ef3 := blk_frozen kR4 3; have ec4 := (blk_cell kR4 4).trans rfl; have ef4 := blk_frozen kR4 4)); have sE : w4.cell? ⟨bP, 0, none⟩ = some (.int .u64 p1) ∧ w4.cell? ⟨bP, 1, none⟩ = some (.int .u64 p2) ∧ w4.cell? ⟨bN, 0, none⟩ = some (.int .u64 (j : Int)) := ⟨(blk_cell (kP4) 0).trans rfl, (blk_cell (kP4) 1).trans rfl, (blk_cell (kN4) 0).trans rfl⟩; have sF : (w4.alloc (Obj.cells #[.slice none 0 0, .int .u64 0, .int .u64 0, .int .i64 0, .int .i64 0] 39)).cell? ⟨bP, 0, none⟩ = some (.int .u64 p1) ∧ (w4.alloc (Obj.cells #[.slice none 0 0, .int .u64 0, .int .u64 0, .int .i64 0, .int .i64 0] 39)).cell? ⟨bP, 1, none⟩ = some (.int .u64 p2) ∧ (w4.alloc (Obj.cells #[.slice none 0 0, .int .u64 0, .int .u64 0, .int .i64 0, .int .i64 0] 39)).cell? ⟨bN, 0, none⟩ = some (.int .u64 (j : Int)) := ⟨(blk_cell (blk_alloc kP4 (Obj.cells #[.slice none 0 0, .int .u64 0, .int .u64 0, .int .i64 0, .int .i64 0] 39)) 0).trans rfl, (blk_cell (blk_alloc kP4 (Obj.cells #[.slice none 0 0, .int .u64 0, .int .u64 0, .int .i64 0, .int .i64 0] 39)) 1).trans rfl, (blk_cell (blk_alloc kN4 (Obj.cells #[.slice none 0 0, .int .u64 0, .int .u64 0, .int .i64 0, .int .i64 0] 39)) 0).trans rfl⟩; have HSE := Aside0.mk sE; have HSF := Aside0.mk sF; have HR4 := Aside0.mk hR4; clear sE sF hR4 hB4))
  all_goals
   go_wp2
   go_meet
   case rel =>
    have z3 := HB3.out.size
    have z4 := HB4.out.size
    clear HVC HPP HPO HLv HSA HSB HSC HSD HSE HSF
    first
     | (have z5 : w2.heap.size < w3.heap.size := blk_lt kR3; have Q := np_put5 w2 w4 w2.heap.size w3.heap.size (.slice A4 r1.length c4) r1 r2 r3 r4 r5 kR4 HR4.out z5 HB4.out (Nat.le_refl _) _ rfl; refine ⟨w2.heap.size, .slice A4 r1.length c4, rfl, ⟨Q.1⟩, ⟨Q.2.1⟩, ⟨Q.2.2⟩, ⟨Nat.le_refl _⟩⟩)
     | (have z5 := kR4; have zz : w3.heap.size < (w3.alloc (Obj.cells #[.slice none 0 0, .int .u64 0, .int .u64 0, .int .i64 0, .int .i64 0] 39)).heap.size := (by rw [np_size]; omega); have Q := np_put5 w2 w4 w3.heap.size (w3.alloc (Obj.cells #[.slice none 0 0, .int .u64 0, .int .u64 0, .int .i64 0, .int .i64 0] 39)).heap.size (.slice A4 r1.length c4) r1 r2 r3 r4 r5 kR4 HR4.out zz HB4.out z3 _ rfl; exact ⟨w3.heap.size, .slice A4 r1.length c4, rfl, ⟨Q.1⟩, ⟨Q.2.1⟩, ⟨Q.2.2⟩, ⟨z3⟩⟩)
     | (refine ⟨w4.heap.size, .slice A4 r1.length c4, rfl, ⟨?_⟩, ⟨?_⟩, ⟨?_⟩, ⟨z4⟩⟩; exact blk_new w4 _; exact Kd.R_alloc (Kd.R_lower (Kd.R_mono (Kd.R_bound HR4.out) (fun k_ hk => by have := hk.2.2.1; omega)) z3) _; exact below_alloc HB4.out _)
 case rest =>
  obtain ⟨bR, v0, rfl, HKR, HR, HBc, HbR⟩ := hcut
  have lN := blk_lt kN
  have lO := blk_lt kO
  have hbR := HbR.out
  have nRN : bR ≠ bN := by omega
  have nRO : bR ≠ bO := by omega
  have HKN := Aside0.mk (blk_below kN HBc.out)
  have HKO := Aside0.mk (blk_below kO HBc.out)
  have HBD := Aside0.mk (below_step hB0 HBc.out)
  have HRD := Aside0.mk (Kd.R_lower (Kd.R_mono (ok' := fun k_ => k_ ≠ bR ∧ k_ ≠ bN ∧ k_ ≠ bO) (Kd.R_bound HR.out) (fun k_ hk => ⟨hk.1, by have := hk.2.1; omega, by have := hk.2.1; omega⟩)) nPb)
  have hbRw : w.heap.size ≤ bR := by omega
  have hbOw : w.heap.size ≤ bO := by omega
  have nON : bO ≠ bN := by omega
  obtain ⟨A0, c0, rfl⟩ := Kd.R_slice HRD.out
  clear HLv HPP HPO HR HBc HbR kP kN kO hB0 hw2 hbP hbO hbN nPN nPO
  have eR3 : wc.cell? ⟨bR, 3, none⟩ = some (.int .i64 r4) := (blk_cell HKR.out 3).trans rfl
  have eR4 : wc.cell? ⟨bR, 4, none⟩ = some (.int .i64 r5) := (blk_cell HKR.out 4).trans rfl
  have fR3 := blk_frozen HKR.out 3
  have fR4 := blk_frozen HKR.out 4
  by_cases c : 0 < r5
  ·have c1 : decide (0 < r5) = true := decide_eq_true c
   have hBE := HBE.out
   rw [if_pos c, if_pos c] at hBE
   obtain ⟨q3, q4⟩ := hBE
   have HQ3 := Aside0.mk q3
   have HQ4 := Aside0.mk q4
   clear q3 q4 HBE
   go_upto_region 5 with (fail)
   rw [HQ3.out, HQ4.out]
   have hx := blk_put (blk_put HKR.out 3 (.int .i64 B5) rfl) 4 (.int .i64 E5) rfl
   replace HKR := Aside0.mk hx
   replace HKN := Aside0.mk (blk_far (p := ⟨bR, 4, none⟩) (blk_far (p := ⟨bR, 3, none⟩) HKN.out nRN.symm (.int .i64 B5)) nRN.symm (.int .i64 E5))
   replace HKO := Aside0.mk (blk_far (p := ⟨bR, 4, none⟩) (blk_far (p := ⟨bR, 3, none⟩) HKO.out nRO.symm (.int .i64 B5)) nRO.symm (.int .i64 E5))
   replace HRD := Aside0.mk (Kd.R_far (Kd.R_far HRD.out (p := ⟨bR, 3, none⟩) (fun k h => h.1) (.int .i64 B5)) (p := ⟨bR, 4, none⟩) (fun k h => h.1) (.int .i64 E5))
   replace HBD := Aside0.mk ((HBD.out.setCell (p := ⟨bR, 3, none⟩) hbRw (.int .i64 B5)).setCell (p := ⟨bR, 4, none⟩) hbRw (.int .i64 E5))
   clear hx HQ3 HQ4 eR3 eR4 fR3 fR4
   generalize World.setCell (World.setCell wc _ _) _ _ = wd at HKR HKN HKO HRD HBD ⊢
   have eN0 : wd.cell? ⟨bN, 0, none⟩ = some (.int .u64 (j : Int)) := (blk_cell HKN.out 0).trans rfl
   have eN1 : wd.cell? ⟨bN, 1, none⟩ = some (.int .u64 ix) := (blk_cell HKN.out 1).trans rfl
   go_wp2_with (first
    | ((with_reducible refine gate_dst (N := 30) rfl ?_); refine Kd.R_lit k28 _ 28 ?hg (N := 30) ?hd (xs := [(⟨(j : Int), ix⟩ : S28)]) (inner := [.int .u64 (j : Int), .int .u64 ix]) (ok := fun _ => True) (okp := fun _ => True) ?hr ?hp (fun _ hk => hk) trivial (Below.refl _ _) (Nat.le_refl _) (by simp) ?_; (case hd => rfl); (case hg => rfl); (case hr => first | (go_simp; done) | (go_simp; rfl)); (case hp => exact (Reps.c2 (show Kd.M k28 _ _ _ (⟨(j : Int), ix⟩ : S28) [.int .u64 (j : Int), .int .u64 ix] from (k28_mkM _ _ _ (⟨(j : Int), ix⟩ : S28))) (Reps.none _ _))); intro v30 w5 hL hb hg_ hnew_; clear hg_ hnew_; have lR := blk_lt HKR.out; have lN5 := blk_lt HKN.out; have lO5 := blk_lt HKO.out; have HL := Aside0.mk (Kd.R_lower (Kd.R_mono (ok' := fun k_ => k_ ≠ bR ∧ k_ ≠ bN ∧ k_ ≠ bO) (Kd.R_bound hL) (fun k_ hk => ⟨by have := hk.2.1; omega, by have := hk.2.1; omega, by have := hk.2.1; omega⟩)) HBD.out.size); replace HKR := Aside0.mk (blk_below HKR.out hb); replace HKN := Aside0.mk (blk_below HKN.out hb); replace HKO := Aside0.mk (blk_below HKO.out hb); replace HRD := Aside0.mk (Kd.R_below HRD.out hb); replace HBD := Aside0.mk (below_step HBD.out hb); have eR0 : w5.cell? ⟨bR, 0, none⟩ = some (.slice A0 r1.length c0) := (blk_cell HKR.out 0).trans rfl; clear hb hL lR lN5 lO5)
    | ((with_reducible refine gate_builtin (b := .append) (xs := #[.tmp 30, .tmp 32]) rfl ?_); at_builtin; refine Kd.R_append_rows k28 (Rr := k28.K _) (w0 := w) w.heap.size rfl (.tmp 30) (.tmp 32) 24 28 (.agg #[.int .u64 0, .int .u64 0]) 16 rfl Tryd.underlying24 info28 rfl (by decide) (by decide) v30 [(⟨(j : Int), ix⟩ : S28)] r1 A0 _ c0 (fun k_ => k_ ≠ bR ∧ k_ ≠ bN ∧ k_ ≠ bO) (fun _ => False) rfl rfl HL.out (Kd.R_reads' HRD.out).2.2 (fun _ _ h => h) (fun _ h => h.elim) (fun k_ hk => ⟨by have := blk_lt HKR.out; omega, by have := blk_lt HKN.out; omega, by have := blk_lt HKO.out; omega⟩) HBD.out HBD.out.size ?hl ?_; (case hl => have := Hr1.out; rw [List.length_singleton]; omega); intro v33 w6 hR6 hb6 hg6 hat6; replace HKR := Aside0.mk (blk_grown HKR.out hg6 (Kd.R_away HL.out (fun _ hk => hk.1))); replace HKN := Aside0.mk (blk_grown HKN.out hg6 (Kd.R_away HL.out (fun _ hk => hk.2.1))); replace HKO := Aside0.mk (blk_grown HKO.out hg6 (Kd.R_away HL.out (fun _ hk => hk.2.2))); replace HBD := Aside0.mk hb6; obtain ⟨A6, c6, rfl⟩ := Kd.R_slice hR6; have HR6 : Aside0 (Kd.R k28 28 w6 w.heap.size (fun k_ => k_ ≠ bR ∧ k_ ≠ bN ∧ k_ ≠ bO) (.slice A6 (r1.length + 1) c6) ((⟨(j : Int), ix⟩ : S28) :: r1)) := ⟨hR6⟩; have eR06 : w6.cell? ⟨bR, 0, none⟩ = some (.slice A0 r1.length c0) := (blk_cell HKR.out 0).trans rfl; have fR06 := blk_frozen HKR.out 0; have eN06 : w6.cell? ⟨bN, 0, none⟩ = some (.int .u64 (j : Int)) := (blk_cell HKN.out 0).trans rfl; have eN16 : w6.cell? ⟨bN, 1, none⟩ = some (.int .u64 ix) := (blk_cell HKN.out 1).trans rfl; clear hR6 hb6 hg6 hat6 HL HRD eR0)
    | (go_at_call 34; (with_reducible refine (spec_fork.calls k (j : Int) ix a2 e1 e2 _ HF.out).mono ?_); rintro e w7 ⟨rfl, hB7⟩; replace HKR := Aside0.mk (blk_below (blk_put HKR.out 0 (.slice A6 (r1.length + 1) c6) rfl) hB7); replace HKN := Aside0.mk (blk_below (blk_far (p := ⟨bR, 0, none⟩) HKN.out nRN.symm (.slice A6 (r1.length + 1) c6)) hB7); replace HKO := Aside0.mk (blk_below (blk_far (p := ⟨bR, 0, none⟩) HKO.out nRO.symm (.slice A6 (r1.length + 1) c6)) hB7); replace HR6 := Aside0.mk (Kd.R_below (Kd.R_far HR6.out (p := ⟨bR, 0, none⟩) (fun k h => h.1) (.slice A6 (r1.length + 1) c6)) hB7); replace HBD := Aside0.mk (below_step (HBD.out.setCell (p := ⟨bR, 0, none⟩) hbRw (.slice A6 (r1.length + 1) c6)) hB7); have eR70 : w7.cell? ⟨bR, 0, none⟩ = some (.slice A6 (r1.length + 1) c6) := (blk_cell HKR.out 0).trans rfl; have fR70 := blk_frozen HKR.out 0; have eO70 : w7.cell? ⟨bO, 0, none⟩ = some (.slice none 0 0) := (blk_cell HKO.out 0).trans rfl; have fO70 := blk_frozen HKO.out 0; have eR71 : w7.cell? ⟨bR, 1, none⟩ = some (.int .u64 r2) := (blk_cell HKR.out 1).trans rfl; have fR71 := blk_frozen HKR.out 1; have eO71 : w7.cell? ⟨bO, 1, none⟩ = some (.int .u64 0) := (blk_cell HKO.out 1).trans rfl; have fO71 := blk_frozen HKO.out 1; have eR72 : w7.cell? ⟨bR, 2, none⟩ = some (.int .u64 r3) := (blk_cell HKR.out 2).trans rfl; have fR72 := blk_frozen HKR.out 2; have eO72 : w7.cell? ⟨bO, 2, none⟩ = some (.int .u64 0) := (blk_cell HKO.out 2).trans rfl; have fO72 := blk_frozen HKO.out 2; have eR73 : w7.cell? ⟨bR, 3, none⟩ = some (.int .i64 B5) := (blk_cell HKR.out 3).trans rfl; have fR73 := blk_frozen HKR.out 3; have eO73 : w7.cell? ⟨bO, 3, none⟩ = some (.int .i64 0) := (blk_cell HKO.out 3).trans rfl; have fO73 := blk_frozen HKO.out 3; have eR74 : w7.cell? ⟨bR, 4, none⟩ = some (.int .i64 E5) := (blk_cell HKR.out 4).trans rfl; have fR74 := blk_frozen HKR.out 4; have eO74 : w7.cell? ⟨bO, 4, none⟩ = some (.int .i64 0) := (blk_cell HKO.out 4).trans rfl; have fO74 := blk_frozen HKO.out 4; have nOR := nRO.symm; clear hB7 eR06 fR06 eN06 eN16))
   refine bodyPost_ret (results_cell_row rfl _ _ bO 39 #[.slice A6 (r1.length + 1) c6, .int .u64 e1, .int .u64 e2, .int .i64 B5, .int .i64 E5] (0, 0) _ rfl (blk_put (blk_put (blk_put (blk_put (blk_put (blk_far (p := ⟨bR, 2, none⟩) (blk_far (p := ⟨bR, 1, none⟩) HKO.out nOR (.int .u64 e1)) nOR (.int .u64 e2)) 0 (.slice A6 (r1.length + 1) c6) rfl) 1 (.int .u64 e1) rfl) 2 (.int .u64 e2) rfl) 3 (.int .i64 B5) rfl) 4 (.int .i64 E5) rfl) Tryd.underlying39 rfl (by kernel_rfl)) rfl ?_
   exact ⟨(.slice A6 (r1.length + 1) c6), rfl, Kd.R_mono (Kd.R_far (Kd.R_far (Kd.R_far (Kd.R_far (Kd.R_far (Kd.R_far (Kd.R_far HR6.out (p := ⟨bR, 1, none⟩) (fun k h => h.1) (.int .u64 e1)) (p := ⟨bR, 2, none⟩) (fun k h => h.1) (.int .u64 e2)) (p := ⟨bO, 0, none⟩) (fun k h => h.2.2) (.slice A6 (r1.length + 1) c6)) (p := ⟨bO, 1, none⟩) (fun k h => h.2.2) (.int .u64 e1)) (p := ⟨bO, 2, none⟩) (fun k h => h.2.2) (.int .u64 e2)) (p := ⟨bO, 3, none⟩) (fun k h => h.2.2) (.int .i64 B5)) (p := ⟨bO, 4, none⟩) (fun k h => h.2.2) (.int .i64 E5)) (fun _ _ => trivial), (((((((HBD.out.setCell (p := ⟨bR, 1, none⟩) hbRw (.int .u64 e1)).setCell (p := ⟨bR, 2, none⟩) hbRw (.int .u64 e2)).setCell (p := ⟨bO, 0, none⟩) hbOw (.slice A6 (r1.length + 1) c6)).setCell (p := ⟨bO, 1, none⟩) hbOw (.int .u64 e1)).setCell (p := ⟨bO, 2, none⟩) hbOw (.int .u64 e2)).setCell (p := ⟨bO, 3, none⟩) hbOw (.int .i64 B5)).setCell (p := ⟨bO, 4, none⟩) hbOw (.int .i64 E5))⟩
  ·have c1 : decide (0 < r5) = false := decide_eq_false c
   have hBE := HBE.out
   rw [if_neg c, if_neg c] at hBE
   obtain ⟨q3, q4⟩ := hBE
   have q5 := q3.symm
   have q6 := q4.symm
   clear q3 q4
   subst q5
   subst q6
   clear HBE
   go_upto_region 5 with (fail)
   clear eR3 eR4 fR3 fR4
   generalize wc = wd at HKR HKN HKO HRD HBD ⊢
   have eN0 : wd.cell? ⟨bN, 0, none⟩ = some (.int .u64 (j : Int)) := (blk_cell HKN.out 0).trans rfl
   have eN1 : wd.cell? ⟨bN, 1, none⟩ = some (.int .u64 ix) := (blk_cell HKN.out 1).trans rfl
   go_wp2_with (first
    | ((with_reducible refine gate_dst (N := 30) rfl ?_); refine Kd.R_lit k28 _ 28 ?hg (N := 30) ?hd (xs := [(⟨(j : Int), ix⟩ : S28)]) (inner := [.int .u64 (j : Int), .int .u64 ix]) (ok := fun _ => True) (okp := fun _ => True) ?hr ?hp (fun _ hk => hk) trivial (Below.refl _ _) (Nat.le_refl _) (by simp) ?_; (case hd => rfl); (case hg => rfl); (case hr => first | (go_simp; done) | (go_simp; rfl)); (case hp => exact (Reps.c2 (show Kd.M k28 _ _ _ (⟨(j : Int), ix⟩ : S28) [.int .u64 (j : Int), .int .u64 ix] from (k28_mkM _ _ _ (⟨(j : Int), ix⟩ : S28))) (Reps.none _ _))); intro v30 w5 hL hb hg_ hnew_; clear hg_ hnew_; have lR := blk_lt HKR.out; have lN5 := blk_lt HKN.out; have lO5 := blk_lt HKO.out; have HL := Aside0.mk (Kd.R_lower (Kd.R_mono (ok' := fun k_ => k_ ≠ bR ∧ k_ ≠ bN ∧ k_ ≠ bO) (Kd.R_bound hL) (fun k_ hk => ⟨by have := hk.2.1; omega, by have := hk.2.1; omega, by have := hk.2.1; omega⟩)) HBD.out.size); replace HKR := Aside0.mk (blk_below HKR.out hb); replace HKN := Aside0.mk (blk_below HKN.out hb); replace HKO := Aside0.mk (blk_below HKO.out hb); replace HRD := Aside0.mk (Kd.R_below HRD.out hb); replace HBD := Aside0.mk (below_step HBD.out hb); have eR0 : w5.cell? ⟨bR, 0, none⟩ = some (.slice A0 r1.length c0) := (blk_cell HKR.out 0).trans rfl; clear hb hL lR lN5 lO5)
    | ((with_reducible refine gate_builtin (b := .append) (xs := #[.tmp 30, .tmp 32]) rfl ?_); at_builtin; refine Kd.R_append_rows k28 (Rr := k28.K _) (w0 := w) w.heap.size rfl (.tmp 30) (.tmp 32) 24 28 (.agg #[.int .u64 0, .int .u64 0]) 16 rfl Tryd.underlying24 info28 rfl (by decide) (by decide) v30 [(⟨(j : Int), ix⟩ : S28)] r1 A0 _ c0 (fun k_ => k_ ≠ bR ∧ k_ ≠ bN ∧ k_ ≠ bO) (fun _ => False) rfl rfl HL.out (Kd.R_reads' HRD.out).2.2 (fun _ _ h => h) (fun _ h => h.elim) (fun k_ hk => ⟨by have := blk_lt HKR.out; omega, by have := blk_lt HKN.out; omega, by have := blk_lt HKO.out; omega⟩) HBD.out HBD.out.size ?hl ?_; (case hl => have := Hr1.out; rw [List.length_singleton]; omega); intro v33 w6 hR6 hb6 hg6 hat6; replace HKR := Aside0.mk (blk_grown HKR.out hg6 (Kd.R_away HL.out (fun _ hk => hk.1))); replace HKN := Aside0.mk (blk_grown HKN.out hg6 (Kd.R_away HL.out (fun _ hk => hk.2.1))); replace HKO := Aside0.mk (blk_grown HKO.out hg6 (Kd.R_away HL.out (fun _ hk => hk.2.2))); replace HBD := Aside0.mk hb6; obtain ⟨A6, c6, rfl⟩ := Kd.R_slice hR6; have HR6 : Aside0 (Kd.R k28 28 w6 w.heap.size (fun k_ => k_ ≠ bR ∧ k_ ≠ bN ∧ k_ ≠ bO) (.slice A6 (r1.length + 1) c6) ((⟨(j : Int), ix⟩ : S28) :: r1)) := ⟨hR6⟩; have eR06 : w6.cell? ⟨bR, 0, none⟩ = some (.slice A0 r1.length c0) := (blk_cell HKR.out 0).trans rfl; have fR06 := blk_frozen HKR.out 0; have eN06 : w6.cell? ⟨bN, 0, none⟩ = some (.int .u64 (j : Int)) := (blk_cell HKN.out 0).trans rfl; have eN16 : w6.cell? ⟨bN, 1, none⟩ = some (.int .u64 ix) := (blk_cell HKN.out 1).trans rfl; clear hR6 hb6 hg6 hat6 HL HRD eR0)
    | (go_at_call 34; (with_reducible refine (spec_fork.calls k (j : Int) ix a2 e1 e2 _ HF.out).mono ?_); rintro e w7 ⟨rfl, hB7⟩; replace HKR := Aside0.mk (blk_below (blk_put HKR.out 0 (.slice A6 (r1.length + 1) c6) rfl) hB7); replace HKN := Aside0.mk (blk_below (blk_far (p := ⟨bR, 0, none⟩) HKN.out nRN.symm (.slice A6 (r1.length + 1) c6)) hB7); replace HKO := Aside0.mk (blk_below (blk_far (p := ⟨bR, 0, none⟩) HKO.out nRO.symm (.slice A6 (r1.length + 1) c6)) hB7); replace HR6 := Aside0.mk (Kd.R_below (Kd.R_far HR6.out (p := ⟨bR, 0, none⟩) (fun k h => h.1) (.slice A6 (r1.length + 1) c6)) hB7); replace HBD := Aside0.mk (below_step (HBD.out.setCell (p := ⟨bR, 0, none⟩) hbRw (.slice A6 (r1.length + 1) c6)) hB7); have eR70 : w7.cell? ⟨bR, 0, none⟩ = some (.slice A6 (r1.length + 1) c6) := (blk_cell HKR.out 0).trans rfl; have fR70 := blk_frozen HKR.out 0; have eO70 : w7.cell? ⟨bO, 0, none⟩ = some (.slice none 0 0) := (blk_cell HKO.out 0).trans rfl; have fO70 := blk_frozen HKO.out 0; have eR71 : w7.cell? ⟨bR, 1, none⟩ = some (.int .u64 r2) := (blk_cell HKR.out 1).trans rfl; have fR71 := blk_frozen HKR.out 1; have eO71 : w7.cell? ⟨bO, 1, none⟩ = some (.int .u64 0) := (blk_cell HKO.out 1).trans rfl; have fO71 := blk_frozen HKO.out 1; have eR72 : w7.cell? ⟨bR, 2, none⟩ = some (.int .u64 r3) := (blk_cell HKR.out 2).trans rfl; have fR72 := blk_frozen HKR.out 2; have eO72 : w7.cell? ⟨bO, 2, none⟩ = some (.int .u64 0) := (blk_cell HKO.out 2).trans rfl; have fO72 := blk_frozen HKO.out 2; have eR73 : w7.cell? ⟨bR, 3, none⟩ = some (.int .i64 B5) := (blk_cell HKR.out 3).trans rfl; have fR73 := blk_frozen HKR.out 3; have eO73 : w7.cell? ⟨bO, 3, none⟩ = some (.int .i64 0) := (blk_cell HKO.out 3).trans rfl; have fO73 := blk_frozen HKO.out 3; have eR74 : w7.cell? ⟨bR, 4, none⟩ = some (.int .i64 E5) := (blk_cell HKR.out 4).trans rfl; have fR74 := blk_frozen HKR.out 4; have eO74 : w7.cell? ⟨bO, 4, none⟩ = some (.int .i64 0) := (blk_cell HKO.out 4).trans rfl; have fO74 := blk_frozen HKO.out 4; have nOR := nRO.symm; clear hB7 eR06 fR06 eN06 eN16))
   refine bodyPost_ret (results_cell_row rfl _ _ bO 39 #[.slice A6 (r1.length + 1) c6, .int .u64 e1, .int .u64 e2, .int .i64 B5, .int .i64 E5] (0, 0) _ rfl (blk_put (blk_put (blk_put (blk_put (blk_put (blk_far (p := ⟨bR, 2, none⟩) (blk_far (p := ⟨bR, 1, none⟩) HKO.out nOR (.int .u64 e1)) nOR (.int .u64 e2)) 0 (.slice A6 (r1.length + 1) c6) rfl) 1 (.int .u64 e1) rfl) 2 (.int .u64 e2) rfl) 3 (.int .i64 B5) rfl) 4 (.int .i64 E5) rfl) Tryd.underlying39 rfl (by kernel_rfl)) rfl ?_
   exact ⟨(.slice A6 (r1.length + 1) c6), rfl, Kd.R_mono (Kd.R_far (Kd.R_far (Kd.R_far (Kd.R_far (Kd.R_far (Kd.R_far (Kd.R_far HR6.out (p := ⟨bR, 1, none⟩) (fun k h => h.1) (.int .u64 e1)) (p := ⟨bR, 2, none⟩) (fun k h => h.1) (.int .u64 e2)) (p := ⟨bO, 0, none⟩) (fun k h => h.2.2) (.slice A6 (r1.length + 1) c6)) (p := ⟨bO, 1, none⟩) (fun k h => h.2.2) (.int .u64 e1)) (p := ⟨bO, 2, none⟩) (fun k h => h.2.2) (.int .u64 e2)) (p := ⟨bO, 3, none⟩) (fun k h => h.2.2) (.int .i64 B5)) (p := ⟨bO, 4, none⟩) (fun k h => h.2.2) (.int .i64 E5)) (fun _ _ => trivial), (((((((HBD.out.setCell (p := ⟨bR, 1, none⟩) hbRw (.int .u64 e1)).setCell (p := ⟨bR, 2, none⟩) hbRw (.int .u64 e2)).setCell (p := ⟨bO, 0, none⟩) hbOw (.slice A6 (r1.length + 1) c6)).setCell (p := ⟨bO, 1, none⟩) hbOw (.int .u64 e1)).setCell (p := ⟨bO, 2, none⟩) hbOw (.int .u64 e2)).setCell (p := ⟨bO, 3, none⟩) hbOw (.int .i64 B5)).setCell (p := ⟨bO, 4, none⟩) hbOw (.int .i64 E5))⟩

def spec_NodeProof.f (k : Nat) (a0_0 : Int) (a0_1 : Int) (a1 : Int) : Option (List S28 × Int × Int × Int × Int) :=
 if 0 ≤ a0_0 then (spec_Leaves.f a0_0 a0_1).bind fun p => (spec_PathParts.f k p.1 a1).bind fun ps => if a0_0.toNat ≤ ps.length then
  (spec_proofOf.f k p.1 p.2 (ps.drop a0_0.toNat)).bind fun o => if o.1.length < 1099511627776 then (spec_fork.f k a0_0 a0_1 a1).bind fun e =>
   some ((⟨a0_0, a0_1⟩ : S28) :: o.1, e.1, e.2, (if o.2.2.2.2 > 0 then wrap64 (o.2.2.2.1 + 1) else o.2.2.2.1), (if o.2.2.2.2 > 0 then wrap64 (o.2.2.2.2 + 1) else o.2.2.2.2))
  else none else none else none
theorem spec_NodeProof.mono : ∀ a0 a1 a2 k, LeO (spec_NodeProof.f k a0 a1 a2) (spec_NodeProof.f (k + 1) a0 a1 a2) := by
 intro a0 a1 a2 k
 unfold spec_NodeProof.f
 repeat' first
   | (with_reducible exact spec_PathParts.mono _ _ _)
   | (with_reducible exact spec_proofOf.mono _ _ _ _)
   | (with_reducible exact spec_fork.mono _ _ _ _)
   | (with_reducible exact LeO.refl _)
   | (with_reducible exact LeO.none _)
   | (with_reducible refine LeO.ite ?_ ?_)
   | (with_reducible refine LeO.bind ?_ (fun _ => ?_))
theorem spec_NodeProof.calls (k : Nat) (a0_0 a0_1 a1 : Int) (r1 : List S28) (r2 r3 r4 r5 : Int) (w : World) (h : spec_NodeProof.f k a0_0 a0_1 a1 = some (r1, r2, r3, r4, r5)) :
  Calls Tryd.prog 18 #[.agg #[.int .u64 a0_0, .int .u64 a0_1], .int .u64 a1] w fun e w' => ∃ v0_ : Value, e = .returned (.agg #[v0_, .int .u64 r2, .int .u64 r3, .int .i64 r4, .int .i64 r5]) ∧ Kd.R k28 28 w' w.heap.size (fun _ => True) v0_ r1 ∧ Below w.heap.size w w' := by
 unfold spec_NodeProof.f at h
 by_cases c : 0 ≤ a0_0
 ·rw [if_pos c] at h
  obtain ⟨⟨p1, p2⟩, h1, h⟩ := Option.bind_eq_some_iff.mp h
  obtain ⟨ps, h2, h⟩ := Option.bind_eq_some_iff.mp h
  by_cases c2 : a0_0.toNat ≤ ps.length
  ·rw [if_pos c2] at h
   obtain ⟨⟨o1, o2, o3, o4, o5⟩, h3, h⟩ := Option.bind_eq_some_iff.mp h
   by_cases c3 : o1.length < 1099511627776
   ·rw [if_pos c3] at h
    obtain ⟨⟨e1, e2⟩, h4, h⟩ := Option.bind_eq_some_iff.mp h
    simp only [Option.some.injEq, Prod.mk.injEq] at h
    obtain ⟨rfl, rfl, rfl, hb, he⟩ := h
    exact np_walk k a0_0 a0_1 a1 p1 p2 ps a0_0.toNat o1 o2 o3 o4 o5 e1 e2 w (by omega) h1 h2 c2 h3 c3 h4 r4 r5 hb he
   ·rw [if_neg c3] at h; cases h
  ·rw [if_neg c2] at h; cases h
 ·rw [if_neg c] at h; cases h


/-! ### laws_FnProofNodes: function 5 -/
def laws_FnProofNodes.j0 : Nat → Int → Int → Int → Bool → List (S28) → Int → Int → Int → Int → Option (Bool)
 | 0, _, _, _, _, _, _, _, _, _ => none
 | k + 1, x0, x1, x2, x20, x252000, x252001, x252002, x252003, x252004 => if x20 = true then ((spec_SameProof.f k x252000 x252001 x252002 x252003 x252004 ([] : List (S28)) 0 0 0 0).bind fun t252 => (if t252 = true then ((impl_RangeSize.f 0 x2).bind fun t253 => ((spec_Nodes.f k 0 x2).bind fun t254 => (some (t253 == (t254.length : Int))))) else (some false))) else ((spec_NodeProof.f k x1 x0 x2).bind fun bt257 => ((spec_SameProof.f k x252000 x252001 x252002 x252003 x252004 bt257.1 bt257.2.1 bt257.2.2.1 bt257.2.2.2.1 bt257.2.2.2.2).bind fun t264 => (some t264)))
def laws_FnProofNodes.f (k : Nat) (a0 : Int) (a1 : Int) (a2 : Int) : Option (Bool) := (impl_ProofNodes.f k a0 a1 a2).bind fun bt244 => (if a1 ≥ 64 then (laws_FnProofNodes.j0 k a0 a1 a2 true bt244.1 bt244.2.1 bt244.2.2.1 bt244.2.2.2.1 bt244.2.2.2.2) else (if 0 ≤ a1 then (laws_FnProofNodes.j0 k a0 a1 a2 (decide (a0 ≥ (shr .u64 a2 a1))) bt244.1 bt244.2.1 bt244.2.2.1 bt244.2.2.2.1 bt244.2.2.2.2) else (none)))
theorem laws_FnProofNodes.mono_l : ∀ k, (∀ y0 y1 y2 y3 y4 y5 y6 y7 y8, LeO (laws_FnProofNodes.j0 k y0 y1 y2 y3 y4 y5 y6 y7 y8) (laws_FnProofNodes.j0 (k + 1) y0 y1 y2 y3 y4 y5 y6 y7 y8))
 | 0 => fun _ _ _ _ _ _ _ _ _ r h => by simp [laws_FnProofNodes.j0] at h
 | k + 1 => by
  have ih0 := laws_FnProofNodes.mono_l k
  ·intro y0 y1 y2 y3 y4 y5 y6 y7 y8
   unfold laws_FnProofNodes.j0
   repeat' first
   | (with_reducible exact ih0 _ _ _ _ _ _ _ _ _)
   | (with_reducible exact impl_ProofNodes.mono _ _ _ _)
   | (with_reducible exact spec_NodeProof.mono _ _ _ _)
   | (with_reducible exact spec_Nodes.mono _ _ _)
   | (with_reducible exact spec_SameProof.mono _ _ _ _ _ _ _ _ _ _ _)
   | (with_reducible exact LeO.refl _)
   | (with_reducible exact LeO.none _)
   | (with_reducible refine LeO.ite ?_ ?_)
   | (with_reducible refine LeO.bind ?_ (fun _ => ?_))
   | exact ih0 _ _ _ _ _ _ _ _ _
   | exact impl_ProofNodes.mono _ _ _ _
   | exact spec_NodeProof.mono _ _ _ _
   | exact spec_Nodes.mono _ _ _
   | exact spec_SameProof.mono _ _ _ _ _ _ _ _ _ _ _
   | exact LeO.none _
   | refine LeO.ite ?_ ?_
   | refine LeO.bind ?_ (fun _ => ?_)
theorem laws_FnProofNodes.mono : ∀ a0 a1 a2 k, LeO (laws_FnProofNodes.f k a0 a1 a2) (laws_FnProofNodes.f (k + 1) a0 a1 a2) := by
 intro a0 a1 a2 k
 have ih0 := laws_FnProofNodes.mono_l k
 unfold laws_FnProofNodes.f
 repeat' first
   | (with_reducible exact ih0 _ _ _ _ _ _ _ _ _)
   | (with_reducible exact impl_ProofNodes.mono _ _ _ _)
   | (with_reducible exact spec_NodeProof.mono _ _ _ _)
   | (with_reducible exact spec_Nodes.mono _ _ _)
   | (with_reducible exact spec_SameProof.mono _ _ _ _ _ _ _ _ _ _ _)
   | (with_reducible exact LeO.refl _)
   | (with_reducible exact LeO.none _)
   | (with_reducible refine LeO.ite ?_ ?_)
   | (with_reducible refine LeO.bind ?_ (fun _ => ?_))
   | exact ih0 _ _ _ _ _ _ _ _ _
   | exact impl_ProofNodes.mono _ _ _ _
   | exact spec_NodeProof.mono _ _ _ _
   | exact spec_Nodes.mono _ _ _
   | exact spec_SameProof.mono _ _ _ _ _ _ _ _ _ _ _
   | exact LeO.none _
   | refine LeO.ite ?_ ?_
   | refine LeO.bind ?_ (fun _ => ?_)
def laws_FnProofNodes.T4 : Bool × List (List Nat × List Nat) := (true, [([], []), ([], []), ([], []), ([1, 2], [1, 2]), ([], []), ([3, 4], [3, 4]), ([0, 5, 5], [0, 5]), ([6, 6, 0, 1, 2, 3, 4, 5, 6], [6])])
def laws_FnProofNodes.B4 : List Nat := [0, 0, 0, 6, 0, 30, 63, 127]
theorem laws_FnProofNodes.tab4 : rtab .any (opsOf Tryd.f5 4) = laws_FnProofNodes.T4 := by kernel_rfl
theorem laws_FnProofNodes.bits4 : waitsOk laws_FnProofNodes.T4.2 laws_FnProofNodes.B4 = true := by kernel_rfl
set_option maxHeartbeats 8000000 in
set_option maxRecDepth 100000 in
theorem laws_FnProofNodes.calls (k : Nat) (a0 : Int) (a1 : Int) (a2 : Int) (r : Bool) (w : World) (hT : TabOK w) (h : laws_FnProofNodes.f k a0 a1 a2 = some r) :
  Calls Tryd.prog 5 #[.int .u64 a0, .int .u64 a1, .int .u64 a2] w fun e w' => e = .returned (.bool r) ∧ Below w.heap.size w w' := by
 have hu39 := Tryd.underlying39
 have hu45 := Tryd.underlying45
 have hu28 := Tryd.underlying28
 have HT := Aside0.mk hT
 clear hT
 have HB := Aside0.mk (Below.refl w.heap.size w)
 have H : ((impl_ProofNodes.f k a0 a1 a2).bind fun bt244 => (if a1 ≥ 64 then (laws_FnProofNodes.j0 k a0 a1 a2 true bt244.1 bt244.2.1 bt244.2.2.1 bt244.2.2.2.1 bt244.2.2.2.2) else (if 0 ≤ a1 then (laws_FnProofNodes.j0 k a0 a1 a2 (decide (a0 ≥ (shr .u64 a2 a1))) bt244.1 bt244.2.1 bt244.2.2.1 bt244.2.2.2.1 bt244.2.2.2.2) else (none)))) = some r := h
 clear h
 replace H := Option.bind_eq_some_iff.mp H
 obtain ⟨⟨t244, t247, t248, t249, t250⟩, A40, H⟩ := H
 replace H : (if a1 ≥ 64 then (laws_FnProofNodes.j0 k a0 a1 a2 true t244 t247 t248 t249 t250) else (if 0 ≤ a1 then (laws_FnProofNodes.j0 k a0 a1 a2 (decide (a0 ≥ (shr .u64 a2 a1))) t244 t247 t248 t249 t250) else (none))) = some r := H
 have A4 := Aside0.mk A40
 clear A40
 have HC5 := Aside0.mk H
 clear H
 go_enter Tryd.func5, Tryd.ntmps5
 go_upto_region 2 with (first | ((with_reducible refine gate_callee (f := 14) rfl ?_); refine goesL_ (some 11) rfl rfl Tryd.func14 (by kernel_rfl) rfl #[.int .u64 a0, .int .u64 a1, .int .u64 a2] rfl aV ?_; (with_reducible refine (impl_ProofNodes.calls k a0 a1 a2 t244 t247 t248 t249 t250 _ ?side1 A4.out).mono ?_); (case side1 => exact TabOK.below HT.out bB); rintro e w6 ⟨v245, rfl, ho0, hb⟩; refine ⟨_, rfl, ?_⟩; have n0_ := Aside0.mk (Kd.R_lower ho0 (below_size bB)); have n1_ := Aside0.mk (below_step bB hb); clear HB; have HO246 := n0_; have HB := n1_; clear n0_ n1_; (try clear hb); (try clear hb2); (try clear hk); (try clear hi); (try clear ho0)) | ((with_reducible refine gate_dst (N := 7) rfl ?_); (try (refine gate_guard (by rfl) ?_; dsimp only)); refine box_event ?hg (N := 7) ?hd (cs := #[.slice none 0 0, .int .u64 0, .int .u64 0, .int .i64 0, .int .i64 0]) (t := 39) ?hr ?_; (case hd => rfl); (case hg => rfl); (case hr => first | (go_simp; done) | (go_simp; rfl)); intro gb251 hg w7 hbox hb; have n0_ := Aside0.mk (Kd.R_below (kR HO246.out) hb); have n1_ := Aside0.mk (below_step bB hb); have n2_ := Aside0.mk (hbox); have n3_ := Aside0.mk ((by rw [hg]; exact (below_size bB) : w.heap.size ≤ gb251)); have n4_ := Aside0.mk ((by rw [hg]; exact (below_size bB) : w.heap.size ≤ gb251)); clear HO246; clear HB; have HO246 := n0_; have HB := n1_; have BK251 := n2_; have GW251 := n3_; have GE251 := n4_; clear n0_ n1_ n2_ n3_ n4_; clear hb hbox hg; obtain ⟨Ao8, co8, eo8⟩ := Kd.R_slice HO246.out; subst eo8; have hcz9_0 : w7.cell? ⟨gb251, 0, none⟩ = some (.slice none 0 0) := (blk_cell BK251.out 0).trans rfl; have hcz9_1 : w7.cell? ⟨gb251, 1, none⟩ = some (.int .u64 0) := (blk_cell BK251.out 1).trans rfl; have hcz9_2 : w7.cell? ⟨gb251, 2, none⟩ = some (.int .u64 0) := (blk_cell BK251.out 2).trans rfl; have hcz9_3 : w7.cell? ⟨gb251, 3, none⟩ = some (.int .i64 0) := (blk_cell BK251.out 3).trans rfl; have hcz9_4 : w7.cell? ⟨gb251, 4, none⟩ = some (.int .i64 0) := (blk_cell BK251.out 4).trans rfl; have hfz9_0 := blk_frozen BK251.out 0; have hfz9_1 := blk_frozen BK251.out 1; have hfz9_2 := blk_frozen BK251.out 2; have hfz9_3 := blk_frozen BK251.out 3; have hfz9_4 := blk_frozen BK251.out 4))
 (try simp only [Act.put, List.setIfInBounds_toArray, List.set_cons_zero, List.set_cons_succ])
 go_cut [20] (fun v20 wc => ∃ (kq : Nat) (x20_4 : Bool), v20 = .bool x20_4 ∧ Aside0 (laws_FnProofNodes.j0 kq a0 a1 a2 x20_4 t244 t247 t248 t249 t250 = some r) ∧ Aside0 (kq ≤ k) ∧ Aside0 (Kd.R k28 28 wc w.heap.size (fun _ => True) (.slice Ao8 t244.length co8) t244) ∧ Aside0 (wc.heap[gb251]? = some (.cells #[(.slice Ao8 t244.length co8), .int .u64 t247, .int .u64 t248, .int .i64 t249, .int .i64 t250] 39 (0, 0))) ∧ Aside0 (Below w.heap.size w wc))
 case first =>
  have H := HC5.out
  clear HC5
  by_cases c10 : a1 ≥ 64
  ·rw [if_pos c10] at H
   have c10b0 : decide (64 ≤ a1) = true := decide_eq_true c10
   clear c10
   (first | rw [c10b0] | (simp only [i64_w, i32_w]; rw [c10b0]) | skip)
   have H' := Aside0.mk H
   clear H
   go_wp2
   go_meet
   case rel => exact ⟨_, (true), (by first | rfl | (simp; done) | (simp [*]; done)), H', ⟨by first | omega | exact Nat.le_refl _⟩, ⟨by (with_reducible repeat (first | apply Kd.R_alloc | apply Kd.R_drewN | apply Kd.R_drew)); exact Kd.R_mono (Kd.R_far (p := ⟨gb251, 4, none⟩) (Kd.R_far (p := ⟨gb251, 3, none⟩) (Kd.R_far (p := ⟨gb251, 2, none⟩) (Kd.R_far (p := ⟨gb251, 1, none⟩) (Kd.R_far (p := ⟨gb251, 0, none⟩) (Kd.R_types HO246.out BK251.out (by decide)) (fun _ hk => hk.2) (.slice Ao8 t244.length co8)) (fun _ hk => hk.2) (.int .u64 t247)) (fun _ hk => hk.2) (.int .u64 t248)) (fun _ hk => hk.2) (.int .i64 t249)) (fun _ hk => hk.2) (.int .i64 t250)) (fun _ hk => trivial)⟩, ⟨by (with_reducible repeat (first | refine blk_drewN ?_ _ | refine blk_drew ?_ | refine blk_alloc ?_ _)); refine blk_put (cs := #[.slice Ao8 t244.length co8, .int .u64 t247, .int .u64 t248, .int .i64 t249, .int .i64 0]) ?_ 4 _ rfl; (with_reducible repeat (first | refine blk_drewN ?_ _ | refine blk_drew ?_ | refine blk_alloc ?_ _)); refine blk_put (cs := #[.slice Ao8 t244.length co8, .int .u64 t247, .int .u64 t248, .int .i64 0, .int .i64 0]) ?_ 3 _ rfl; (with_reducible repeat (first | refine blk_drewN ?_ _ | refine blk_drew ?_ | refine blk_alloc ?_ _)); refine blk_put (cs := #[.slice Ao8 t244.length co8, .int .u64 t247, .int .u64 0, .int .i64 0, .int .i64 0]) ?_ 2 _ rfl; (with_reducible repeat (first | refine blk_drewN ?_ _ | refine blk_drew ?_ | refine blk_alloc ?_ _)); refine blk_put (cs := #[.slice Ao8 t244.length co8, .int .u64 0, .int .u64 0, .int .i64 0, .int .i64 0]) ?_ 1 _ rfl; (with_reducible repeat (first | refine blk_drewN ?_ _ | refine blk_drew ?_ | refine blk_alloc ?_ _)); refine blk_put (cs := #[.slice none 0 0, .int .u64 0, .int .u64 0, .int .i64 0, .int .i64 0]) ?_ 0 _ rfl; (with_reducible repeat (first | refine blk_drewN ?_ _ | refine blk_drew ?_ | refine blk_alloc ?_ _)); exact BK251.out⟩, ⟨bB⟩⟩
  ·rw [if_neg c10] at H
   have c10b0 : decide (64 ≤ a1) = false := decide_eq_false c10
   clear c10
   (first | rw [c10b0] | (simp only [i64_w, i32_w]; rw [c10b0]) | skip)
   by_cases c11 : 0 ≤ a1
   ·rw [if_pos c11] at H
    have c11b0 := eq_true c11
    have c11b1 : decide (0 ≤ a1) = true := decide_eq_true c11
    clear c11
    obtain ⟨ji12, hji12⟩ : ∃ j_ : Int, (shr .u64 a2 a1) = j_ := ⟨_, rfl⟩
    replace H : (laws_FnProofNodes.j0 k a0 a1 a2 (decide (a0 ≥ (ji12))) t244 t247 t248 t249 t250) = some r := by first | (rw [hji12] at H; exact H) | (simp only [hji12] at H ⊢; exact H)
    have hji12_ : (a2 / 2 ^ min a1.toNat 64) = ji12 := hji12
    have hji12z : a1 ≤ 64 → (a2 / 2 ^ a1.toNat) = ji12 := shr_small hji12
    have H' := Aside0.mk H
    clear H
    go_wp2
    go_meet
    case rel => exact ⟨_, (decide (a0 ≥ (ji12))), (by first | rfl | (simp; done) | (simp only [← hji12] <;> (first | rfl | simp)) | (simp [*]; done)), H', ⟨by first | omega | exact Nat.le_refl _⟩, ⟨by (with_reducible repeat (first | apply Kd.R_alloc | apply Kd.R_drewN | apply Kd.R_drew)); exact Kd.R_mono (Kd.R_far (p := ⟨gb251, 4, none⟩) (Kd.R_far (p := ⟨gb251, 3, none⟩) (Kd.R_far (p := ⟨gb251, 2, none⟩) (Kd.R_far (p := ⟨gb251, 1, none⟩) (Kd.R_far (p := ⟨gb251, 0, none⟩) (Kd.R_types HO246.out BK251.out (by decide)) (fun _ hk => hk.2) (.slice Ao8 t244.length co8)) (fun _ hk => hk.2) (.int .u64 t247)) (fun _ hk => hk.2) (.int .u64 t248)) (fun _ hk => hk.2) (.int .i64 t249)) (fun _ hk => hk.2) (.int .i64 t250)) (fun _ hk => trivial)⟩, ⟨by (with_reducible repeat (first | refine blk_drewN ?_ _ | refine blk_drew ?_ | refine blk_alloc ?_ _)); refine blk_put (cs := #[.slice Ao8 t244.length co8, .int .u64 t247, .int .u64 t248, .int .i64 t249, .int .i64 0]) ?_ 4 _ rfl; (with_reducible repeat (first | refine blk_drewN ?_ _ | refine blk_drew ?_ | refine blk_alloc ?_ _)); refine blk_put (cs := #[.slice Ao8 t244.length co8, .int .u64 t247, .int .u64 t248, .int .i64 0, .int .i64 0]) ?_ 3 _ rfl; (with_reducible repeat (first | refine blk_drewN ?_ _ | refine blk_drew ?_ | refine blk_alloc ?_ _)); refine blk_put (cs := #[.slice Ao8 t244.length co8, .int .u64 t247, .int .u64 0, .int .i64 0, .int .i64 0]) ?_ 2 _ rfl; (with_reducible repeat (first | refine blk_drewN ?_ _ | refine blk_drew ?_ | refine blk_alloc ?_ _)); refine blk_put (cs := #[.slice Ao8 t244.length co8, .int .u64 0, .int .u64 0, .int .i64 0, .int .i64 0]) ?_ 1 _ rfl; (with_reducible repeat (first | refine blk_drewN ?_ _ | refine blk_drew ?_ | refine blk_alloc ?_ _)); refine blk_put (cs := #[.slice none 0 0, .int .u64 0, .int .u64 0, .int .i64 0, .int .i64 0]) ?_ 0 _ rfl; (with_reducible repeat (first | refine blk_drewN ?_ _ | refine blk_drew ?_ | refine blk_alloc ?_ _)); exact BK251.out⟩, ⟨bB⟩⟩
   ·rw [if_neg c11] at H
    exact absurd H (by simp)
 case rest =>
  clear HC5
  try clear c1
  try clear p2
  try clear c5
  try clear c10
  try clear c10b0
  try clear c11
  try clear c11b0
  try clear c11b1
  try clear hcz9_0
  try clear hcz9_1
  try clear hcz9_2
  try clear hcz9_3
  try clear hcz9_4
  try clear hfz9_0
  try clear hfz9_1
  try clear hfz9_2
  try clear hfz9_3
  try clear hfz9_4
  obtain ⟨kq, x20_4, rfl, HA, HJ4, HO_252000, BK251, HB⟩ := hcut
  cases kq with
  | zero => exact absurd HA.out (by simp [laws_FnProofNodes.j0])
  | succ kj4 =>
   have H := HA.out
   clear HA
   simp only [laws_FnProofNodes.j0] at H
   by_cases c13 : x20_4 = true
   ·subst c13
    have H1 : ((spec_SameProof.f kj4 t244 t247 t248 t249 t250 ([] : List (S28)) 0 0 0 0).bind fun t252 => (if t252 = true then ((impl_RangeSize.f 0 a2).bind fun t253 => ((spec_Nodes.f kj4 0 a2).bind fun t254 => (some (t253 == (t254.length : Int))))) else (some false))) = some r := by rw [if_pos rfl] at H; exact H
    clear H
    have H := H1
    clear H1
    replace H := Option.bind_eq_some_iff.mp H
    obtain ⟨t252, A140, H⟩ := H
    replace H : (if t252 = true then ((impl_RangeSize.f 0 a2).bind fun t253 => ((spec_Nodes.f kj4 0 a2).bind fun t254 => (some (t253 == (t254.length : Int))))) else (some false)) = some r := H
    have A14 := Aside0.mk A140
    clear A140
    by_cases c15 : t252 = true
    ·subst c15
     have H1 : ((impl_RangeSize.f 0 a2).bind fun t253 => ((spec_Nodes.f kj4 0 a2).bind fun t254 => (some (t253 == (t254.length : Int))))) = some r := by rw [if_pos rfl] at H; exact H
     clear H
     have H := H1
     clear H1
     replace H := Option.bind_eq_some_iff.mp H
     obtain ⟨t253, A160, H⟩ := H
     replace H : ((spec_Nodes.f kj4 0 a2).bind fun t254 => (some (t253 == (t254.length : Int)))) = some r := H
     have A16 := Aside0.mk A160
     clear A160
     replace H := Option.bind_eq_some_iff.mp H
     obtain ⟨t254, A170, H⟩ := H
     replace H : (some (t253 == (t254.length : Int))) = some r := H
     have A17 := Aside0.mk A170
     clear A170
     obtain rfl := Option.some.inj H
     have hcz18_0 : wc.cell? ⟨gb251, 0, none⟩ = some (.slice Ao8 t244.length co8) := (blk_cell BK251.out 0).trans rfl
     have hcz18_1 : wc.cell? ⟨gb251, 1, none⟩ = some (.int .u64 t247) := (blk_cell BK251.out 1).trans rfl
     have hcz18_2 : wc.cell? ⟨gb251, 2, none⟩ = some (.int .u64 t248) := (blk_cell BK251.out 2).trans rfl
     have hcz18_3 : wc.cell? ⟨gb251, 3, none⟩ = some (.int .i64 t249) := (blk_cell BK251.out 3).trans rfl
     have hcz18_4 : wc.cell? ⟨gb251, 4, none⟩ = some (.int .i64 t250) := (blk_cell BK251.out 4).trans rfl
     have hfz18_0 := blk_frozen BK251.out 0
     have hfz18_1 := blk_frozen BK251.out 1
     have hfz18_2 := blk_frozen BK251.out 2
     have hfz18_3 := blk_frozen BK251.out 3
     have hfz18_4 := blk_frozen BK251.out 4
     go_wp2_with (first | ((with_reducible refine gate_callee (f := 15) rfl ?_); refine goesL_ (some 23) rfl rfl Tryd.func15 (by kernel_rfl) rfl #[.agg #[.slice Ao8 t244.length co8, .int .u64 t247, .int .u64 t248, .int .i64 t249, .int .i64 t250], .agg #[.slice none 0 0, .int .u64 0, .int .u64 0, .int .i64 0, .int .i64 0]] rfl aV ?_; (refine (spec_SameProof.calls kj4 _ _ t244 t247 t248 t249 t250 _ _ ([] : List (S28)) 0 0 0 0 true _ ?side1 ?side2 ?side3 ?side4 A14.out).mono ?_); (case side1 => repeat (first | exact (Kd.R_reads' HO_252000.out).2.2 | (with_reducible refine Kd.C_alloc ?_ _) | (with_reducible refine Kd.C_drewN ?_ _) | (with_reducible refine Kd.C_drew ?_))); (case side2 => exact (Kd.R_reads' HO_252000.out).2.1); (case side3 => exact Kd.C_nil _ _); (case side4 => exact Nat.le_refl _); rintro e w19 ⟨rfl, hb⟩; refine ⟨_, rfl, ?_⟩; have n0_ := Aside0.mk (Kd.R_below (kR HO_252000.out) hb); have n1_ := Aside0.mk (blk_below (g := gb251) (o := .cells #[.slice Ao8 t244.length co8, .int .u64 t247, .int .u64 t248, .int .i64 t249, .int .i64 t250] 39 (0, 0)) (kB BK251.out) hb); have n2_ := Aside0.mk (below_step bB hb); clear HO_252000; clear BK251; clear HB; have HO_252000 := n0_; have BK251 := n1_; have HB := n2_; clear n0_ n1_ n2_; (try clear hb); (try clear hb2); (try clear hk); (try clear hi)) | (go_at_call 16; (with_reducible refine (impl_RangeSize.calls 0 a2 t253 _ A16.out).mono ?_); rintro e w' ⟨rfl, ⟨nd, rfl⟩⟩) | (go_at_call 17; (with_reducible refine (spec_Nodes.calls kj4 0 a2 t254 _ A17.out).mono ?_); rintro e w20 ⟨v255, rfl, ho0, hb⟩; have n0_ := Aside0.mk (Kd.R_elder' (kR HO_252000.out) (Kd.R_base ho0) hb); have n1_ := Aside0.mk (Kd.R_lower (Kd.R_new' ho0 (Kd.R_lt (kR HO_252000.out))) (below_size bB)); have n2_ := Aside0.mk (blk_below (g := gb251) (o := .cells #[.slice Ao8 t244.length co8, .int .u64 t247, .int .u64 t248, .int .i64 t249, .int .i64 t250] 39 (0, 0)) (kB BK251.out) hb); have n3_ := Aside0.mk (below_step bB hb); clear HO_252000; clear BK251; clear HB; have HO_252000 := n0_; have HO256 := n1_; have BK251 := n2_; have HB := n3_; clear n0_ n1_ n2_ n3_; (try clear hb); (try clear hb2); (try clear hk); (try clear hi); (try clear ho0); obtain ⟨Ao21, co21, eo21⟩ := Kd.R_slice HO256.out; subst eo21))
     go_ret
     exact ⟨by first | rfl | (simp [errW_none, errW_some] <;> rfl) | (simp [*, errW_none, errW_some] <;> rfl), bB⟩
    ·replace c15 := Bool.eq_false_iff.mpr c15
     subst c15
     have H1 : (some false) = some r := by rw [if_neg (show ¬ (false = true) by decide)] at H; exact H
     clear H
     have H := H1
     clear H1
     obtain rfl := Option.some.inj H
     have hcz22_0 : wc.cell? ⟨gb251, 0, none⟩ = some (.slice Ao8 t244.length co8) := (blk_cell BK251.out 0).trans rfl
     have hcz22_1 : wc.cell? ⟨gb251, 1, none⟩ = some (.int .u64 t247) := (blk_cell BK251.out 1).trans rfl
     have hcz22_2 : wc.cell? ⟨gb251, 2, none⟩ = some (.int .u64 t248) := (blk_cell BK251.out 2).trans rfl
     have hcz22_3 : wc.cell? ⟨gb251, 3, none⟩ = some (.int .i64 t249) := (blk_cell BK251.out 3).trans rfl
     have hcz22_4 : wc.cell? ⟨gb251, 4, none⟩ = some (.int .i64 t250) := (blk_cell BK251.out 4).trans rfl
     have hfz22_0 := blk_frozen BK251.out 0
     have hfz22_1 := blk_frozen BK251.out 1
     have hfz22_2 := blk_frozen BK251.out 2
     have hfz22_3 := blk_frozen BK251.out 3
     have hfz22_4 := blk_frozen BK251.out 4
     go_wp2_with (first | ((with_reducible refine gate_callee (f := 15) rfl ?_); refine goesL_ (some 23) rfl rfl Tryd.func15 (by kernel_rfl) rfl #[.agg #[.slice Ao8 t244.length co8, .int .u64 t247, .int .u64 t248, .int .i64 t249, .int .i64 t250], .agg #[.slice none 0 0, .int .u64 0, .int .u64 0, .int .i64 0, .int .i64 0]] rfl aV ?_; (refine (spec_SameProof.calls kj4 _ _ t244 t247 t248 t249 t250 _ _ ([] : List (S28)) 0 0 0 0 false _ ?side1 ?side2 ?side3 ?side4 A14.out).mono ?_); (case side1 => repeat (first | exact (Kd.R_reads' HO_252000.out).2.2 | (with_reducible refine Kd.C_alloc ?_ _) | (with_reducible refine Kd.C_drewN ?_ _) | (with_reducible refine Kd.C_drew ?_))); (case side2 => exact (Kd.R_reads' HO_252000.out).2.1); (case side3 => exact Kd.C_nil _ _); (case side4 => exact Nat.le_refl _); rintro e w23 ⟨rfl, hb⟩; refine ⟨_, rfl, ?_⟩; have n0_ := Aside0.mk (Kd.R_below (kR HO_252000.out) hb); have n1_ := Aside0.mk (blk_below (g := gb251) (o := .cells #[.slice Ao8 t244.length co8, .int .u64 t247, .int .u64 t248, .int .i64 t249, .int .i64 t250] 39 (0, 0)) (kB BK251.out) hb); have n2_ := Aside0.mk (below_step bB hb); clear HO_252000; clear BK251; clear HB; have HO_252000 := n0_; have BK251 := n1_; have HB := n2_; clear n0_ n1_ n2_; (try clear hb); (try clear hb2); (try clear hk); (try clear hi)))
     go_ret
     exact ⟨by first | rfl | (simp [errW_none, errW_some] <;> rfl) | (simp [*, errW_none, errW_some] <;> rfl), bB⟩
   ·replace c13 := Bool.eq_false_iff.mpr c13
    subst c13
    have H1 : ((spec_NodeProof.f kj4 a1 a0 a2).bind fun bt257 => ((spec_SameProof.f kj4 t244 t247 t248 t249 t250 bt257.1 bt257.2.1 bt257.2.2.1 bt257.2.2.2.1 bt257.2.2.2.2).bind fun t264 => (some t264))) = some r := by rw [if_neg (show ¬ (false = true) by decide)] at H; exact H
    clear H
    have H := H1
    clear H1
    replace H := Option.bind_eq_some_iff.mp H
    obtain ⟨⟨t257, t260, t261, t262, t263⟩, A240, H⟩ := H
    replace H : ((spec_SameProof.f kj4 t244 t247 t248 t249 t250 t257 t260 t261 t262 t263).bind fun t264 => (some t264)) = some r := H
    have A24 := Aside0.mk A240
    clear A240
    replace H := Option.bind_eq_some_iff.mp H
    obtain ⟨t264, A250, H⟩ := H
    replace H : (some t264) = some r := H
    have A25 := Aside0.mk A250
    clear A250
    obtain rfl := Option.some.inj H
    try go_wp2
    have n0_ := Aside0.mk (Kd.R_drew HO_252000.out)
    have n1_ := Aside0.mk (blk_drew BK251.out)
    have n2_ := Aside0.mk (below_drew1 HB.out)
    clear HO_252000
    clear BK251
    clear HB
    have HO_252000 := n0_
    have BK251 := n1_
    have HB := n2_
    clear n0_ n1_ n2_
    refine start_ (n := 8) (S := fun w' => w'.cell? ⟨gb251, 0, none⟩ = some (.slice Ao8 t244.length co8) ∧ w'.cell? ⟨gb251, 1, none⟩ = some (.int .u64 t247) ∧ w'.cell? ⟨gb251, 2, none⟩ = some (.int .u64 t248) ∧ w'.cell? ⟨gb251, 3, none⟩ = some (.int .i64 t249) ∧ w'.cell? ⟨gb251, 4, none⟩ = some (.int .i64 t250)) (ds := []) #[false, false, false, false, false, false, false, false] (by kernel_rfl) rfl rfl ⟨(blk_cell BK251.out 0).trans rfl, (blk_cell BK251.out 1).trans rfl, (blk_cell BK251.out 2).trans rfl, (blk_cell BK251.out 3).trans rfl, (blk_cell BK251.out 4).trans rfl⟩ (fun hHeld => ?_); refine with_tabW laws_FnProofNodes.tab4 laws_FnProofNodes.bits4 (fun HT_ HW_ => ?_)
    generalize wc.drew = w26 at HO_252000 BK251 HB hHeld ⊢
    refine pure_ (i := 1) (N := some 34) (v := ?_) (a' := ?_) #[false, true, false, false, false, false, false, false] rfl rfl (any_of HT_.out (by kernel_rfl)) (fun _ _ _ h => h) (Or.inl ⟨by rfl, ?_⟩) ?_ ?_
    rotate_left
    ·intro w'
     go_simp
     with_reducible rfl
    rotate_left
    ·simp only [Act.put, List.setIfInBounds_toArray, List.set_cons_zero, List.set_cons_succ, i64_w, i32_w]
     rfl
    refine pure_ (i := 2) (N := some 35) (v := ?_) (a' := ?_) #[false, true, true, false, false, false, false, false] rfl rfl (any_of HT_.out (by kernel_rfl)) (fun _ _ _ h => h) (Or.inl ⟨by rfl, ?_⟩) ?_ ?_
    rotate_left
    ·intro w'
     go_simp
     with_reducible rfl
    rotate_left
    ·simp only [Act.put, List.setIfInBounds_toArray, List.set_cons_zero, List.set_cons_succ, i64_w, i32_w]
     rfl
    refine pure_ (i := 3) (N := some 36) (v := ?_) (a' := ?_) #[false, true, true, true, false, false, false, false] rfl rfl (any_of HT_.out (by kernel_rfl)) (fun _ _ _ h => h) (Or.inl ⟨by rfl, ?_⟩) ?_ ?_
    rotate_left
    ·intro w'
     go_simp
     with_reducible rfl
    rotate_left
    ·simp only [Act.put, List.setIfInBounds_toArray, List.set_cons_zero, List.set_cons_succ, i64_w, i32_w]
     rfl
    refine pure_ (i := 4) (N := some 37) (v := ?_) (a' := ?_) #[false, true, true, true, true, false, false, false] rfl rfl (any_of HT_.out (by kernel_rfl)) (fun _ _ _ h => h) (Or.inl ⟨by rfl, ?_⟩) ?_ ?_
    rotate_left
    ·intro w'
     go_simp
     with_reducible rfl
    rotate_left
    ·simp only [Act.put, List.setIfInBounds_toArray, List.set_cons_zero, List.set_cons_succ, i64_w, i32_w]
     rfl
    refine take_ (i := 0) (N := some 33) (v := ?_) (a' := ?_) #[true, true, true, true, true, false, false, false] rfl rfl (take_ofW HT_.out HW_.out (by kernel_rfl)) (fun _ _ _ h => h) (Or.inl ⟨by rfl, ?_⟩) hHeld ?_ ?_
    rotate_left
    ·rintro w' ⟨s0, s1, s2, s3, s4⟩
     go_simp
     with_reducible rfl
    rotate_left
    ·simp only [Act.put, List.setIfInBounds_toArray, List.set_cons_zero, List.set_cons_succ, i64_w, i32_w]
     rfl
    refine one_ (i := 5) (N := some 38) #[true, true, true, true, true, true, false, false] rfl rfl (one_of HT_.out (by kernel_rfl)) (by decide) (fun K hK => ?_)
    refine goes_ Tryd.func18 (by kernel_rfl) rfl #[.agg #[.int .u64 a1, .int .u64 a0], .int .u64 a2] (by rfl) rfl rfl aV ?_
    with_reducible refine (spec_NodeProof.calls kj4 a1 a0 a2 t257 t260 t261 t262 t263 _ A24.out).mono ?_
    rintro e w27 ⟨v258, rfl, ho0, hb⟩
    refine ⟨_, rfl, ?_⟩
    have n0_ := Aside0.mk (Kd.R_elder' (kR HO_252000.out) (Kd.R_base ho0) hb)
    have n1_ := Aside0.mk (Kd.R_lower (Kd.R_new' ho0 (Kd.R_lt (kR HO_252000.out))) (below_size bB))
    have n2_ := Aside0.mk (blk_below (g := gb251) (o := .cells #[.slice Ao8 t244.length co8, .int .u64 t247, .int .u64 t248, .int .i64 t249, .int .i64 t250] 39 (0, 0)) (kB BK251.out) hb)
    have n3_ := Aside0.mk (below_step bB hb)
    clear HO_252000
    clear BK251
    clear HB
    have HO_252000 := n0_
    have HO259 := n1_
    have BK251 := n2_
    have HB := n3_
    clear n0_ n1_ n2_ n3_
    (try clear hb)
    (try clear hb2)
    (try clear hk)
    (try clear hi)
    (try clear ho0)
    obtain ⟨Ao28, co28, eo28⟩ := Kd.R_slice HO259.out
    (first | subst eo28 | (injection eo28 with f1_ f2_ f3_; have f4_ := f1_.symm; have f5_ := f3_.symm; clear f1_ f2_ f3_; subst f4_; subst f5_))
    refine hK.out _ _ ⟨(blk_cell BK251.out 0).trans rfl, (blk_cell BK251.out 1).trans rfl, (blk_cell BK251.out 2).trans rfl, (blk_cell BK251.out 3).trans rfl, (blk_cell BK251.out 4).trans rfl⟩ (fun hHeld => ?_)
    clear hK K
    refine norm_ (a' := ?_) ?_ ?_
    rotate_left
    ·show Act.put _ (some 38) _ = _
     simp only [Act.put, List.setIfInBounds_toArray, List.set_cons_zero, List.set_cons_succ, i64_w, i32_w]
     rfl
    refine one_ (i := 6) (N := some 39) #[true, true, true, true, true, true, true, false] rfl rfl (one_of HT_.out (by kernel_rfl)) (by decide) (fun K hK => ?_)
    refine goes_ Tryd.func15 (by kernel_rfl) rfl #[.agg #[.slice Ao8 t244.length co8, .int .u64 t247, .int .u64 t248, .int .i64 t249, .int .i64 t250], .agg #[.slice Ao28 t257.length co28, .int .u64 t260, .int .u64 t261, .int .i64 t262, .int .i64 t263]] (by rfl) rfl rfl aV ?_
    with_reducible refine (spec_SameProof.calls kj4 _ _ t244 t247 t248 t249 t250 _ _ t257 t260 t261 t262 t263 t264 _ ?side1 ?side2 ?side3 ?side4 A25.out).mono ?_
    (case side1 => repeat (first | exact (Kd.R_reads' HO_252000.out).2.2 | (with_reducible refine Kd.C_alloc ?_ _) | (with_reducible refine Kd.C_drewN ?_ _) | (with_reducible refine Kd.C_drew ?_)))
    (case side2 => exact (Kd.R_reads' HO_252000.out).2.1)
    (case side3 => repeat (first | exact (Kd.R_reads' HO259.out).2.2 | (with_reducible refine Kd.C_alloc ?_ _) | (with_reducible refine Kd.C_drewN ?_ _) | (with_reducible refine Kd.C_drew ?_)))
    (case side4 => exact (Kd.R_reads' HO259.out).2.1)
    rintro e w29 ⟨rfl, hb⟩
    refine ⟨_, rfl, ?_⟩
    have n0_ := Aside0.mk (Kd.R_below (kR HO_252000.out) hb)
    have n1_ := Aside0.mk (Kd.R_below (kR HO259.out) hb)
    have n2_ := Aside0.mk (blk_below (g := gb251) (o := .cells #[.slice Ao8 t244.length co8, .int .u64 t247, .int .u64 t248, .int .i64 t249, .int .i64 t250] 39 (0, 0)) (kB BK251.out) hb)
    have n3_ := Aside0.mk (below_step bB hb)
    clear HO_252000
    clear HO259
    clear BK251
    clear HB
    have HO_252000 := n0_
    have HO259 := n1_
    have BK251 := n2_
    have HB := n3_
    clear n0_ n1_ n2_ n3_
    (try clear hb)
    (try clear hb2)
    (try clear hk)
    (try clear hi)
    refine hK.out _ _ ⟨(blk_cell BK251.out 0).trans rfl, (blk_cell BK251.out 1).trans rfl, (blk_cell BK251.out 2).trans rfl, (blk_cell BK251.out 3).trans rfl, (blk_cell BK251.out 4).trans rfl⟩ (fun hHeld => ?_)
    clear hK K
    refine norm_ (a' := ?_) ?_ ?_
    rotate_left
    ·show Act.put _ (some 39) _ = _
     simp only [Act.put, List.setIfInBounds_toArray, List.set_cons_zero, List.set_cons_succ, i64_w, i32_w]
     rfl
    refine pure_ (i := 7) (N := some 6) (v := ?_) (a' := ?_) #[true, true, true, true, true, true, true, true] rfl rfl (any_of HT_.out (by kernel_rfl)) (fun _ _ _ h => h) (Or.inl ⟨by rfl, ?_⟩) ?_ ?_
    rotate_left
    ·intro w'
     go_simp
     with_reducible rfl
    rotate_left
    ·simp only [Act.put, List.setIfInBounds_toArray, List.set_cons_zero, List.set_cons_succ, i64_w, i32_w]
     rfl
    refine done_ (done_of HT_.out (by kernel_rfl)) ?_
    try go_wp2
    go_ret
    exact ⟨by first | rfl | (simp [errW_none, errW_some] <;> rfl) | (simp [*, errW_none, errW_some] <;> rfl), bB⟩

end Go.Proofs.YtkkkaegocinkeaaDoor.M

