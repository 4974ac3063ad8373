import Derived.Test.YtkmdkmlgahfcpaaDoorSr
import Derived.Test.YtkmdkmlgahfcpaaDoorMm1
import Derived.Test.YtkmdkmlgahfcpaaDoorMm2
import Derived.Test.YtkmdkmlgahfcpaaDoorMm3
import Derived.Test.YtkmdkmlgahfcpaaDoorMm6
namespace Go.Proofs.YtkmdkmlgahfcpaaDoor.M
open Go.RowKit Go.Proofs.YtkmdkmlgahfcpaaDoorW.PrintWords Go.Proofs.YtkmdkmlgahfcpaaDoorW.PrintLast Go.Proofs.YtkmdkmlgahfcpaaDoorW.PrintMore
attribute [local go_sem] max2_int min2_int max_two min_two max_three min_three max_four min_four
set_option linter.unusedVariables false
set_option linter.unusedSimpArgs false
def proof_Consistency.j0 : Nat → Int → Int → Bool → Option ((List (S106)) × Int × Int × Int × Int × Option Int)
 | 0, _, _, _ => none
 | k + 1, x0, x1, x20 => if x20 = true then (some ((([] : List (S106))), 0, 0, 0, 0, none)) else ((bits_TrailingZeros64.f x0).bind fun t424 => (if 0 ≤ (IntKind.u64.wrap (t424)) then ((proof_nodes.f k (shr .u64 (IntKind.u64.wrap (x0 - 1)) (IntKind.u64.wrap (t424))) (IntKind.u64.wrap (t424)) x1).bind fun bt425 => (if (shr .u64 (IntKind.u64.wrap (x0 - 1)) (IntKind.u64.wrap (t424))) = 0 then ((proof_Nodes_skipFirst.f bt425.1 bt425.2.1 bt425.2.2.1 bt425.2.2.2.1 bt425.2.2.2.2).bind fun bt433 => (some (bt433.1, bt433.2.1, bt433.2.2.1, bt433.2.2.2.1, bt433.2.2.2.2, none))) else (some (bt425.1, bt425.2.1, bt425.2.2.1, bt425.2.2.2.1, bt425.2.2.2.2, none)))) else (none)))
def proof_Consistency.f (k : Nat) (a0 : Int) (a1 : Int) : Option ((List (S106)) × Int × Int × Int × Int × Option Int) := if a0 > a1 then none else (if a0 = a1 then (proof_Consistency.j0 k a0 a1 true) else (proof_Consistency.j0 k a0 a1 (a0 == 0)))
set_option maxHeartbeats 8000000 in
set_option maxRecDepth 100000 in
theorem proof_Consistency.calls (k : Nat) (a0 : Int) (a1 : Int) (r1 : List (S106)) (r2 : Int) (r3 : Int) (r4 : Int) (r5 : Int) (r6 : Option Int) (w : World) (hT : TabOK w) (h : proof_Consistency.f k a0 a1 = some (r1, r2, r3, r4, r5, r6)) :
  Calls Tryd.prog 69 #[.int .u64 a0, .int .u64 a1] w fun e w' => ∃ (T_ : Int → TypeId) (X_ : Int → Value), ∃ v0_ : Value, e = .returned (.tuple #[.agg #[v0_, .int .i64 r2, .int .i64 r3, .int .u64 r4, .int .u64 r5], errW T_ X_ r6]) ∧ Kd.V k106 106 w' w.heap.size (fun k_ => (w.heap.size ≤ k_)) v0_ r1 ∧ Below w.heap.size w w' := by
 have hu122 := Tryd.underlying122
 have HT := zM hT
 clear hT
 have HB := zM (Below.refl w.heap.size w)
 have H : (if a0 > a1 then none else (if a0 = a1 then (proof_Consistency.j0 k a0 a1 true) else (proof_Consistency.j0 k a0 a1 (a0 == 0)))) = some (r1, r2, r3, r4, r5, r6) := h
 clear h
 by_cases c3 : a0 > a1
 ·rw [if_pos c3] at H
  cases H
 ·rw [if_neg c3] at H
  have c3b0 : decide (a1 < a0) = false := decide_eq_false c3
  clear c3
  have HC8 := zM H
  clear H
  go_enter Tryd.func69, Tryd.ntmps69
  go_upto_region 3 with (first | ((with_reducible refine gate_dst (N := 4) rfl ?_); refine bx 4 #[.slice none 0 0, .int .i64 0, .int .i64 0, .int .u64 0, .int .u64 0] 122 ?_; intro gb419 hg w9 hbox hb; have BK419 := zM (hbox); have GW419 := zM ((gB hg : w.heap.size ≤ gb419)); have GE419 := zM ((gB hg : w.heap.size ≤ gb419)); replace HB := zM (below_step bB hb); clear hb hbox hg))
  (try simp only [Act.put, List.setIfInBounds_toArray, List.set_cons_zero, List.set_cons_succ])
  go_cut [20] (fun v20 wc => ∃ (kq : Nat) (x20_7 : Bool), v20 = .bool x20_7 ∧ Aside0 (proof_Consistency.j0 kq a0 a1 x20_7 = some (r1, r2, r3, r4, r5, r6)) ∧ Aside0 (kq ≤ k) ∧ Aside0 (wc.heap[gb419]? = some (.cells #[(.slice none 0 0), .int .i64 0, .int .i64 0, .int .u64 0, .int .u64 0] 122 (0, 0))) ∧ Aside0 (Below w.heap.size w wc))
  case first =>
   have H := HC8.out
   clear HC8
   by_cases c10 : a0 = a1
   ·rw [if_pos c10] at H
    have c10b0 : (a0 == a1) = true := beq_iff_eq.mpr c10
    have c10b1 : (a0 != a1) = false := bne_eq_false_iff_eq.mpr c10
    clear c10
    (first | rw [c10b0] | (simp only [i64_w, i32_w]; rw [c10b0]) | skip)
    have H' := zM H
    clear H
    go_wp2
    go_meet
    case rel => exact ⟨_, (true), sR, H', ⟨by first | omega | exact Nat.le_refl _⟩, ⟨by refine kU ?_; exact BK419.out⟩, ⟨bB⟩⟩
   ·rw [if_neg c10] at H
    have c10b0 : (a0 == a1) = false := beq_eq_false_iff_ne.mpr c10
    have c10b1 : (a0 != a1) = true := bne_iff_ne.mpr c10
    (first | rw [c10b0] | (simp only [i64_w, i32_w]; rw [c10b0]) | skip)
    have H' := zM H
    clear H
    go_wp2
    go_meet
    case rel => exact ⟨_, ((a0 == 0)), sR, H', ⟨by first | omega | exact Nat.le_refl _⟩, ⟨by refine kU ?_; exact BK419.out⟩, ⟨bB⟩⟩
  case rest =>
   clear HC8
   try clear c1
   try clear p2
   try clear c3
   try clear c3b0
   try clear c6
   try clear c8
   try clear c10
   try clear c10b0
   try clear c10b1
   try clear hcz7_0
   try clear hcz7_1
   try clear hcz7_2
   try clear hcz7_3
   try clear hcz7_4
   try clear hfz7_0
   try clear hfz7_1
   try clear hfz7_2
   try clear hfz7_3
   try clear hfz7_4
   obtain ⟨kq, x20_7, rfl, HA, HJ7, BK419, HB⟩ := hcut
   cases kq with
   | zero => exact absurd HA.out (by simp [proof_Consistency.j0])
   | succ kj7 =>
    have H := HA.out
    clear HA
    simp only [proof_Consistency.j0] at H
    by_cases c11 : x20_7 = true
    ·subst c11
     have H1 : (some ((([] : List (S106))), 0, 0, 0, 0, none)) = some (r1, r2, r3, r4, r5, r6) := by rw [if_pos rfl] at H; exact H
     clear H
     have H := H1
     clear H1
     obtain ⟨y421, hy421⟩ : ∃ y_ : List (S106), y_ = (([] : List (S106))) := ⟨_, rfl⟩
     replace H : (some (y421, 0, 0, 0, 0, none)) = some (r1, r2, r3, r4, r5, r6) := by first | (rw [hy421]; with_reducible exact H) | (have H := (Option.bind_some _ _).symm.trans H; first | (rw [hy421]; with_reducible exact H) | with_reducible exact H) | (rw [hy421]; exact H) | exact H
     have Ny421 := zM hy421
     clear hy421
     simp only [Option.some.injEq, Prod.mk.injEq] at H
     obtain ⟨rfl, rfl, rfl, rfl, rfl, rfl⟩ := H
     go_wp2_with (first | ((with_reducible refine gate_dst (N := 21) rfl ?_); refine Kd.R_lit k106 _ 106 ?hg (N := 21) ?hd (xs := ([] : List (S106))) (inner := []) (ok := fun _ => True) (okp := fun _ => True) ?hr ?hp (fun _ hk => hk) trivial (Below.refl _ _) (Nat.le_refl _) (by simp) ?_; (case hd => rfl); (case hg => rfl); (case hr => first | (go_simp; done) | (go_simp; rfl)); (case hp => exact (Reps.none _ _)); intro v422 w12 ho13 hb hg_ hnew_; clear hg_ hnew_; (first | rw [← Ny421.out] at ho13 | (simp only [Int.reduceToNat] at ho13; rw [← Ny421.out] at ho13)); have HO423 := zM (Kd.R_lower (Kd.R_newM (M := fun k_ => (w.heap.size ≤ k_)) ho13 (below_size bB) (fun k_ h_ => h_)) (below_size bB)); replace BK419 := zM (bK BK419 hb); replace HB := zM (below_step bB hb); clear hb ho13; obtain ⟨Ao14, co14, eo14⟩ := Kd.R_slice HO423.out; subst eo14; obtain ⟨hcz15_0, hcz15_1, hcz15_2, hcz15_3, hcz15_4⟩ := h5 BK419; obtain ⟨hfz15_0, hfz15_1, hfz15_2, hfz15_3, hfz15_4⟩ := f5 BK419))
     refine bodyPost_ret (results_ct rfl _ _ gb419 122 #[.slice Ao14 y421.length co14, .int .i64 0, .int .i64 0, .int .u64 0, .int .u64 0] (0, 0) _ rfl (by refine kU ?_; refine blk_put (cs := #[.slice Ao14 y421.length co14, .int .i64 0, .int .i64 0, .int .u64 0, .int .u64 0]) ?_ 4 _ rfl; refine kU ?_; refine blk_put (cs := #[.slice Ao14 y421.length co14, .int .i64 0, .int .i64 0, .int .u64 0, .int .u64 0]) ?_ 3 _ rfl; refine kU ?_; refine blk_put (cs := #[.slice Ao14 y421.length co14, .int .i64 0, .int .i64 0, .int .u64 0, .int .u64 0]) ?_ 2 _ rfl; refine kU ?_; refine blk_put (cs := #[.slice Ao14 y421.length co14, .int .i64 0, .int .i64 0, .int .u64 0, .int .u64 0]) ?_ 1 _ rfl; refine kU ?_; refine blk_put (cs := #[.slice none 0 0, .int .i64 0, .int .i64 0, .int .u64 0, .int .u64 0]) ?_ 0 _ rfl; refine kU ?_; exact BK419.out) Tryd.underlying122 rfl (by kernel_rfl)) rfl ?_
     exact ⟨(fun _ => 0), (fun _ => .nilIface), _, by first | rfl | (simp [errW_none, errW_some] <;> rfl) | (simp [*, errW_none, errW_some] <;> rfl), Kd.R_V (by refine vR ?_; exact Kd.R_mono (Kd.R_far (p := ⟨gb419, 4, none⟩) (Kd.R_far (p := ⟨gb419, 3, none⟩) (Kd.R_far (p := ⟨gb419, 2, none⟩) (Kd.R_far (p := ⟨gb419, 1, none⟩) (Kd.R_far (p := ⟨gb419, 0, none⟩) (Kd.R_types HO423.out BK419.out (by decide)) (fun _ hk => hk.2) (.slice Ao14 y421.length co14)) (fun _ hk => hk.2) (.int .i64 0)) (fun _ hk => hk.2) (.int .i64 0)) (fun _ hk => hk.2) (.int .u64 0)) (fun _ hk => hk.2) (.int .u64 0)) (fun _ hk => hk.1.1)), bB⟩
    ·replace c11 := Bool.eq_false_iff.mpr c11
     subst c11
     have H1 : ((bits_TrailingZeros64.f a0).bind fun t424 => (if 0 ≤ (IntKind.u64.wrap (t424)) then ((proof_nodes.f kj7 (shr .u64 (IntKind.u64.wrap (a0 - 1)) (IntKind.u64.wrap (t424))) (IntKind.u64.wrap (t424)) a1).bind fun bt425 => (if (shr .u64 (IntKind.u64.wrap (a0 - 1)) (IntKind.u64.wrap (t424))) = 0 then ((proof_Nodes_skipFirst.f bt425.1 bt425.2.1 bt425.2.2.1 bt425.2.2.2.1 bt425.2.2.2.2).bind fun bt433 => (some (bt433.1, bt433.2.1, bt433.2.2.1, bt433.2.2.2.1, bt433.2.2.2.2, none))) else (some (bt425.1, bt425.2.1, bt425.2.2.1, bt425.2.2.2.1, bt425.2.2.2.2, none)))) else (none))) = some (r1, r2, r3, r4, r5, r6) := by rw [if_neg (show ¬ (false = true) by decide)] at H; exact H
     clear H
     have H := H1
     clear H1
     replace H := Option.bind_eq_some_iff.mp H
     obtain ⟨t424, A160, H⟩ := H
     (try dsimp only at H)
     have A16 := zM A160
     clear A160
     obtain ⟨ji17, hji17⟩ : ∃ j_ : Int, (IntKind.u64.wrap (t424)) = j_ := ⟨_, rfl⟩
     replace H : (if 0 ≤ (ji17) then ((proof_nodes.f kj7 (shr .u64 (IntKind.u64.wrap (a0 - 1)) (ji17)) (ji17) a1).bind fun bt425 => (if (shr .u64 (IntKind.u64.wrap (a0 - 1)) (ji17)) = 0 then ((proof_Nodes_skipFirst.f bt425.1 bt425.2.1 bt425.2.2.1 bt425.2.2.2.1 bt425.2.2.2.2).bind fun bt433 => (some (bt433.1, bt433.2.1, bt433.2.2.1, bt433.2.2.2.1, bt433.2.2.2.2, none))) else (some (bt425.1, bt425.2.1, bt425.2.2.1, bt425.2.2.2.1, bt425.2.2.2.2, none)))) else (none)) = some (r1, r2, r3, r4, r5, r6) := by first | (rw [hji17] at H; exact H) | (simp only [hji17] at H ⊢; exact H)
     (try rw [hji17] at A16)
     by_cases c18 : 0 ≤ (ji17)
     ·rw [if_pos c18] at H
      have c18b0 := eq_true c18
      have c18b1 : decide (0 ≤ (ji17)) = true := decide_eq_true c18
      clear c18
      obtain ⟨ji19, hji19⟩ : ∃ j_ : Int, (shr .u64 (IntKind.u64.wrap (a0 - 1)) (ji17)) = j_ := ⟨_, rfl⟩
      replace H : ((proof_nodes.f kj7 (ji19) (ji17) a1).bind fun bt425 => (if (ji19) = 0 then ((proof_Nodes_skipFirst.f bt425.1 bt425.2.1 bt425.2.2.1 bt425.2.2.2.1 bt425.2.2.2.2).bind fun bt433 => (some (bt433.1, bt433.2.1, bt433.2.2.1, bt433.2.2.2.1, bt433.2.2.2.2, none))) else (some (bt425.1, bt425.2.1, bt425.2.2.1, bt425.2.2.2.1, bt425.2.2.2.2, none)))) = some (r1, r2, r3, r4, r5, r6) := by first | (rw [hji19] at H; exact H) | (simp only [hji19] at H ⊢; exact H)
      (try rw [hji19] at A16)
      have hji19_ : ((IntKind.u64.wrap (a0 - 1)) / 2 ^ min (ji17).toNat 64) = ji19 := hji19
      have hji19z : (ji17) ≤ 64 → ((IntKind.u64.wrap (a0 - 1)) / 2 ^ (ji17).toNat) = ji19 := shr_small hji19
      replace H := Option.bind_eq_some_iff.mp H
      obtain ⟨⟨t425, t428, t429, t430, t431⟩, A200, H⟩ := H
      (try dsimp only at H)
      have A20 := zM A200
      clear A200
      by_cases c21 : (ji19) = 0
      ·rw [if_pos c21] at H
       have c21b0 : ((ji19) == 0) = true := beq_iff_eq.mpr c21
       have c21b1 : ((ji19) != 0) = false := bne_eq_false_iff_eq.mpr c21
       clear c21
       replace H := Option.bind_eq_some_iff.mp H
       obtain ⟨⟨t433, t436, t437, t438, t439⟩, A220, H⟩ := H
       (try dsimp only at H)
       have A22 := zM A220
       clear A220
       simp only [Option.some.injEq, Prod.mk.injEq] at H
       obtain ⟨rfl, rfl, rfl, rfl, rfl, rfl⟩ := H
       go_wp2_with (first | ((with_reducible refine gate_callee (f := 83) rfl ?_); refine goesL_ (some 24) rfl rfl Tryd.func83 (by kernel_rfl) rfl #[.int .u64 a0] rfl aV ?_; (with_reducible refine (bits_TrailingZeros64.calls a0 t424 _ ?side1 A16.out).mono ?_); (case side1 => exact TabOK.below HT.out bB); rintro e w' ⟨rfl, ⟨nd, rfl⟩⟩; refine ⟨_, rfl, ?_⟩; (try (rw [drewN_self wc]; generalize hq_ : World.drewN wc _ = wc; have n0_ : Aside0 (wc.heap[gb419]? = some (.cells #[.slice none 0 0, .int .i64 0, .int .i64 0, .int .u64 0, .int .u64 0] 122 (0, 0))) := ⟨by rw [← hq_]; exact (kB BK419.out)⟩; have n1_ : Aside0 (Below w.heap.size w wc) := ⟨by rw [← hq_]; exact bB⟩; clear BK419 HB hq_; have BK419 := n0_; have HB := n1_; clear n0_ n1_))) | ((with_reducible refine gate_callee (f := 102) rfl ?_); refine goesL_ (some 33) rfl rfl Tryd.func102 (by kernel_rfl) rfl #[.int .u64 ji19, .int .u64 ji17, .int .u64 a1] rfl (by (try simp only [List.map_toArray, List.map_cons, List.map_nil]); first | done | (simp only [hji17, hji19]; rfl) | rfl | (simp only [List.length_drop, List.length_take]; rfl)) ?_; (with_reducible refine (proof_nodes.calls kj7 ji19 ji17 a1 t425 t428 t429 t430 t431 _ ?side1 A20.out).mono ?_); (case side1 => exact TabOK.below HT.out bB); rintro e w23 ⟨v426, rfl, ho0, hb⟩; refine ⟨_, rfl, ?_⟩; have HO427 := zM (Kd.R_lower (Kd.R_newM (M := fun k_ => (w.heap.size ≤ k_)) ho0 (below_size bB) (fun k_ h_ => h_)) (below_size bB)); replace BK419 := zM (bK BK419 hb); replace HB := zM (below_step bB hb)) | ((with_reducible refine gate_dst (N := 8) rfl ?_); refine bx 8 #[.slice none 0 0, .int .i64 0, .int .i64 0, .int .u64 0, .int .u64 0] 122 ?_; intro gb432 hg w24 hbox hb; replace HO427 := zM (Kd.R_below (kR HO427.out) hb); have BK432 := zM (hbox); have GW432 := zM ((gB hg : w.heap.size ≤ gb432)); have GE432 := zM ((gB hg : w.heap.size ≤ gb432)); replace HB := zM (below_step bB hb); have NB419_432 := zM ((by rw [hg]; exact Nat.ne_of_lt (blk_lt (g := gb419) (o := .cells #[.slice none 0 0, .int .i64 0, .int .i64 0, .int .u64 0, .int .u64 0] 122 (0, 0)) (kB BK419.out)) : gb419 ≠ gb432)); have NB432_419 := zM ((by rw [hg]; exact Nat.ne_of_gt (blk_lt (g := gb419) (o := .cells #[.slice none 0 0, .int .i64 0, .int .i64 0, .int .u64 0, .int .u64 0] 122 (0, 0)) (kB BK419.out)) : gb432 ≠ gb419)); replace BK419 := zM (bK BK419 hb); clear hb hbox hg; obtain ⟨Ao25, co25, eo25⟩ := Kd.R_slice HO427.out; subst eo25; have hnb26 := NB432_419.out; have hnc26 := NB419_432.out; obtain ⟨hcz27_0, hcz27_1, hcz27_2, hcz27_3, hcz27_4⟩ := h5 BK432; obtain ⟨hfz27_0, hfz27_1, hfz27_2, hfz27_3, hfz27_4⟩ := f5 BK432) | ((with_reducible refine gate_store (t := 122) (p := 8) rfl ?_); refine store_event (t := 122) (p := 8) (v := ?vo_w28) (w1 := (((((w24.setCell ⟨gb432, 0, none⟩ (.slice Ao25 t425.length co25)).setCell ⟨gb432, 1, none⟩ (.int .i64 t428)).setCell ⟨gb432, 2, none⟩ (.int .i64 t429)).setCell ⟨gb432, 3, none⟩ (.int .u64 t430)).setCell ⟨gb432, 4, none⟩ (.int .u64 t431))) ?hg ?ho ?hn ?hr ?_; (case ho => rfl); (case hg => rfl); (case hn => rfl); (case hr => first | (go_simp; done) | (go_simp; rfl)); intro w28 hw; have n0_ : Aside0 (Kd.R k106 106 w28 w.heap.size (fun k_ => (w.heap.size ≤ k_)) (.slice Ao25 t425.length co25) t425) := ⟨(by rw [hw]; exact (by refine vR ?_; exact Kd.R_mono (Kd.R_far (p := ⟨gb432, 4, none⟩) (Kd.R_far (p := ⟨gb432, 3, none⟩) (Kd.R_far (p := ⟨gb432, 2, none⟩) (Kd.R_far (p := ⟨gb432, 1, none⟩) (Kd.R_far (p := ⟨gb432, 0, none⟩) (Kd.R_types HO427.out BK432.out (by decide)) (fun _ hk => hk.2) (.slice Ao25 t425.length co25)) (fun _ hk => hk.2) (.int .i64 t428)) (fun _ hk => hk.2) (.int .i64 t429)) (fun _ hk => hk.2) (.int .u64 t430)) (fun _ hk => hk.2) (.int .u64 t431)) (fun _ hk => hk.1.1)))⟩; have n1_ : Aside0 (w28.heap[gb419]? = some (.cells #[.slice none 0 0, .int .i64 0, .int .i64 0, .int .u64 0, .int .u64 0] 122 (0, 0))) := ⟨(by rw [hw]; exact (by refine kU ?_; refine blk_far ?_ NB419_432.out _; refine kU ?_; refine blk_far ?_ NB419_432.out _; refine kU ?_; refine blk_far ?_ NB419_432.out _; refine kU ?_; refine blk_far ?_ NB419_432.out _; refine kU ?_; refine blk_far ?_ NB419_432.out _; refine kU ?_; exact BK419.out))⟩; have n2_ : Aside0 (w28.heap[gb432]? = some (.cells #[.slice Ao25 t425.length co25, .int .i64 t428, .int .i64 t429, .int .u64 t430, .int .u64 t431] 122 (0, 0))) := ⟨(by rw [hw]; exact (by refine kU ?_; refine blk_put (cs := #[.slice Ao25 t425.length co25, .int .i64 t428, .int .i64 t429, .int .u64 t430, .int .u64 0]) ?_ 4 _ rfl; refine kU ?_; refine blk_put (cs := #[.slice Ao25 t425.length co25, .int .i64 t428, .int .i64 t429, .int .u64 0, .int .u64 0]) ?_ 3 _ rfl; refine kU ?_; refine blk_put (cs := #[.slice Ao25 t425.length co25, .int .i64 t428, .int .i64 0, .int .u64 0, .int .u64 0]) ?_ 2 _ rfl; refine kU ?_; refine blk_put (cs := #[.slice Ao25 t425.length co25, .int .i64 0, .int .i64 0, .int .u64 0, .int .u64 0]) ?_ 1 _ rfl; refine kU ?_; refine blk_put (cs := #[.slice none 0 0, .int .i64 0, .int .i64 0, .int .u64 0, .int .u64 0]) ?_ 0 _ rfl; refine kU ?_; exact BK432.out))⟩; have n3_ : Aside0 (Below w.heap.size w w28) := ⟨(by rw [hw]; exact bB)⟩; clear hw; clear HO427; clear BK419; clear BK432; clear HB; have HO427 := n0_; have BK419 := n1_; have BK432 := n2_; have HB := n3_; clear n0_ n1_ n2_ n3_; obtain ⟨hcz29_0, hcz29_1, hcz29_2, hcz29_3, hcz29_4⟩ := h5 BK432; obtain ⟨hfz29_0, hfz29_1, hfz29_2, hfz29_3, hfz29_4⟩ := f5 BK432) | ((with_reducible refine gate_callee (f := 103) rfl ?_); refine goesL_ (some 37) rfl rfl Tryd.func103 (by kernel_rfl) rfl #[.agg #[.slice Ao25 t425.length co25, .int .i64 t428, .int .i64 t429, .int .u64 t430, .int .u64 t431]] rfl aV ?_; (with_reducible refine (proof_Nodes_skipFirst.calls (fun k_ => some k_ = (.slice Ao25 t425.length co25 : Value).ownBlock) _ _ t425 t428 t429 t430 t431 t433 t436 t437 t438 t439 _ ?side1 A22.out).mono ?_); (case side1 => first | exact Kd.R_V (Kd.R_tight rfl (Kd.R_types (Kd.R_types (HO427.out) BK419.out (by decide)) BK432.out (by decide))) | exact Kd.V_mono Kd.R_V (Kd.R_tight rfl (Kd.R_types (Kd.R_types (HO427.out) BK419.out (by decide)) BK432.out (by decide))) (fun k_ h_ => by simp only [and_assoc] at h_ ⊢; exact h_)); rintro e w30 ⟨v434, rfl, ho0, hb⟩; refine ⟨_, rfl, ?_⟩; have HO435 := zM (Kd.V_lower (Kd.V_mono (ok' := fun k_ => (w.heap.size ≤ k_) ∧ k_ ≠ gb419 ∧ k_ ≠ gb432) ho0 (fun k_ hk_ => ⟨Or.elim hk_ (fun hs_ => ((Kd.R_types (Kd.R_types (HO427.out) BK419.out (by decide)) BK432.out (by decide)).1 k_ hs_.symm).1.1) (fun hn_ => (Nat.le_trans (below_size bB) hn_)), Or.elim hk_ (fun hs_ => ((Kd.R_types (Kd.R_types (HO427.out) BK419.out (by decide)) BK432.out (by decide)).1 k_ hs_.symm).1.2) (fun hn_ => (Kd.freshB (g := gb419) (o := .cells #[.slice none 0 0, .int .i64 0, .int .i64 0, .int .u64 0, .int .u64 0] 122 (0, 0)) (kB BK419.out) k_ hn_)), Or.elim hk_ (fun hs_ => ((Kd.R_types (Kd.R_types (HO427.out) BK419.out (by decide)) BK432.out (by decide)).1 k_ hs_.symm).2) (fun hn_ => (Kd.freshB (g := gb432) (o := .cells #[.slice Ao25 t425.length co25, .int .i64 t428, .int .i64 t429, .int .u64 t430, .int .u64 t431] 122 (0, 0)) (kB BK432.out) k_ hn_))⟩)) (below_size bB)); replace HO427 := zM (Kd.R_below (kR HO427.out) hb); replace BK419 := zM (bK BK419 hb); replace BK432 := zM (bK BK432 hb); replace HB := zM (below_step bB hb); obtain ⟨Ao31, co31, eo31⟩ := Kd.V_slice HO435.out; subst eo31; obtain ⟨hcz32_0, hcz32_1, hcz32_2, hcz32_3, hcz32_4⟩ := h5 BK419; obtain ⟨hfz32_0, hfz32_1, hfz32_2, hfz32_3, hfz32_4⟩ := f5 BK419))
       refine bodyPost_ret (results_ct rfl _ _ gb419 122 #[.slice Ao31 t433.length co31, .int .i64 t436, .int .i64 t437, .int .u64 t438, .int .u64 t439] (0, 0) _ rfl (by refine kU ?_; refine blk_put (cs := #[.slice Ao31 t433.length co31, .int .i64 t436, .int .i64 t437, .int .u64 t438, .int .u64 0]) ?_ 4 _ rfl; refine kU ?_; refine blk_put (cs := #[.slice Ao31 t433.length co31, .int .i64 t436, .int .i64 t437, .int .u64 0, .int .u64 0]) ?_ 3 _ rfl; refine kU ?_; refine blk_put (cs := #[.slice Ao31 t433.length co31, .int .i64 t436, .int .i64 0, .int .u64 0, .int .u64 0]) ?_ 2 _ rfl; refine kU ?_; refine blk_put (cs := #[.slice Ao31 t433.length co31, .int .i64 0, .int .i64 0, .int .u64 0, .int .u64 0]) ?_ 1 _ rfl; refine kU ?_; refine blk_put (cs := #[.slice none 0 0, .int .i64 0, .int .i64 0, .int .u64 0, .int .u64 0]) ?_ 0 _ rfl; refine kU ?_; exact BK419.out) Tryd.underlying122 rfl (by kernel_rfl)) rfl ?_
       exact ⟨(fun _ => 0), (fun _ => .nilIface), _, by first | rfl | (simp [errW_none, errW_some] <;> rfl) | (simp only [← hji17, ← hji19]; first | rfl | (simp [errW_none, errW_some] <;> rfl)) | (simp [*, errW_none, errW_some] <;> rfl), by refine vV ?_; exact Kd.V_mono (Kd.V_far (p := ⟨gb419, 4, none⟩) (Kd.V_far (p := ⟨gb419, 3, none⟩) (Kd.V_far (p := ⟨gb419, 2, none⟩) (Kd.V_far (p := ⟨gb419, 1, none⟩) (Kd.V_far (p := ⟨gb419, 0, none⟩) (Kd.V_mono HO435.out (fun k_ hk => (⟨hk, hk.2.1⟩ : _ ∧ k_ ≠ gb419))) (fun _ hk => hk.2) (.slice Ao31 t433.length co31)) (fun _ hk => hk.2) (.int .i64 t436)) (fun _ hk => hk.2) (.int .i64 t437)) (fun _ hk => hk.2) (.int .u64 t438)) (fun _ hk => hk.2) (.int .u64 t439)) (fun _ hk => hk.1.1), bB⟩
      ·rw [if_neg c21] at H
       have c21b0 : ((ji19) == 0) = false := beq_eq_false_iff_ne.mpr c21
       have c21b1 : ((ji19) != 0) = true := bne_iff_ne.mpr c21
       simp only [Option.some.injEq, Prod.mk.injEq] at H
       obtain ⟨rfl, rfl, rfl, rfl, rfl, rfl⟩ := H
       go_wp2_with (first | ((with_reducible refine gate_callee (f := 83) rfl ?_); refine goesL_ (some 24) rfl rfl Tryd.func83 (by kernel_rfl) rfl #[.int .u64 a0] rfl aV ?_; (with_reducible refine (bits_TrailingZeros64.calls a0 t424 _ ?side1 A16.out).mono ?_); (case side1 => exact TabOK.below HT.out bB); rintro e w' ⟨rfl, ⟨nd, rfl⟩⟩; refine ⟨_, rfl, ?_⟩; (try (rw [drewN_self wc]; generalize hq_ : World.drewN wc _ = wc; have n0_ : Aside0 (wc.heap[gb419]? = some (.cells #[.slice none 0 0, .int .i64 0, .int .i64 0, .int .u64 0, .int .u64 0] 122 (0, 0))) := ⟨by rw [← hq_]; exact (kB BK419.out)⟩; have n1_ : Aside0 (Below w.heap.size w wc) := ⟨by rw [← hq_]; exact bB⟩; clear BK419 HB hq_; have BK419 := n0_; have HB := n1_; clear n0_ n1_))) | ((with_reducible refine gate_callee (f := 102) rfl ?_); refine goesL_ (some 33) rfl rfl Tryd.func102 (by kernel_rfl) rfl #[.int .u64 ji19, .int .u64 ji17, .int .u64 a1] rfl (by (try simp only [List.map_toArray, List.map_cons, List.map_nil]); first | done | (simp only [hji17, hji19]; rfl) | rfl | (simp only [List.length_drop, List.length_take]; rfl)) ?_; (with_reducible refine (proof_nodes.calls kj7 ji19 ji17 a1 t425 t428 t429 t430 t431 _ ?side1 A20.out).mono ?_); (case side1 => exact TabOK.below HT.out bB); rintro e w33 ⟨v426, rfl, ho0, hb⟩; refine ⟨_, rfl, ?_⟩; have HO427 := zM (Kd.R_lower (Kd.R_newM (M := fun k_ => (w.heap.size ≤ k_)) ho0 (below_size bB) (fun k_ h_ => h_)) (below_size bB)); replace BK419 := zM (bK BK419 hb); replace HB := zM (below_step bB hb)) | ((with_reducible refine gate_dst (N := 8) rfl ?_); refine bx 8 #[.slice none 0 0, .int .i64 0, .int .i64 0, .int .u64 0, .int .u64 0] 122 ?_; intro gb432 hg w34 hbox hb; replace HO427 := zM (Kd.R_below (kR HO427.out) hb); have BK432 := zM (hbox); have GW432 := zM ((gB hg : w.heap.size ≤ gb432)); have GE432 := zM ((gB hg : w.heap.size ≤ gb432)); replace HB := zM (below_step bB hb); have NB419_432 := zM ((by rw [hg]; exact Nat.ne_of_lt (blk_lt (g := gb419) (o := .cells #[.slice none 0 0, .int .i64 0, .int .i64 0, .int .u64 0, .int .u64 0] 122 (0, 0)) (kB BK419.out)) : gb419 ≠ gb432)); have NB432_419 := zM ((by rw [hg]; exact Nat.ne_of_gt (blk_lt (g := gb419) (o := .cells #[.slice none 0 0, .int .i64 0, .int .i64 0, .int .u64 0, .int .u64 0] 122 (0, 0)) (kB BK419.out)) : gb432 ≠ gb419)); replace BK419 := zM (bK BK419 hb); clear hb hbox hg; obtain ⟨Ao35, co35, eo35⟩ := Kd.R_slice HO427.out; subst eo35; have hnb36 := NB432_419.out; have hnc36 := NB419_432.out; obtain ⟨hcz37_0, hcz37_1, hcz37_2, hcz37_3, hcz37_4⟩ := h5 BK432; obtain ⟨hfz37_0, hfz37_1, hfz37_2, hfz37_3, hfz37_4⟩ := f5 BK432; obtain ⟨hcz38_0, hcz38_1, hcz38_2, hcz38_3, hcz38_4⟩ := h5 BK419; obtain ⟨hfz38_0, hfz38_1, hfz38_2, hfz38_3, hfz38_4⟩ := f5 BK419))
       refine bodyPost_ret (results_ct rfl _ _ gb419 122 #[.slice Ao35 t425.length co35, .int .i64 t428, .int .i64 t429, .int .u64 t430, .int .u64 t431] (0, 0) _ rfl (by refine kU ?_; refine blk_put (cs := #[.slice Ao35 t425.length co35, .int .i64 t428, .int .i64 t429, .int .u64 t430, .int .u64 0]) ?_ 4 _ rfl; refine kU ?_; refine blk_put (cs := #[.slice Ao35 t425.length co35, .int .i64 t428, .int .i64 t429, .int .u64 0, .int .u64 0]) ?_ 3 _ rfl; refine kU ?_; refine blk_put (cs := #[.slice Ao35 t425.length co35, .int .i64 t428, .int .i64 0, .int .u64 0, .int .u64 0]) ?_ 2 _ rfl; refine kU ?_; refine blk_put (cs := #[.slice Ao35 t425.length co35, .int .i64 0, .int .i64 0, .int .u64 0, .int .u64 0]) ?_ 1 _ rfl; refine kU ?_; refine blk_put (cs := #[.slice none 0 0, .int .i64 0, .int .i64 0, .int .u64 0, .int .u64 0]) ?_ 0 _ rfl; refine kU ?_; refine blk_far ?_ NB419_432.out _; refine kU ?_; refine blk_far ?_ NB419_432.out _; refine kU ?_; refine blk_far ?_ NB419_432.out _; refine kU ?_; refine blk_far ?_ NB419_432.out _; refine kU ?_; refine blk_far ?_ NB419_432.out _; refine kU ?_; exact BK419.out) Tryd.underlying122 rfl (by kernel_rfl)) rfl ?_
       exact ⟨(fun _ => 0), (fun _ => .nilIface), _, by first | rfl | (simp [errW_none, errW_some] <;> rfl) | (simp only [← hji17, ← hji19]; first | rfl | (simp [errW_none, errW_some] <;> rfl)) | (simp [*, errW_none, errW_some] <;> rfl), Kd.R_V (by refine vR ?_; exact Kd.R_mono (Kd.R_far (p := ⟨gb419, 4, none⟩) (Kd.R_far (p := ⟨gb419, 3, none⟩) (Kd.R_far (p := ⟨gb419, 2, none⟩) (Kd.R_far (p := ⟨gb419, 1, none⟩) (Kd.R_far (p := ⟨gb419, 0, none⟩) (Kd.R_far (p := ⟨gb432, 4, none⟩) (Kd.R_far (p := ⟨gb432, 3, none⟩) (Kd.R_far (p := ⟨gb432, 2, none⟩) (Kd.R_far (p := ⟨gb432, 1, none⟩) (Kd.R_far (p := ⟨gb432, 0, none⟩) (Kd.R_types (Kd.R_types HO427.out BK432.out (by decide)) BK419.out (by decide)) (fun _ hk => hk.1.2) (.slice Ao35 t425.length co35)) (fun _ hk => hk.1.2) (.int .i64 t428)) (fun _ hk => hk.1.2) (.int .i64 t429)) (fun _ hk => hk.1.2) (.int .u64 t430)) (fun _ hk => hk.1.2) (.int .u64 t431)) (fun _ hk => hk.2) (.slice Ao35 t425.length co35)) (fun _ hk => hk.2) (.int .i64 t428)) (fun _ hk => hk.2) (.int .i64 t429)) (fun _ hk => hk.2) (.int .u64 t430)) (fun _ hk => hk.2) (.int .u64 t431)) (fun _ hk => hk.1.1.1)), bB⟩
     ·rw [if_neg c18] at H
      exact absurd H (by simp)
def impl_Consistency.f (k : Nat) (a0 : Int) (a1 : Int) : Option ((List (S54)) × Int × Int × Int × Int × Bool) := (proof_Consistency.f k a0 a1).bind fun bt441 => (if bt441.2.2.2.2.2.isNone = true then ((impl_fromProof.f k bt441.1 bt441.2.1 bt441.2.2.1 bt441.2.2.2.1 bt441.2.2.2.2.1).bind fun bt451 => (some (bt451.1, bt451.2.1, bt451.2.2.1, bt451.2.2.2.1, bt451.2.2.2.2, true))) else none)
set_option maxHeartbeats 8000000 in
set_option maxRecDepth 100000 in
theorem impl_Consistency.calls (k : Nat) (a0 : Int) (a1 : Int) (r1 : List (S54)) (r2 : Int) (r3 : Int) (r4 : Int) (r5 : Int) (r6 : Bool) (w : World) (hT : TabOK w) (h : impl_Consistency.f k a0 a1 = some (r1, r2, r3, r4, r5, r6)) :
  Calls Tryd.prog 34 #[.int .u64 a0, .int .u64 a1] w fun e w' => ∃ v0_ : Value, e = .returned (.tuple #[.agg #[v0_, .int .u64 r2, .int .u64 r3, .int .i64 r4, .int .i64 r5], .bool r6]) ∧ Kd.R k54 54 w' w.heap.size (fun _ => True) v0_ r1 ∧ Below w.heap.size w w' := by
 have hu68 := Tryd.underlying68
 have hu122 := Tryd.underlying122
 have hu91 := Tryd.underlying91
 have HT := zM hT
 clear hT
 have HB := zM (Below.refl w.heap.size w)
 have H : ((proof_Consistency.f k a0 a1).bind fun bt441 => (if bt441.2.2.2.2.2.isNone = true then ((impl_fromProof.f k bt441.1 bt441.2.1 bt441.2.2.1 bt441.2.2.2.1 bt441.2.2.2.2.1).bind fun bt451 => (some (bt451.1, bt451.2.1, bt451.2.2.1, bt451.2.2.2.1, bt451.2.2.2.2, true))) else none)) = some (r1, r2, r3, r4, r5, r6) := h
 clear h
 replace H := Option.bind_eq_some_iff.mp H
 obtain ⟨⟨t441, t444, t445, t446, t447, t448⟩, A30, H⟩ := H
 (try dsimp only at H)
 have A3 := zM A30
 clear A30
 rcases t448 with _ | q450
 ·have H1 : ((impl_fromProof.f k t441 t444 t445 t446 t447).bind fun bt451 => (some (bt451.1, bt451.2.1, bt451.2.2.1, bt451.2.2.2.1, bt451.2.2.2.2, true))) = some (r1, r2, r3, r4, r5, r6) := by rw [if_pos (show (none : Option Int).isNone = true by rfl)] at H; exact H
  clear H
  have H := H1
  clear H1
  try simp only [errW_none, errW_some]
  replace H := Option.bind_eq_some_iff.mp H
  obtain ⟨⟨t451, t454, t455, t456, t457⟩, A40, H⟩ := H
  (try dsimp only at H)
  have A4 := zM A40
  clear A40
  simp only [Option.some.injEq, Prod.mk.injEq] at H
  obtain ⟨rfl, rfl, rfl, rfl, rfl, rfl⟩ := H
  go_enter Tryd.func34, Tryd.ntmps34
  go_wp2_with (first | ((with_reducible refine gate_dst (N := 4) rfl ?_); refine bx 4 #[.slice none 0 0, .int .u64 0, .int .u64 0, .int .i64 0, .int .i64 0] 68 ?_; intro gb440 hg w5 hbox hb; have BK440 := zM (hbox); have GW440 := zM ((gB hg : w.heap.size ≤ gb440)); have GE440 := zM ((gB hg : w.heap.size ≤ gb440)); replace HB := zM (below_step bB hb); clear hb hbox hg) | ((with_reducible refine gate_callee (f := 69) rfl ?_); refine goesL_ (some 11) rfl rfl Tryd.func69 (by kernel_rfl) rfl #[.int .u64 a0, .int .u64 a1] rfl aV ?_; (with_reducible refine (proof_Consistency.calls k a0 a1 t441 t444 t445 t446 t447 none _ ?side1 A3.out).mono ?_); (case side1 => exact TabOK.below HT.out bB); rintro e w6 ⟨Tt448, Xt448, v442, rfl, ho0, hb⟩; refine ⟨_, rfl, ?_⟩; have HO443 := zM (Kd.V_lower (Kd.V_mono (ok' := fun k_ => k_ ≠ gb440) ho0 (fun k_ hk_ => (Kd.freshB (g := gb440) (o := .cells #[.slice none 0 0, .int .u64 0, .int .u64 0, .int .i64 0, .int .i64 0] 68 (0, 0)) (kB BK440.out) k_ hk_))) (below_size bB)); replace BK440 := zM (bK BK440 hb); replace HB := zM (below_step bB hb); (try simp only [errW_none, errW_some])) | ((with_reducible refine gate_dst (N := 6) rfl ?_); refine bx 6 #[.slice none 0 0, .int .i64 0, .int .i64 0, .int .u64 0, .int .u64 0] 122 ?_; intro gb449 hg w7 hbox hb; replace HO443 := zM (Kd.V_below (Kd.V_elderB (kV HO443.out) gb449 (Nat.le_of_eq hg.symm)) hb); have BK449 := zM (hbox); have GW449 := zM ((gB hg : w.heap.size ≤ gb449)); have GE449 := zM ((gB hg : w.heap.size ≤ gb449)); replace HB := zM (below_step bB hb); have NB440_449 := zM ((by rw [hg]; exact Nat.ne_of_lt (blk_lt (g := gb440) (o := .cells #[.slice none 0 0, .int .u64 0, .int .u64 0, .int .i64 0, .int .i64 0] 68 (0, 0)) (kB BK440.out)) : gb440 ≠ gb449)); have NB449_440 := zM ((by rw [hg]; exact Nat.ne_of_gt (blk_lt (g := gb440) (o := .cells #[.slice none 0 0, .int .u64 0, .int .u64 0, .int .i64 0, .int .i64 0] 68 (0, 0)) (kB BK440.out)) : gb449 ≠ gb440)); replace BK440 := zM (bK BK440 hb); clear hb hbox hg; obtain ⟨Ao8, co8, eo8⟩ := Kd.V_slice HO443.out; subst eo8; have hnb9 := NB449_440.out; have hnc9 := NB440_449.out; obtain ⟨hcz10_0, hcz10_1, hcz10_2, hcz10_3, hcz10_4⟩ := h5 BK449; obtain ⟨hfz10_0, hfz10_1, hfz10_2, hfz10_3, hfz10_4⟩ := f5 BK449) | ((with_reducible refine gate_callee (f := 70) rfl ?_); refine goesL_ (some 18) rfl rfl Tryd.func70 (by kernel_rfl) rfl #[.agg #[.slice Ao8 t441.length co8, .int .i64 t444, .int .i64 t445, .int .u64 t446, .int .u64 t447]] rfl aV ?_; (with_reducible refine (impl_fromProof.calls k _ _ t441 t444 t445 t446 t447 t451 t454 t455 t456 t457 _ ?side1 ?side2 A4.out).mono ?_); (case side1 => refine (Kd.V_reads' (e := 106) (base := w.heap.size) (ok := fun k_ => (k_ ≠ gb440 ∧ k_ ≠ gb449)) (n := t441.length) (c := co8) ?_).2.2; exact (by refine vV ?_; exact (Kd.V_mono (Kd.V_far (p := ⟨gb449, 4, none⟩) (Kd.V_far (p := ⟨gb449, 3, none⟩) (Kd.V_far (p := ⟨gb449, 2, none⟩) (Kd.V_far (p := ⟨gb449, 1, none⟩) (Kd.V_far (p := ⟨gb449, 0, none⟩) (Kd.V_mono HO443.out (fun k_ hk => (⟨hk, hk.2⟩ : _ ∧ k_ ≠ gb449))) (fun _ hk => hk.2) (.slice Ao8 t441.length co8)) (fun _ hk => hk.2) (.int .i64 t444)) (fun _ hk => hk.2) (.int .i64 t445)) (fun _ hk => hk.2) (.int .u64 t446)) (fun _ hk => hk.2) (.int .u64 t447)) (fun _ h_ => h_.1)))); (case side2 => exact (Kd.V_reads' HO443.out).2.1); rintro e w11 ⟨v452, rfl, ho0, hb⟩; refine ⟨_, rfl, ?_⟩; replace HO443 := zM (Kd.V_elder' (by refine vV ?_; exact (Kd.V_mono (Kd.V_far (p := ⟨gb449, 4, none⟩) (Kd.V_far (p := ⟨gb449, 3, none⟩) (Kd.V_far (p := ⟨gb449, 2, none⟩) (Kd.V_far (p := ⟨gb449, 1, none⟩) (Kd.V_far (p := ⟨gb449, 0, none⟩) (Kd.V_mono HO443.out (fun k_ hk => (⟨hk, hk.2⟩ : _ ∧ k_ ≠ gb449))) (fun _ hk => hk.2) (.slice Ao8 t441.length co8)) (fun _ hk => hk.2) (.int .i64 t444)) (fun _ hk => hk.2) (.int .i64 t445)) (fun _ hk => hk.2) (.int .u64 t446)) (fun _ hk => hk.2) (.int .u64 t447)) (fun _ h_ => h_.1))) (Kd.R_base ho0) hb); have HO453 := zM (Kd.R_lower ho0 (below_size bB)); replace BK440 := zM (blk_below (g := gb440) (o := .cells #[.slice none 0 0, .int .u64 0, .int .u64 0, .int .i64 0, .int .i64 0] 68 (0, 0)) (by refine kU ?_; refine blk_far ?_ NB440_449.out _; refine kU ?_; refine blk_far ?_ NB440_449.out _; refine kU ?_; refine blk_far ?_ NB440_449.out _; refine kU ?_; refine blk_far ?_ NB440_449.out _; refine kU ?_; refine blk_far ?_ NB440_449.out _; refine kU ?_; exact BK440.out) hb); replace BK449 := zM (blk_below (g := gb449) (o := .cells #[.slice Ao8 t441.length co8, .int .i64 t444, .int .i64 t445, .int .u64 t446, .int .u64 t447] 122 (0, 0)) (by refine kU ?_; refine blk_put (cs := #[.slice Ao8 t441.length co8, .int .i64 t444, .int .i64 t445, .int .u64 t446, .int .u64 0]) ?_ 4 _ rfl; refine kU ?_; refine blk_put (cs := #[.slice Ao8 t441.length co8, .int .i64 t444, .int .i64 t445, .int .u64 0, .int .u64 0]) ?_ 3 _ rfl; refine kU ?_; refine blk_put (cs := #[.slice Ao8 t441.length co8, .int .i64 t444, .int .i64 0, .int .u64 0, .int .u64 0]) ?_ 2 _ rfl; refine kU ?_; refine blk_put (cs := #[.slice Ao8 t441.length co8, .int .i64 0, .int .i64 0, .int .u64 0, .int .u64 0]) ?_ 1 _ rfl; refine kU ?_; refine blk_put (cs := #[.slice none 0 0, .int .i64 0, .int .i64 0, .int .u64 0, .int .u64 0]) ?_ 0 _ rfl; refine kU ?_; exact BK449.out) hb); replace HB := zM (below_step bB hb); obtain ⟨Ao12, co12, eo12⟩ := Kd.R_slice HO453.out; subst eo12; obtain ⟨hcz13_0, hcz13_1, hcz13_2, hcz13_3, hcz13_4⟩ := h5 BK440; obtain ⟨hfz13_0, hfz13_1, hfz13_2, hfz13_3, hfz13_4⟩ := f5 BK440))
  refine bodyPost_ret (results_ct rfl _ _ gb440 68 #[.slice Ao12 t451.length co12, .int .u64 t454, .int .u64 t455, .int .i64 t456, .int .i64 t457] (0, 0) _ rfl (by refine kU ?_; refine blk_put (cs := #[.slice Ao12 t451.length co12, .int .u64 t454, .int .u64 t455, .int .i64 t456, .int .i64 0]) ?_ 4 _ rfl; refine kU ?_; refine blk_put (cs := #[.slice Ao12 t451.length co12, .int .u64 t454, .int .u64 t455, .int .i64 0, .int .i64 0]) ?_ 3 _ rfl; refine kU ?_; refine blk_put (cs := #[.slice Ao12 t451.length co12, .int .u64 t454, .int .u64 0, .int .i64 0, .int .i64 0]) ?_ 2 _ rfl; refine kU ?_; refine blk_put (cs := #[.slice Ao12 t451.length co12, .int .u64 0, .int .u64 0, .int .i64 0, .int .i64 0]) ?_ 1 _ rfl; refine kU ?_; refine blk_put (cs := #[.slice none 0 0, .int .u64 0, .int .u64 0, .int .i64 0, .int .i64 0]) ?_ 0 _ rfl; refine kU ?_; exact BK440.out) Tryd.underlying68 rfl (by kernel_rfl)) rfl ?_
  exact ⟨_, by first | rfl | (simp [errW_none, errW_some] <;> rfl) | (simp [*, errW_none, errW_some] <;> rfl), by refine vR ?_; exact Kd.R_mono (Kd.R_far (p := ⟨gb440, 4, none⟩) (Kd.R_far (p := ⟨gb440, 3, none⟩) (Kd.R_far (p := ⟨gb440, 2, none⟩) (Kd.R_far (p := ⟨gb440, 1, none⟩) (Kd.R_far (p := ⟨gb440, 0, none⟩) (Kd.R_types HO453.out BK440.out (by decide)) (fun _ hk => hk.2) (.slice Ao12 t451.length co12)) (fun _ hk => hk.2) (.int .u64 t454)) (fun _ hk => hk.2) (.int .u64 t455)) (fun _ hk => hk.2) (.int .i64 t456)) (fun _ hk => hk.2) (.int .i64 t457)) (fun _ hk => trivial), bB⟩
 ·have H1 : none = some (r1, r2, r3, r4, r5, r6) := by rw [if_neg (show ¬ (some q450).isNone = true by simp)] at H; exact H
  cases H1
set_option maxHeartbeats 8000000 in
set_option maxRecDepth 100000 in
theorem proof_Nodes_Rehash.gen (k : Nat) (a0 a1 a2 a3 a4 a5 : Int) (fv : Value) (hfv : IsFn Tryd.prog fv 52 (.agg #[.int .i64 a0, .int .i64 a1, .int .i64 a2, .int .u64 a3, .int .u64 a4, .int .u64 a5]))
  (B Bf : Nat) (Ai : Option Addr) (ni ci b e : Nat) (lv ix : Int) (v : Value) (xs r : List (List Int)) (w : World)
  (hR : (Kd.slice 5 (Kd.int .u8)).R 27 w B (fun _ => True) v xs) (hB : B ≤ w.heap.size) (hBf : Bf ≤ w.heap.size) (hown : ∀ k_, v.ownBlock = some k_ → Bf ≤ k_) (hn : ni = xs.length) (hbe : b ≤ e) (hen : e ≤ xs.length) (hl : xs.length < 1099511627776)
  (h : rhGo (fun l r => impl_toy_HashChildren.f k a0 a1 a2 a3 a4 a5 l r) b e (xs.length + 1) 0 [] xs = some r) :
  Calls Tryd.prog 71 #[.agg #[.slice Ai ni ci, .int .i64 (b : Int), .int .i64 (e : Int), .int .u64 lv, .int .u64 ix], v, fv] w fun e' w' => ∃ v0, e' = .returned (.tuple #[v0, .nilIface]) ∧ (Kd.slice 5 (Kd.int .u8)).R 27 w' B (fun _ => True) v0 r ∧ Below Bf w w' := by
 subst hn
 obtain ⟨A, c, rfl⟩ := Kd.R_slice hR
 have HR0 := zM hR
 have H0 := zM h
 have HFV := zM hfv
 have HBE := zM hbe
 have HEN := zM hen
 have HL := zM hl
 have HBW := zM hB
 have HBF := zM hBf
 have HOW := zM hown
 clear hR h hfv hbe hen hB hBf hown
 obtain ⟨w1, hw1⟩ : ∃ w1, w1 = w.alloc (.cells #[.slice Ai xs.length ci, .int .i64 (b : Int), .int .i64 (e : Int), .int .u64 lv, .int .u64 ix] 122) := ⟨_, rfl⟩
 have hb1 : Below w.heap.size w w1 := by rw [hw1]; exact below_alloc (Below.refl _ _) _
 have hk1 : w1.heap[w.heap.size]? = some (.cells #[.slice Ai xs.length ci, .int .i64 (b : Int), .int .i64 (e : Int), .int .u64 lv, .int .u64 ix] 122 (0, 0)) := by rw [hw1]; exact blk_new w _
 have HR1 := zM (Kd.R_below HR0.out hb1)
 have HB1 := zM (show Below Bf w w1 from hb1.mono HBF.out)
 have HKx := zM hk1
 have HRL := zM (fun (j : Nat) (hj : j ≤ xs.length) => (Kd.R_reads' HR0.out).2.1)
 have ec0 : w1.cell? ⟨w.heap.size, 0, none⟩ = some (.slice Ai xs.length ci) := (blk_cell hk1 0).trans rfl
 have hbx : w.heap.size < w1.heap.size := blk_lt hk1
 have HBX := zM hbx
 clear HR0 hb1 hk1 hbx
 go_enter Tryd.func71, Tryd.ntmps71
 have hne0 : ((xs.length : Int) != (xs.length : Int)) = false := by simp
 go_upto_region 1 with (fail)
 rw [← hw1]
 clear hw1
 generalize w.heap.size = bx at *
 go_quiet (fail)
 go_wp2
 have HR2 := zM (Kd.R_drewN HR1.out nq)
 have HB2 := zM (pw_below_drewN HB1.out nq)
 have HK2 := zM (show (w1.drewN nq).heap[bx]? = _ from HKx.out)
 clear HR1 HB1 HKx ec0 HBX
 generalize w1.drewN nq = w2 at HR2 HB2 HK2 ⊢
 go_loopg [10, 11] (xs.length + 1) (fun kq v10 v11 w' => ∃ (done xs' rest : List (List Int)) (i fuel : Nat), v10 = .int .i64 (done.length : Int) ∧ v11 = .int .i64 (i : Int) ∧ Aside0 (rest.length < kq) ∧ Aside0 (rhGo (fun l r => impl_toy_HashChildren.f k a0 a1 a2 a3 a4 a5 l r) b e fuel i done rest = some r) ∧ Aside0 (i + rest.length = xs.length ∧ done.length ≤ i) ∧ Aside0 (xs'.take done.length = done ∧ xs'.drop i = rest ∧ xs'.length = xs.length) ∧ Aside0 ((Kd.slice 5 (Kd.int .u8)).R 27 w' B (fun _ => True) (.slice A xs.length c) xs') ∧ Aside0 (w'.heap[bx]? = some (.cells #[.slice Ai xs.length ci, .int .i64 (b : Int), .int .i64 (e : Int), .int .u64 lv, .int .u64 ix] 122 (0, 0))) ∧ Aside0 (Below Bf w w'))
 case atStart => exact ⟨[], xs, xs, 0, xs.length + 1, rfl, rfl, ⟨Nat.lt_succ_self _⟩, H0, ⟨by simp, Nat.le_refl _⟩, ⟨rfl, rfl, rfl⟩, HR2, HK2, HB2⟩
 case round =>
  clear HR2 HB2 HK2 H0
  obtain ⟨done, xs', rest, i, fuel, rfl, rfl, HQ, HG, HLN, HXS, HR, HKb, HBw⟩ := hrel
  cases gk with
  | zero => exact absurd HQ.out (by omega)
  | succ k1 =>
   have hl2 : (xs.length : Int) < 1099511627776 := by have := HL.out; omega
   by_cases c1 : i < xs.length
   ·cases rest with
    | nil => exact absurd HLN.out.1 (by simp; omega)
    | cons x rest =>
    have hG := HG.out
    cases fuel with
    | zero => simp [rhGo] at hG
    | succ fuel =>
    rw [rhGo] at hG
    have hx : xs'.getD i [] = x := by
     have h1 : (xs'.drop i)[0]? = some x := by rw [HXS.out.2.1]; rfl
     rw [List.getElem?_drop, Nat.add_zero] at h1
     rw [List.getD_eq_getElem?_getD, h1]
     rfl
    have hrest : xs'.drop (i + 1) = rest := by
     rw [← List.drop_drop, HXS.out.2.1]
     rfl
    have hdl : done.length < xs.length := by have := HLN.out.2; omega
    obtain ⟨gh, cg, eA, hBg, hgl, cells, hcl⟩ := row_form2 HR.out (by rw [HXS.out.2.2]; omega)
    obtain ⟨rfl, rfl⟩ : A = some ⟨gh, 0, none⟩ ∧ c = cg := by injection eA with e1 e2 e3; exact ⟨e1, e3⟩
    clear eA
    obtain ⟨Ae, de, ecx, hE⟩ := row_elem2 HR.out i c1
    obtain ⟨Ad, dd, ecd, _⟩ := row_elem2 HR.out done.length hdl
    rw [hx] at ecx hE
    have efd := blk_frozen hcl done.length
    have hgb : gh ≠ bx := blk_ne hcl HKb.out (by decide)
    have ec1 : wr.cell? ⟨bx, 1, none⟩ = some (.int .i64 (b : Int)) := (blk_cell HKb.out 1).trans rfl
    have ec2 : wr.cell? ⟨bx, 2, none⟩ = some (.int .i64 (e : Int)) := (blk_cell HKb.out 2).trans rfl
    have HE := zM hE
    have HX := zM hx
    have HQ2 := zM (show rest.length < k1 from by have := HQ.out; simp only [List.length_cons] at this; omega)
    have HL2 := zM (show i + 1 + rest.length = xs.length from by have := HLN.out.1; simp only [List.length_cons] at this; omega)
    have HD2 := zM HLN.out.2
    have HRE := zM hrest
    have HGB := zM hgb
    have HBG := zM hBg
    have HBG2 := zM (HOW.out _ rfl)
    have HDL := zM hdl
    have i0 : (0 : Int) ≤ (i : Int) := by omega
    have i1 : (i : Int) < (xs.length : Int) := by omega
    have d0 : (0 : Int) ≤ (done.length : Int) := by omega
    have d1 : (done.length : Int) < (xs.length : Int) := by omega
    clear hE hx hrest hgb hBg hcl hgl HG hdl
    generalize hdn : done.length = dn at ecd efd d0 d1 ⊢
    have HDN := zM hdn
    clear hdn
    by_cases c2 : b ≤ i ∧ i < e
    ·rw [if_pos c2] at hG
     obtain ⟨y, hy, hG⟩ := Option.bind_eq_some_iff.mp hG
     have HY := zM hy
     have HG := zM hG
     clear hy hG
     have b1 : (b : Int) ≤ (i : Int) := by omega
     have b2 : (i : Int) < (e : Int) := by omega
     have he' : (e : Int) ≤ (xs.length : Int) := by have := HEN.out; omega
     have HC2 := zM c2
     clear c2
     obtain ⟨wo, hwo⟩ : ∃ wo, wo = wr := ⟨_, rfl⟩
     have hey : (xs'.drop (i + 1)).take (e - (i + 1)) = rest.take (e - i - 1) := by rw [HRE.out, Nat.sub_sub]
     have HY0 := zM (show rhFold (fun l r => impl_toy_HashChildren.f k a0 a1 a2 a3 a4 a5 l r) x ((xs'.drop (i + 1)).take (e - (i + 1))) = some y from by rw [hey]; exact HY.out)
     clear hey HY
     go_wp2
     go_loopg [11, 13] (e - i) (fun kq v11 v13 w' => ∃ (acc : List Int) (A13 : Option Addr) (c13 j : Nat), v11 = .int .i64 (j : Int) ∧ v13 = .slice A13 acc.length c13 ∧ Aside0 (kq = e + 1 - j) ∧ Aside0 (i < j ∧ j ≤ e) ∧ Aside0 (rhFold (fun l r => impl_toy_HashChildren.f k a0 a1 a2 a3 a4 a5 l r) acc ((xs'.drop j).take (e - j)) = some y) ∧ Aside0 ((Kd.int .u8).R 5 w' B (fun _ => True) v13 acc) ∧ Aside0 ((Kd.slice 5 (Kd.int .u8)).R 27 w' B (fun _ => True) (.slice (some ⟨gh, 0, none⟩) xs.length c) xs') ∧ Aside0 (w'.heap[bx]? = some (.cells #[.slice Ai xs.length ci, .int .i64 (b : Int), .int .i64 (e : Int), .int .u64 lv, .int .u64 ix] 122 (0, 0))) ∧ Aside0 (Below Bf w w'))
     case atStart => exact ⟨x, Ae, de, i + 1, by simp, rfl, ⟨by omega⟩, ⟨by have := HC2.out; omega⟩, HY0, HE, HR, HKb, HBw⟩
     case round =>
      subst hwo
      clear HY0 HE HR HKb HBw ecx ecd efd ec1 ec2 b1 b2
      obtain ⟨acc, A13, c13, j, rfl, rfl, HQj, HJ, HY, HE, HR, HKb, HBw⟩ := hrel
      cases gk with
      | zero => exact absurd HQj.out (by have := HJ.out; omega)
      | succ k2 =>
       have ec2 : wr.cell? ⟨bx, 2, none⟩ = some (.int .i64 (e : Int)) := (blk_cell HKb.out 2).trans rfl
       by_cases c3 : j < e
       ·have hjl : j < xs'.length := by rw [HXS.out.2.2]; have := HEN.out; omega
        have hY1 := HY.out
        rw [List.drop_eq_getElem_cons hjl, show e - j = (e - (j + 1)) + 1 by omega, List.take_succ_cons, rhFold] at hY1
        obtain ⟨z, hz, hY⟩ := Option.bind_eq_some_iff.mp hY1
        clear hY1
        obtain ⟨Ax, dx, ecx, hX⟩ := row_elem2 HR.out j (by rw [← HXS.out.2.2]; exact hjl)
        rw [show xs'.getD j [] = xs'[j] by simp [hjl]] at ecx hX
        generalize xs'[j] = xe at ecx hX hz
        have HZ := zM hz
        have HN := zM hY
        have HX3 := zM hX
        have j0 : (0 : Int) ≤ (j : Int) := by omega
        have j1 : (j : Int) < (xs.length : Int) := by have := HEN.out; omega
        have j2 : (j : Int) < (e : Int) := by omega
        clear hY hz hX HY hjl
        go_wp2_with ((with_reducible refine gate_value (x := .tmp 54) rfl ?_); refine callsFv_ (some 60) rfl rfl fv _ HFV.out #[.slice Ax xe.length dx, .slice A13 acc.length c13] #[.agg #[.int .i64 a0, .int .i64 a1, .int .i64 a2, .int .u64 a3, .int .u64 a4, .int .u64 a5], .slice Ax xe.length dx, .slice A13 acc.length c13] rfl rfl (by first | rfl | (simp only [Act.eval]; rfl)) (by (try simp only [List.map_toArray, List.map_cons, List.map_nil]); first | done | rfl) ?_; (with_reducible refine (impl_toy_HashChildren.calls k a0 a1 a2 a3 a4 a5 _ _ xe _ _ acc z _ ?side1 ?side2 ?side3 ?side4 HZ.out).mono ?_); (case side1 => exact (Kd.R_reads' HX3.out).2.2); (case side2 => exact (Kd.R_reads' HX3.out).2.1); (case side3 => exact (Kd.R_reads' HE.out).2.2); (case side4 => exact (Kd.R_reads' HE.out).2.1); rintro e' w4 ⟨v4, rfl, ho4, hb4⟩; refine ⟨_, rfl, ?_⟩; have HO4 := zM ho4; have HB4 := zM hb4; clear ho4 hb4)
        go_roundg k2
        case measure => have := HQj.out; omega
        case rel =>
         obtain ⟨A4, c4, rfl⟩ := Kd.R_slice HO4.out
         exact ⟨z, A4, c4, j + 1, by simp, rfl, ⟨by have := HQj.out; omega⟩, ⟨by have := HJ.out; omega⟩, HN, ⟨Kd.R_lower HO4.out (Nat.le_trans HBW.out (Nat.le_of_lt (blk_lt HKb.out)))⟩, ⟨Kd.R_below HR.out HB4.out⟩, ⟨blk_below HKb.out HB4.out⟩, ⟨HBw.out.trans (HB4.out.mono (Nat.le_trans HBF.out (Nat.le_of_lt (blk_lt HKb.out))))⟩⟩
       ·have hje : j = e := by have := HJ.out; omega
        subst hje
        have hY := HY.out
        rw [Nat.sub_self, List.take_zero, rhFold] at hY
        injection hY with hY
        subst hY
        have j2 : ¬ (j : Int) < (j : Int) := by omega
        have hjp : IntKind.i64.wrap ((j : Int) - 1) = ((j - 1 : Nat) : Int) := by rw [i64_w]; unfold wrap64; have := HJ.out; omega
        obtain ⟨Ad, dd, ecd, _⟩ := row_elem2 HR.out done.length HDL.out
        obtain ⟨gh', cg', eA, hBg, hgl, cells, hcl⟩ := row_form2 HR.out (by rw [HXS.out.2.2]; have := HDL.out; omega)
        obtain rfl : gh = gh' := by injection eA with e1 e2 e3; injection e1 with e1; injection e1
        have efd := blk_frozen hcl done.length
        rw [HDN.out] at ecd efd
        clear hcl hgl eA hBg HY
        go_wp2
        go_roundg k1
        case measure => omega
        case rel =>
         refine ⟨done ++ [acc], xs'.set done.length acc, rest.drop (j - i - 1), j, fuel, by rw [← HDN.out]; simp, by have := HJ.out; simp; omega, ⟨by have := HQ2.out; simp only [List.length_drop]; omega⟩, HG, ⟨by have := HL2.out; have := HJ.out; have := HEN.out; simp only [List.length_drop]; omega, by rw [List.length_append, List.length_singleton]; have := HD2.out; have := HJ.out; omega⟩, ⟨?_, ?_, ?_⟩, ⟨?_⟩, ⟨?_⟩, ⟨?_⟩⟩
         ·rw [List.length_append, List.length_singleton]; exact put_take HXS.out.1 (by rw [HXS.out.2.2]; exact HDL.out)
         ·rw [put_drop (by have := HD2.out; have := HJ.out; omega), ← HRE.out, List.drop_drop]
          congr 1
          have := HJ.out
          omega
         ·rw [List.length_set]; exact HXS.out.2.2
         ·rw [← HDN.out]; exact R_putrow2 HR.out (by rw [HXS.out.2.2]; exact HDL.out) HE.out
         ·exact blk_far HKb.out (Ne.symm HGB.out) _
         ·exact HBw.out.setCell HBG2.out _
    ·rw [if_neg c2] at hG
     have HG := zM hG
     clear hG
     by_cases c3 : b ≤ i
     ·have c4 : ¬ i < e := fun h => c2 ⟨c3, h⟩
      have b1 : (b : Int) ≤ (i : Int) := by omega
      have b2 : ¬ (i : Int) < (e : Int) := by omega
      clear c2 c3 c4
      go_wp2
      go_roundg k1
      case measure => omega
      case rel =>
       refine ⟨done ++ [x], xs'.set done.length x, rest, i + 1, fuel, by rw [← HDN.out]; simp, by simp, HQ2, HG, ⟨HL2.out, by rw [List.length_append, List.length_singleton]; have := HD2.out; omega⟩, ⟨?_, ?_, ?_⟩, ⟨?_⟩, ⟨?_⟩, ⟨?_⟩⟩
       ·rw [List.length_append, List.length_singleton]; exact put_take HXS.out.1 (by rw [HXS.out.2.2]; exact HDL.out)
       ·rw [put_drop (by have := HD2.out; omega)]; exact HRE.out
       ·rw [List.length_set]; exact HXS.out.2.2
       ·rw [← HDN.out]; exact R_putrow2 HR.out (by rw [HXS.out.2.2]; exact HDL.out) HE.out
       ·exact blk_far HKb.out (Ne.symm HGB.out) _
       ·exact HBw.out.setCell HBG2.out _
     ·have b1 : ¬ (b : Int) ≤ (i : Int) := by omega
      clear c2 c3
      go_wp2
      go_roundg k1
      case measure => omega
      case rel =>
       refine ⟨done ++ [x], xs'.set done.length x, rest, i + 1, fuel, by rw [← HDN.out]; simp, by simp, HQ2, HG, ⟨HL2.out, by rw [List.length_append, List.length_singleton]; have := HD2.out; omega⟩, ⟨?_, ?_, ?_⟩, ⟨?_⟩, ⟨?_⟩, ⟨?_⟩⟩
       ·rw [List.length_append, List.length_singleton]; exact put_take HXS.out.1 (by rw [HXS.out.2.2]; exact HDL.out)
       ·rw [put_drop (by have := HD2.out; omega)]; exact HRE.out
       ·rw [List.length_set]; exact HXS.out.2.2
       ·rw [← HDN.out]; exact R_putrow2 HR.out (by rw [HXS.out.2.2]; exact HDL.out) HE.out
       ·exact blk_far HKb.out (Ne.symm HGB.out) _
       ·exact HBw.out.setCell HBG2.out _
   ·have hi : i = xs.length := by have := HLN.out.1; omega
    have hr0 : rest = [] := by have := HLN.out.1; exact List.length_eq_zero_iff.1 (by omega)
    subst hr0
    have hG := HG.out
    cases fuel with
    | zero => simp [rhGo] at hG
    | succ fuel =>
    rw [rhGo] at hG
    injection hG with hG
    subst hG
    subst hi
    have hnlt : ¬ ((xs.length : Int) < (xs.length : Int)) := by omega
    have hcc := (Kd.R_reads' HR.out).2.1
    have hdl := HLN.out.2
    obtain ⟨i0, hi0, hz0⟩ := Option.map_eq_some_iff.1 info27
    simp only [Prod.mk.injEq] at hz0
    have HT0 := (print_take_of (P := Tryd.prog) (Value.int .u8) (0 : Int) 25 27 .i64 Tryd.underlying25 hi0 hz0.2.1 A c (List.replicate xs.length 0) (done.length : Int) (by omega) (by simp; omega) (by rw [List.length_replicate]; omega)).1
    simp only [List.length_replicate, List.length_take, Int.toNat_natCast, Nat.min_eq_left hdl] at HT0
    have HDL := zM hdl
    clear hi0 hz0 hdl hcc
    go_wp2
    go_ret2
    refine ⟨_, rfl, ?_, HBw.out⟩
    have hT := Kd.R_take HR.out (m := done.length) (by rw [HXS.out.2.2]; exact HDL.out)
    rw [HXS.out.1] at hT
    exact hT
theorem proof_Nodes_Rehash.any (k : Nat) (a0 a1 a2 a3 a4 a5 : Int) (fv : Value) (hfv : IsFn Tryd.prog fv 52 (.agg #[.int .i64 a0, .int .i64 a1, .int .i64 a2, .int .u64 a3, .int .u64 a4, .int .u64 a5]))
  (B : Nat) (Ai : Option Addr) (ni ci b e : Nat) (lv ix : Int) (v : Value) (xs r : List (List Int)) (w : World)
  (hR : (Kd.slice 5 (Kd.int .u8)).R 27 w B (fun _ => True) v xs) (hB : B ≤ w.heap.size) (hn : ni = xs.length) (hbe : b ≤ e) (hen : e ≤ xs.length) (hl : xs.length < 1099511627776)
  (h : rhGo (fun l r => impl_toy_HashChildren.f k a0 a1 a2 a3 a4 a5 l r) b e (xs.length + 1) 0 [] xs = some r) :
  Calls Tryd.prog 71 #[.agg #[.slice Ai ni ci, .int .i64 (b : Int), .int .i64 (e : Int), .int .u64 lv, .int .u64 ix], v, fv] w fun e' w' => ∃ v0, e' = .returned (.tuple #[v0, .nilIface]) ∧ (Kd.slice 5 (Kd.int .u8)).R 27 w' B (fun _ => True) v0 r ∧ Below B w w' :=
 proof_Nodes_Rehash.gen k a0 a1 a2 a3 a4 a5 fv hfv B B Ai ni ci b e lv ix v xs r w hR hB hB (fun k_ hk_ => Kd.R_base hR k_ hk_) hn hbe hen hl h
def impl_ConsistencyHashes.f (k : Nat) (a0_0 a0_1 a0_2 a0_3 a0_4 a0_5 : Int) (a1 a2 : Int) (l3 : List (List Int)) : Option (List (List Int) × Bool) :=
 (proof_Consistency.f k a1 a2).bind fun n => if n.2.2.2.2.2.isNone = true then
  ((impl_texts.f k l3).bind fun l => if l.length = n.1.length ∧ 0 ≤ n.2.1 ∧ n.2.1 ≤ n.2.2.1 ∧ n.2.2.1 ≤ (l.length : Int) ∧ l.length < 1099511627776 then
   ((rhGo (fun l r => impl_toy_HashChildren.f k a0_0 a0_1 a0_2 a0_3 a0_4 a0_5 l r) n.2.1.toNat n.2.2.1.toNat (l.length + 1) 0 [] l).bind fun r => (impl_texts.f k r).bind fun r2 => some (r2, true)) else none)
  else some ([], false)
def HeldCH (gb gh : Nat) (A2 : Option Addr) (n c2 b e : Nat) (lv ix a0 a1 a2 a3 a4 a5 : Int) (w : World) : Prop :=
 (w.cell? ⟨gb, 0, none⟩ = some (.slice A2 n c2) ∧ w.cell? ⟨gb, 1, none⟩ = some (.int .i64 (b : Int)) ∧ w.cell? ⟨gb, 2, none⟩ = some (.int .i64 (e : Int)) ∧ w.cell? ⟨gb, 3, none⟩ = some (.int .u64 lv) ∧ w.cell? ⟨gb, 4, none⟩ = some (.int .u64 ix)) ∧
  w.cell? ⟨gh, 0, none⟩ = some (.int .i64 a0) ∧ w.cell? ⟨gh, 1, none⟩ = some (.int .i64 a1) ∧ w.cell? ⟨gh, 2, none⟩ = some (.int .i64 a2) ∧ w.cell? ⟨gh, 3, none⟩ = some (.int .u64 a3) ∧ w.cell? ⟨gh, 4, none⟩ = some (.int .u64 a4) ∧ w.cell? ⟨gh, 5, none⟩ = some (.int .u64 a5)
theorem HeldCH.below {gb gh : Nat} {A2 : Option Addr} {n c2 b e : Nat} {lv ix a0 a1 a2 a3 a4 a5 : Int} {w w' : World} {B : Nat} (h : HeldCH gb gh A2 n c2 b e lv ix a0 a1 a2 a3 a4 a5 w) (hb : Below B w w') (h1 : gb < B) (h2 : gh < B) : HeldCH gb gh A2 n c2 b e lv ix a0 a1 a2 a3 a4 a5 w' := by
 obtain ⟨⟨g0, g1, g2, g3, g4⟩, k0, k1, k2, k3, k4, k5⟩ := h
 refine ⟨⟨?_, ?_, ?_, ?_, ?_⟩, ?_, ?_, ?_, ?_, ?_, ?_⟩
 all_goals first
  | exact (hb.cell (p := ⟨gb, 0, none⟩) h1).trans g0 | exact (hb.cell (p := ⟨gb, 1, none⟩) h1).trans g1 | exact (hb.cell (p := ⟨gb, 2, none⟩) h1).trans g2 | exact (hb.cell (p := ⟨gb, 3, none⟩) h1).trans g3 | exact (hb.cell (p := ⟨gb, 4, none⟩) h1).trans g4
  | exact (hb.cell (p := ⟨gh, 0, none⟩) h2).trans k0 | exact (hb.cell (p := ⟨gh, 1, none⟩) h2).trans k1 | exact (hb.cell (p := ⟨gh, 2, none⟩) h2).trans k2 | exact (hb.cell (p := ⟨gh, 3, none⟩) h2).trans k3 | exact (hb.cell (p := ⟨gh, 4, none⟩) h2).trans k4 | exact (hb.cell (p := ⟨gh, 5, none⟩) h2).trans k5
theorem toy_func (v : Value) : IsFn Tryd.prog (.func (.func 52) #[v] #[]) 52 v := isFn_func Tryd.func52 (by kernel_rfl) rfl v
set_option maxHeartbeats 8000000 in
set_option maxRecDepth 100000 in
theorem impl_ConsistencyHashes.calls (k : Nat) (a0_0 a0_1 a0_2 a0_3 a0_4 a0_5 : Int) (a1 a2 : Int) (A3 : Option Addr) (c3 : Nat) (l3 : List (List Int)) (r1 : List (List Int)) (r2 : Bool) (w : World) (hT : TabOK w)
  (hr3 : Kd.C (Kd.slice 5 (Kd.int .u8)) w A3 l3.length l3) (hc3 : l3.length ≤ c3) (h : impl_ConsistencyHashes.f k a0_0 a0_1 a0_2 a0_3 a0_4 a0_5 a1 a2 l3 = some (r1, r2)) :
  Calls Tryd.prog 36 #[.agg #[.int .i64 a0_0, .int .i64 a0_1, .int .i64 a0_2, .int .u64 a0_3, .int .u64 a0_4, .int .u64 a0_5], .int .u64 a1, .int .u64 a2, .slice A3 l3.length c3] w fun e w' => ∃ v0_ : Value, e = .returned (.tuple #[v0_, .bool r2]) ∧ Kd.S (Kd.slice 5 (Kd.int .u8)) 27 w' w.heap.size (fun _ => True) v0_ r1 ∧ Below w.heap.size w w' := by
 have HTab := zM hT
 have HR3 := zM hr3
 have HC3 := zM hc3
 clear hT hr3 hc3
 unfold impl_ConsistencyHashes.f at h
 obtain ⟨⟨ids, b, e, lv, ix, er⟩, hn, h⟩ := Option.bind_eq_some_iff.mp h
 have HN := zM hn
 clear hn
 dsimp only at h
 obtain ⟨w1, hw1⟩ : ∃ w1, w1 = w.alloc (.cells #[.int .i64 a0_0, .int .i64 a0_1, .int .i64 a0_2, .int .u64 a0_3, .int .u64 a0_4, .int .u64 a0_5] 24) := ⟨_, rfl⟩
 have hb1 : Below w.heap.size w w1 := by rw [hw1]; exact below_alloc (Below.refl _ _) _
 have hk1 : w1.heap[w.heap.size]? = some (.cells #[.int .i64 a0_0, .int .i64 a0_1, .int .i64 a0_2, .int .u64 a0_3, .int .u64 a0_4, .int .u64 a0_5] 24 (0, 0)) := by rw [hw1]; exact blk_new w _
 have HB1 := zM hb1
 have HK1 := zM hk1
 have HT1 := zM (TabOK.below HTab.out hb1)
 clear hb1 hk1
 cases er with
 | some q =>
  simp only [Option.isNone_some, Bool.false_eq_true, if_false, Option.some.injEq, Prod.mk.injEq] at h
  obtain ⟨rfl, rfl⟩ := h
  go_enter Tryd.func36, Tryd.ntmps36
  go_upto_region 1 with (fail)
  rw [← hw1]
  clear hw1
  go_wp2_with (go_at_call 69; (with_reducible refine (proof_Consistency.calls k a1 a2 ids b e lv ix (some q) w1 HT1.out HN.out).mono ?_); rintro e' w2 ⟨T_, X_, v2, rfl, hV2, hB2⟩; obtain ⟨A2, c2, rfl⟩ := Kd.V_slice hV2; have HB2 := zM (below_step HB1.out hB2); clear hV2 hB2; simp only [errW_some])
  go_ret2
  exact ⟨_, rfl, Kd.S_nil _ _ _ _ _, by repeat (first | exact HB2.out | apply below_alloc | refine Below.setCell ?_ (Nat.le_of_lt ?_) _)⟩
 | none =>
  simp only [Option.isNone_none, if_true] at h
  obtain ⟨l, hl, h⟩ := Option.bind_eq_some_iff.mp h
  by_cases c1 : l.length = ids.length ∧ 0 ≤ b ∧ b ≤ e ∧ e ≤ (l.length : Int) ∧ l.length < 1099511627776
  case neg => rw [if_neg c1] at h; exact absurd h (by simp)
  rw [if_pos c1] at h
  obtain ⟨e1, e2, e3, e4, e5⟩ := c1
  obtain ⟨b, rfl⟩ : ∃ n : Nat, b = (n : Int) := ⟨b.toNat, by omega⟩
  obtain ⟨e, rfl⟩ : ∃ n : Nat, e = (n : Int) := ⟨e.toNat, by omega⟩
  rw [Int.toNat_natCast, Int.toNat_natCast] at h
  obtain ⟨r, hr, h⟩ := Option.bind_eq_some_iff.mp h
  obtain ⟨q, hq, h⟩ := Option.bind_eq_some_iff.mp h
  simp only [Option.some.injEq, Prod.mk.injEq] at h
  obtain ⟨rfl, rfl⟩ := h
  have HL := zM hl
  have HRr := zM hr
  have HQ := zM hq
  have E1 := zM e1
  have E3 := zM (show b ≤ e by omega)
  have E4 := zM (show e ≤ l.length by omega)
  have E5 := zM e5
  clear hl hr hq e1 e2 e3 e4 e5
  go_enter Tryd.func36, Tryd.ntmps36
  go_upto_region 1 with (fail)
  rw [← hw1]
  clear hw1
  go_wp2_with (first
   | (go_at_call 69; (with_reducible refine (proof_Consistency.calls k a1 a2 ids b e lv ix none w1 HT1.out HN.out).mono ?_); rintro e' w2 ⟨T_, X_, v2, rfl, hV2, hB2⟩; obtain ⟨A2, c2, rfl⟩ := Kd.V_slice hV2; have HB2 := zM (below_step HB1.out hB2); have HK2 := zM (blk_below HK1.out hB2); clear hV2 hB2; simp only [errW_none])
   | ((with_reducible refine gate_dst (N := 10) rfl ?_); refine bx 10 #[.slice none 0 0, .int .i64 0, .int .i64 0, .int .u64 0, .int .u64 0] 122 ?_; intro gb hg w3 hbox hb; have HB3 := zM (below_step HB2.out hb); have HK3 := zM (blk_below HK2.out hb); have BK := zM hbox; have GB := zM (show w.heap.size < gb from by rw [hg]; exact blk_lt HK2.out); have f0 := blk_frozen hbox 0; have g0 : w3.cell? ⟨gb, 0, none⟩ = some (.slice none 0 0) := (blk_cell hbox 0).trans rfl; have f1 := blk_frozen hbox 1; have g1 : w3.cell? ⟨gb, 1, none⟩ = some (.int .i64 0) := (blk_cell hbox 1).trans rfl; have f2 := blk_frozen hbox 2; have g2 : w3.cell? ⟨gb, 2, none⟩ = some (.int .i64 0) := (blk_cell hbox 2).trans rfl; have f3 := blk_frozen hbox 3; have g3 : w3.cell? ⟨gb, 3, none⟩ = some (.int .u64 0) := (blk_cell hbox 3).trans rfl; have f4 := blk_frozen hbox 4; have g4 : w3.cell? ⟨gb, 4, none⟩ = some (.int .u64 0) := (blk_cell hbox 4).trans rfl; clear hg hbox hb))
  clear f0 f1 f2 f3 f4 g0 g1 g2 g3 g4
  obtain ⟨w5, hw5⟩ : ∃ w5, w5 = ((((w3.setCell ⟨gb, 0, none⟩ (.slice A2 ids.length c2)).setCell ⟨gb, 1, none⟩ (.int .i64 (b : Int))).setCell ⟨gb, 2, none⟩ (.int .i64 (e : Int))).setCell ⟨gb, 3, none⟩ (.int .u64 lv)).setCell ⟨gb, 4, none⟩ (.int .u64 ix) := ⟨_, rfl⟩
  rw [← hw5]
  have K5 : w5.heap[gb]? = some (.cells #[.slice A2 ids.length c2, .int .i64 (b : Int), .int .i64 (e : Int), .int .u64 lv, .int .u64 ix] 122 (0, 0)) := by
   rw [hw5]
   exact blk_put (blk_put (blk_put (blk_put (blk_put BK.out 0 _ rfl) 1 _ rfl) 2 _ rfl) 3 _ rfl) 4 _ rfl
  have hgn : w.heap.size ≠ gb := Nat.ne_of_lt GB.out
  have KH : w5.heap[w.heap.size]? = some (.cells #[.int .i64 a0_0, .int .i64 a0_1, .int .i64 a0_2, .int .u64 a0_3, .int .u64 a0_4, .int .u64 a0_5] 24 (0, 0)) := by
   rw [hw5]
   exact blk_far (blk_far (blk_far (blk_far (blk_far HK3.out hgn _) hgn _) hgn _) hgn _) hgn _
  have hB5 : Below w.heap.size w w5 := by
   rw [hw5]
   have := Nat.le_of_lt GB.out
   exact ((((HB3.out.setCell this _).setCell this _).setCell this _).setCell this _).setCell this _
  clear hw5 hgn
  have HB5 := zM hB5
  have HKg := zM K5
  have HKh := zM KH
  have HC5 := zM (Kd.C_below HR3.out hB5)
  have hgl := blk_lt K5
  have hhl := blk_lt KH
  generalize hgw : w.heap.size = gh at *
  have HGW := zM hgw
  clear hgw
  have g0 := (blk_cell K5 0).trans rfl
  have g1 : w5.cell? ⟨gb, 1, none⟩ = some (.int .i64 (b : Int)) := (blk_cell K5 1).trans rfl
  have g2 : w5.cell? ⟨gb, 2, none⟩ = some (.int .i64 (e : Int)) := (blk_cell K5 2).trans rfl
  have g3 : w5.cell? ⟨gb, 3, none⟩ = some (.int .u64 lv) := (blk_cell K5 3).trans rfl
  have g4 : w5.cell? ⟨gb, 4, none⟩ = some (.int .u64 ix) := (blk_cell K5 4).trans rfl
  have h0 : w5.cell? ⟨gh, 0, none⟩ = some (.int .i64 a0_0) := (blk_cell KH 0).trans rfl
  have h1 : w5.cell? ⟨gh, 1, none⟩ = some (.int .i64 a0_1) := (blk_cell KH 1).trans rfl
  have h2 : w5.cell? ⟨gh, 2, none⟩ = some (.int .i64 a0_2) := (blk_cell KH 2).trans rfl
  have h3 : w5.cell? ⟨gh, 3, none⟩ = some (.int .u64 a0_3) := (blk_cell KH 3).trans rfl
  have h4 : w5.cell? ⟨gh, 4, none⟩ = some (.int .u64 a0_4) := (blk_cell KH 4).trans rfl
  have h5 : w5.cell? ⟨gh, 5, none⟩ = some (.int .u64 a0_5) := (blk_cell KH 5).trans rfl
  replace g0 : w5.cell? ⟨gb, 0, none⟩ = some (.slice A2 ids.length c2) := g0
  have hmf : ∀ (fn : Fn) (first cap : Array Value) (w : World), (Instr.makeFunc fn first cap).run Tryd.prog w = .ok (.func fn first cap) w := fun _ _ _ _ => rfl
  clear K5 KH hB5
  have HGL := zM hgl
  have HHL := zM hhl
  clear hgl hhl
  have hS : HeldCH gb gh A2 ids.length c2 b e lv ix a0_0 a0_1 a0_2 a0_3 a0_4 a0_5 w5 := ⟨⟨g0, g1, g2, g3, g4⟩, h0, h1, h2, h3, h4, h5⟩
  have HS := zM hS
  clear hS
  go_region_held3 (fun w' => (w'.cell? ⟨gb, 0, none⟩ = some (.slice A2 ids.length c2) ∧ w'.cell? ⟨gb, 1, none⟩ = some (.int .i64 (b : Int)) ∧ w'.cell? ⟨gb, 2, none⟩ = some (.int .i64 (e : Int)) ∧ w'.cell? ⟨gb, 3, none⟩ = some (.int .u64 lv) ∧ w'.cell? ⟨gb, 4, none⟩ = some (.int .u64 ix)) ∧ w'.cell? ⟨gh, 0, none⟩ = some (.int .i64 a0_0) ∧ w'.cell? ⟨gh, 1, none⟩ = some (.int .i64 a0_1) ∧ w'.cell? ⟨gh, 2, none⟩ = some (.int .i64 a0_2) ∧ w'.cell? ⟨gh, 3, none⟩ = some (.int .u64 a0_3) ∧ w'.cell? ⟨gh, 4, none⟩ = some (.int .u64 a0_4) ∧ w'.cell? ⟨gh, 5, none⟩ = some (.int .u64 a0_5)) (first | exact HS7.out | exact HS6.out | go_keep)
   (first
    | (go_at_call 46; (with_reducible refine (impl_texts.calls k A3 c3 l3 l _ ?side1 HC3.out HL.out).mono ?_); (case side1 => first | exact HC5.out | exact Kd.C_drew HC5.out | exact Kd.C_drewN HC5.out _); rintro e' w6 ⟨v6, rfl, hS6, hB6⟩; have hb6 : Below w5.heap.size w5 w6 := (by first | exact hB6 | exact below_step (below_drew (Below.refl _ _)) hB6 | exact below_step (pw_below_drewN (Below.refl _ _) _) hB6); have HB6 := zM hb6; have HS6 := zM (HS.out.below hb6 HGL.out HHL.out); have HR6 := zM (show (Kd.slice 5 (Kd.int .u8)).R 27 w6 w5.heap.size (fun _ => True) v6 l from Kd.S_R hS6); clear hS6 hB6 hb6)
    | (go_at_call 71; (with_reducible refine (proof_Nodes_Rehash.any k a0_0 a0_1 a0_2 a0_3 a0_4 a0_5 _ (toy_func _) w5.heap.size A2 ids.length c2 b e lv ix v6 l r _ ?side1 ?side2 E1.out.symm E3.out E4.out E5.out HRr.out).mono ?_); (case side1 => first | exact HR6.out | exact Kd.R_drew HR6.out | exact Kd.R_drewN HR6.out _); (case side2 => exact HB6.out.size); rintro e' w7 ⟨v7, rfl, hR7, hB7⟩; obtain ⟨A7, c7, rfl⟩ := Kd.R_slice hR7; have hb7 : Below w5.heap.size w5 w7 := (by first | exact HB6.out.trans hB7 | exact (below_drew HB6.out).trans hB7 | exact (pw_below_drewN HB6.out _).trans hB7); have HB7 := zM hb7; have HS7 := zM (HS.out.below hb7 HGL.out HHL.out); have HR7 := zM hR7; clear hR7 hB7 hb7))
  all_goals
   go_wp2
   go_region_held3 (fun _ => True) (trivial)
    ((go_at_call 46; (with_reducible refine (impl_texts.calls k A7 c7 r q _ ?side1 ?side2 HQ.out).mono ?_); (case side1 => first | exact (Kd.R_reads' HR7.out).2.2 | exact Kd.C_drew (Kd.R_reads' HR7.out).2.2 | exact Kd.C_drewN (Kd.R_reads' HR7.out).2.2 _); (case side2 => exact (Kd.R_reads' HR7.out).2.1); rintro e' w8 ⟨v8, rfl, hS8, hB8⟩; have hb8 : Below w7.heap.size w7 w8 := (by first | exact hB8 | exact below_step (below_drew (Below.refl _ _)) hB8 | exact below_step (pw_below_drewN (Below.refl _ _) _) hB8); have HB8 := zM (HB7.out.trans (hb8.mono HB7.out.size)); have HS8 := zM (show Kd.S (Kd.slice 5 (Kd.int .u8)) 27 w8 w7.heap.size (fun _ => True) v8 q from hS8); clear hS8 hB8 hb8))
   all_goals
    go_wp2
    go_ret2
    have hgw := HGW.out
    subst hgw
    have h5 := HB5.out.size
    have h7 := HB7.out.size
    refine ⟨_, rfl, ?_, ?_⟩
    ·first
      | exact Kd.S_lower HS8.out (Nat.le_trans h5 h7)
      | exact Kd.S_drew (Kd.S_lower HS8.out (Nat.le_trans h5 h7))
      | exact Kd.S_drewN (Kd.S_lower HS8.out (Nat.le_trans h5 h7)) _
    ·first
      | exact HB5.out.trans (HB8.out.mono h5)
      | exact below_drew (HB5.out.trans (HB8.out.mono h5))
      | exact pw_below_drewN (HB5.out.trans (HB8.out.mono h5)) _
def laws_growthLeaf.f (a0 : Int) (l1 : List Int) : Option (Int × Int × (List (List Int))) := some (a0, IntKind.u64.wrap (a0 + 1), (([l1] : List (List Int))))
set_option maxHeartbeats 8000000 in
set_option maxRecDepth 100000 in
theorem laws_growthLeaf.calls (a0 : Int) (P1_ : Nat → Prop) (A1 : Option Addr) (c1 : Nat) (l1 : List Int) (r1 : Int) (r2 : Int) (r3 : List (List Int)) (w : World) (hs1 : Kd.V (Kd.int .u8) 5 w w.heap.size (fun k_ => P1_ k_) (.slice A1 l1.length c1) l1) (h : laws_growthLeaf.f a0 l1 = some (r1, r2, r3)) :
  Calls Tryd.prog 39 #[.int .u64 a0, .slice A1 l1.length c1] w fun e w' => ∃ v2_ : Value, e = .returned (.agg #[.int .u64 r1, .int .u64 r2, v2_]) ∧ Kd.N (Kd.slice 5 (Kd.int .u8)) 27 w' w.heap.size (fun k_ => (P1_ k_ ∨ w.heap.size ≤ k_)) v2_ r3 ∧ Below w.heap.size w w' := by
 have hu39 := Tryd.underlying39
 have HO1 := zM (show Kd.V (Kd.int .u8) 5 w w.heap.size (fun k_ => (P1_ k_ ∨ w.heap.size ≤ k_)) (.slice A1 l1.length c1) l1 from Kd.V_mono hs1 (fun k_ hk => .inl hk))
 have HB := zM (Below.refl w.heap.size w)
 have H : (some (a0, IntKind.u64.wrap (a0 + 1), (([l1] : List (List Int))))) = some (r1, r2, r3) := h
 clear h
 obtain ⟨y125, hy125⟩ : ∃ y_ : List (List Int), y_ = (([l1] : List (List Int))) := ⟨_, rfl⟩
 replace H : (some (a0, IntKind.u64.wrap (a0 + 1), y125)) = some (r1, r2, r3) := by first | (rw [hy125]; with_reducible exact H) | (have H := (Option.bind_some _ _).symm.trans H; first | (rw [hy125]; with_reducible exact H) | with_reducible exact H) | (rw [hy125]; exact H) | exact H
 have Ny125 := zM hy125
 clear hy125
 simp only [Option.some.injEq, Prod.mk.injEq] at H
 obtain ⟨rfl, rfl, rfl⟩ := H
 go_enter Tryd.func39, Tryd.ntmps39
 go_wp2_with (first | ((with_reducible refine gate_dst (N := 4) rfl ?_); refine bx 4 #[.int .u64 0, .int .u64 0, .slice none 0 0] 39 ?_; intro gb124 hg w3 hbox hb; replace HO1 := zM (Kd.V_below (Kd.V_elderB (kV HO1.out) gb124 (Nat.le_of_eq hg.symm)) hb); have BK124 := zM (hbox); have GW124 := zM ((gB hg : w.heap.size ≤ gb124)); have GE124 := zM ((gB hg : w.heap.size ≤ gb124)); replace HB := zM (below_step bB hb); clear hb hbox hg) | ((with_reducible refine gate_dst (N := 9) rfl ?_); refine Kd.N_lit (Kd.slice 5 (Kd.int .u8)) _ 27 ?hg (N' := 9) ?hd (xs := ([l1] : List (List Int))) (inner := [.slice A1 l1.length c1]) (ok := (fun k_ => (P1_ k_ ∨ w.heap.size ≤ k_) ∧ k_ ≠ gb124)) (okp := (fun k_ => (P1_ k_ ∨ w.heap.size ≤ k_) ∧ k_ ≠ gb124)) ?hr ?hp (fun _ hk => hk) ((show ∀ k_, w3.heap.size ≤ k_ → (fun k_ => (P1_ k_ ∨ w.heap.size ≤ k_) ∧ k_ ≠ gb124) k_ from fun k_ hk => ⟨(.inr (Nat.le_trans (below_size bB) hk)), Kd.freshB (g := gb124) (o := .cells #[.int .u64 0, .int .u64 0, .slice none 0 0] 39 (0, 0)) (kB BK124.out) k_ hk⟩) _ (Nat.le_refl _)) (Below.refl _ _) (Nat.le_refl _) (by simp) ?_; (case hd => rfl); (case hg => rfl); (case hr => first | (go_simp; done) | (go_simp; rfl)); (case hp => exact (Reps.one (show Kd.FK (Kd.slice 5 (Kd.int .u8)) _ _ l1 [.slice A1 l1.length c1] from (Kd.FK_slice_mk (Kd.V_reads' (Kd.V_mono (ok' := (fun k_ => (P1_ k_ ∨ w.heap.size ≤ k_) ∧ k_ ≠ gb124)) (HO1.out) (fun k_ hk => ⟨hk.1, hk.2⟩))).2.1 (Kd.V_F (Kd.V_mono (ok' := (fun k_ => (P1_ k_ ∨ w.heap.size ≤ k_) ∧ k_ ≠ gb124)) (HO1.out) (fun k_ hk => ⟨hk.1, hk.2⟩))))) (Reps.none _ _))); intro v126 w4 ho5 hb hg_ hnew_; clear hg_ hnew_; (first | rw [← Ny125.out] at ho5 | (simp only [Int.reduceToNat] at ho5; rw [← Ny125.out] at ho5)); replace HO1 := zM (Kd.V_elder' (kV HO1.out) (Kd.N_base ho5) hb); have HO127 := zM (Kd.N_lower ho5 (below_size bB)); replace BK124 := zM (bK BK124 hb); replace HB := zM (below_step bB hb); clear hb ho5; obtain ⟨Ao6, co6, eo6⟩ := Kd.N_slice HO127.out; subst eo6; obtain ⟨hcz7_0, hcz7_1, hcz7_2⟩ := h3 BK124; obtain ⟨hfz7_0, hfz7_1, hfz7_2⟩ := f3 BK124))
 refine bodyPost_ret (results_cell_row rfl _ _ gb124 39 #[.int .u64 a0, .int .u64 (IntKind.u64.wrap (a0 + 1)), .slice Ao6 y125.length co6] (0, 0) _ rfl (by refine kU ?_; refine blk_put (cs := #[.int .u64 a0, .int .u64 (IntKind.u64.wrap (a0 + 1)), .slice none 0 0]) ?_ 2 _ rfl; refine kU ?_; refine blk_put (cs := #[.int .u64 a0, .int .u64 0, .slice none 0 0]) ?_ 1 _ rfl; refine kU ?_; refine blk_put (cs := #[.int .u64 0, .int .u64 0, .slice none 0 0]) ?_ 0 _ rfl; refine kU ?_; exact BK124.out) Tryd.underlying39 rfl (by kernel_rfl)) rfl ?_
 exact ⟨_, by first | rfl | (simp [errW_none, errW_some] <;> rfl) | (simp [*, errW_none, errW_some] <;> rfl), by refine vN ?_; exact Kd.N_mono (Kd.N_far (p := ⟨gb124, 2, none⟩) (Kd.N_far (p := ⟨gb124, 1, none⟩) (Kd.N_far (p := ⟨gb124, 0, none⟩) (Kd.N_mono HO127.out (fun k_ hk => (⟨hk, hk.2⟩ : _ ∧ k_ ≠ gb124))) (fun _ hk => hk.2) (.int .u64 a0)) (fun _ hk => hk.2) (.int .u64 (IntKind.u64.wrap (a0 + 1)))) (fun _ hk => hk.2) (.slice Ao6 y125.length co6)) (fun _ hk => hk.1.1), bB⟩
def laws_growthNext.l0 : Nat → Int → List (S39) → Int → Int → Option (Bool)
 | 0, _, _, _, _ => none
 | k + 1, x3, x6, x7, x8 => if x8 < x7 then (if 0 ≤ x8 then (if x8 < (x6.length : Int) then ((laws_rangeFair.f k ((rd_T39 x6 x8).f0) ((rd_T39 x6 x8).f1) ((rd_T39 x6 x8).f2)).bind fun t148 => (if t148 = true then (if ((rd_T39 x6 x8).f0) = x3 then (laws_growthNext.l0 k ((rd_T39 x6 x8).f1) x6 x7 (wrap64 (x8 + 1))) else (some false)) else (some false))) else (none)) else (none)) else (some true)
def laws_growthNext.f (k : Nat) (l0 : List (S39)) : Option (Bool) := laws_growthNext.l0 k 0 l0 (l0.length : Int) 0
set_option maxHeartbeats 8000000 in
set_option maxRecDepth 100000 in
theorem laws_growthNext.calls (k : Nat) (A0 : Option Addr) (c0 : Nat) (l0 : List (S39)) (r : Bool) (w : World) (hr0 : Kd.C k39 w A0 l0.length l0) (hc0 : l0.length ≤ c0) (h : laws_growthNext.f k l0 = some r) :
  Calls Tryd.prog 40 #[.slice A0 l0.length c0] w fun e w' => e = .returned (.bool r) ∧ Below w.heap.size w w' := by
 have hu39 := Tryd.underlying39
 have HR0 := zM hr0
 have HC0 := zM hc0
 clear hr0 hc0
 have HB := zM (Below.refl w.heap.size w)
 have H : (laws_growthNext.l0 k 0 l0 (l0.length : Int) 0) = some r := h
 clear h
 have H' := zM H
 clear H
 go_enter Tryd.func40, Tryd.ntmps40
 go_wp2
 go_loopg [3, 8] k (fun kq v3 v8 w' => ∃ (x3_1 : Int) (x8_1 : Int), v3 = .int .u64 x3_1 ∧ v8 = .int .i64 x8_1 ∧ Aside0 (laws_growthNext.l0 kq x3_1 l0 (l0.length : Int) x8_1 = some r) ∧ Aside0 (kq ≤ k) ∧ Aside0 (Below w.heap.size w w'))
 case atStart => exact ⟨(0), (0), sR, sR, H', ⟨Nat.le_refl _⟩, ⟨bB⟩⟩
 case round =>
  clear H'
  obtain ⟨x3_1, x8_1, rfl, rfl, HA, HK1, HB⟩ := hrel
  cases gk with
  | zero => exact absurd HA.out (by simp [laws_growthNext.l0])
  | succ k1 =>
   have H := HA.out
   clear HA
   simp only [laws_growthNext.l0] at H
   by_cases c2 : x8_1 < (l0.length : Int)
   ·rw [if_pos c2] at H
    have c2b0 : decide (x8_1 < (l0.length : Int)) = true := decide_eq_true c2
    clear c2
    by_cases c3 : 0 ≤ x8_1
    ·rw [if_pos c3] at H
     have c3b0 : decide (0 ≤ x8_1) = true := decide_eq_true c3
     clear c3
     by_cases c4 : x8_1 < (l0.length : Int)
     ·rw [if_pos c4] at H
      have c4b0 : decide (x8_1 < (l0.length : Int)) = true := decide_eq_true c4
      clear c4
      replace H := Option.bind_eq_some_iff.mp H
      obtain ⟨t148, A50, H⟩ := H
      (try dsimp only at H)
      have A5 := zM A50
      clear A50
      by_cases c6 : t148 = true
      ·subst c6
       have H1 : (if ((rd_T39 l0 x8_1).f0) = x3_1 then (laws_growthNext.l0 k1 ((rd_T39 l0 x8_1).f1) l0 (l0.length : Int) (wrap64 (x8_1 + 1))) else (some false)) = some r := by rw [if_pos rfl] at H; exact H
       clear H
       have H := H1
       clear H1
       by_cases c7 : ((rd_T39 l0 x8_1).f0) = x3_1
       ·rw [if_pos c7] at H
        have c7b0 : (((rd_T39 l0 x8_1).f0) == x3_1) = true := beq_iff_eq.mpr c7
        have c7b1 : (((rd_T39 l0 x8_1).f0) != x3_1) = false := bne_eq_false_iff_eq.mpr c7
        clear c7
        have H' := zM H
        clear H
        have p146 : 0 ≤ (x8_1 : Int) := dA
        have q146 : x8_1 < (l0.length : Int) := dA
        obtain ⟨ad146, A146_2, c146_2, e146, hx146_0, hx146_1, hx146_2, hl146_2, hi146_2⟩ := at_T39 HR0.out x8_1 p146 q146
        cases e146
        replace hx146_0 := (HB.out.cell (World.block_lt_of_cell? w _ hx146_0)).trans hx146_0
        replace hx146_1 := (HB.out.cell (World.block_lt_of_cell? w _ hx146_1)).trans hx146_1
        replace hx146_2 := (HB.out.cell (World.block_lt_of_cell? w _ hx146_2)).trans hx146_2
        have HR146_2 := zM hi146_2
        have HC146_2 := zM hl146_2
        clear hi146_2 hl146_2
        replace p146 := eq_true p146
        replace q146 := eq_true q146
        go_wp2_with (first | ((with_reducible refine gate_dst (N := 5) rfl ?_); refine bx 5 #[.int .u64 0, .int .u64 0, .slice none 0 0] 39 ?_; intro gb147 hg w8 hbox hb; have BK147 := zM (hbox); have GW147 := zM ((gB hg : w.heap.size ≤ gb147)); have GE147 := zM ((gB hg : w.heap.size ≤ gb147)); replace HB := zM (below_step bB hb); clear hb hbox hg; obtain ⟨hcz9_0, hcz9_1, hcz9_2⟩ := h3 BK147; obtain ⟨hfz9_0, hfz9_1, hfz9_2⟩ := f3 BK147) | ((with_reducible refine gate_callee (f := 21) rfl ?_); refine goesL_ (some 13) rfl rfl Tryd.func21 (by kernel_rfl) rfl #[.agg #[.int .u64 ((rd_T39 l0 x8_1).f0), .int .u64 ((rd_T39 l0 x8_1).f1), .slice A146_2 ((rd_T39 l0 x8_1).f2).length c146_2]] rfl aV ?_; (with_reducible refine (laws_rangeFair.calls k1 ((rd_T39 l0 x8_1).f0) ((rd_T39 l0 x8_1).f1) _ _ ((rd_T39 l0 x8_1).f2) true _ ?side1 ?side2 A5.out).mono ?_); (case side1 => exact Kd.C_below HR146_2.out bB); (case side2 => exact HC146_2.out); rintro e w10 ⟨rfl, hb⟩; refine ⟨_, rfl, ?_⟩; replace BK147 := zM (blk_below (g := gb147) (o := .cells #[.int .u64 ((rd_T39 l0 x8_1).f0), .int .u64 ((rd_T39 l0 x8_1).f1), .slice A146_2 ((rd_T39 l0 x8_1).f2).length c146_2] 39 (0, 0)) (by refine kU ?_; refine blk_put (cs := #[.int .u64 ((rd_T39 l0 x8_1).f0), .int .u64 ((rd_T39 l0 x8_1).f1), .slice none 0 0]) ?_ 2 _ rfl; refine kU ?_; refine blk_put (cs := #[.int .u64 ((rd_T39 l0 x8_1).f0), .int .u64 0, .slice none 0 0]) ?_ 1 _ rfl; refine kU ?_; refine blk_put (cs := #[.int .u64 0, .int .u64 0, .slice none 0 0]) ?_ 0 _ rfl; refine kU ?_; exact BK147.out) hb); replace HB := zM (below_step bB hb); obtain ⟨hcz11_0, hcz11_1, hcz11_2⟩ := h3 BK147; obtain ⟨hfz11_0, hfz11_1, hfz11_2⟩ := f3 BK147))
        go_roundg k1
        case measure => have := HK1.out; omega
        case rel => exact ⟨((rd_T39 l0 x8_1).f1), (wrap64 (x8_1 + 1)), sR, sR, H', ⟨by have := HK1.out; omega⟩, ⟨bB⟩⟩
       ·rw [if_neg c7] at H
        have c7b0 : (((rd_T39 l0 x8_1).f0) == x3_1) = false := beq_eq_false_iff_ne.mpr c7
        have c7b1 : (((rd_T39 l0 x8_1).f0) != x3_1) = true := bne_iff_ne.mpr c7
        obtain rfl := Option.some.inj H
        have p146 : 0 ≤ (x8_1 : Int) := dA
        have q146 : x8_1 < (l0.length : Int) := dA
        obtain ⟨ad146, A146_2, c146_2, e146, hx146_0, hx146_1, hx146_2, hl146_2, hi146_2⟩ := at_T39 HR0.out x8_1 p146 q146
        cases e146
        replace hx146_0 := (HB.out.cell (World.block_lt_of_cell? w _ hx146_0)).trans hx146_0
        replace hx146_1 := (HB.out.cell (World.block_lt_of_cell? w _ hx146_1)).trans hx146_1
        replace hx146_2 := (HB.out.cell (World.block_lt_of_cell? w _ hx146_2)).trans hx146_2
        have HR146_2 := zM hi146_2
        have HC146_2 := zM hl146_2
        clear hi146_2 hl146_2
        replace p146 := eq_true p146
        replace q146 := eq_true q146
        go_wp2_with (first | ((with_reducible refine gate_dst (N := 5) rfl ?_); refine bx 5 #[.int .u64 0, .int .u64 0, .slice none 0 0] 39 ?_; intro gb147 hg w12 hbox hb; have BK147 := zM (hbox); have GW147 := zM ((gB hg : w.heap.size ≤ gb147)); have GE147 := zM ((gB hg : w.heap.size ≤ gb147)); replace HB := zM (below_step bB hb); clear hb hbox hg; obtain ⟨hcz13_0, hcz13_1, hcz13_2⟩ := h3 BK147; obtain ⟨hfz13_0, hfz13_1, hfz13_2⟩ := f3 BK147) | ((with_reducible refine gate_callee (f := 21) rfl ?_); refine goesL_ (some 13) rfl rfl Tryd.func21 (by kernel_rfl) rfl #[.agg #[.int .u64 ((rd_T39 l0 x8_1).f0), .int .u64 ((rd_T39 l0 x8_1).f1), .slice A146_2 ((rd_T39 l0 x8_1).f2).length c146_2]] rfl aV ?_; (with_reducible refine (laws_rangeFair.calls k1 ((rd_T39 l0 x8_1).f0) ((rd_T39 l0 x8_1).f1) _ _ ((rd_T39 l0 x8_1).f2) true _ ?side1 ?side2 A5.out).mono ?_); (case side1 => exact Kd.C_below HR146_2.out bB); (case side2 => exact HC146_2.out); rintro e w14 ⟨rfl, hb⟩; refine ⟨_, rfl, ?_⟩; replace BK147 := zM (blk_below (g := gb147) (o := .cells #[.int .u64 ((rd_T39 l0 x8_1).f0), .int .u64 ((rd_T39 l0 x8_1).f1), .slice A146_2 ((rd_T39 l0 x8_1).f2).length c146_2] 39 (0, 0)) (by refine kU ?_; refine blk_put (cs := #[.int .u64 ((rd_T39 l0 x8_1).f0), .int .u64 ((rd_T39 l0 x8_1).f1), .slice none 0 0]) ?_ 2 _ rfl; refine kU ?_; refine blk_put (cs := #[.int .u64 ((rd_T39 l0 x8_1).f0), .int .u64 0, .slice none 0 0]) ?_ 1 _ rfl; refine kU ?_; refine blk_put (cs := #[.int .u64 0, .int .u64 0, .slice none 0 0]) ?_ 0 _ rfl; refine kU ?_; exact BK147.out) hb); replace HB := zM (below_step bB hb); obtain ⟨hcz15_0, hcz15_1, hcz15_2⟩ := h3 BK147; obtain ⟨hfz15_0, hfz15_1, hfz15_2⟩ := f3 BK147))
        go_ret
        exact ⟨by first | rfl | (simp [errW_none, errW_some] <;> rfl) | (simp [*, errW_none, errW_some] <;> rfl), bB⟩
      ·replace c6 := Bool.eq_false_iff.mpr c6
       subst c6
       have H1 : (some false) = some r := by rw [if_neg (show ¬ (false = true) by decide)] at H; exact H
       clear H
       have H := H1
       clear H1
       obtain rfl := Option.some.inj H
       have p146 : 0 ≤ (x8_1 : Int) := dA
       have q146 : x8_1 < (l0.length : Int) := dA
       obtain ⟨ad146, A146_2, c146_2, e146, hx146_0, hx146_1, hx146_2, hl146_2, hi146_2⟩ := at_T39 HR0.out x8_1 p146 q146
       cases e146
       replace hx146_0 := (HB.out.cell (World.block_lt_of_cell? w _ hx146_0)).trans hx146_0
       replace hx146_1 := (HB.out.cell (World.block_lt_of_cell? w _ hx146_1)).trans hx146_1
       replace hx146_2 := (HB.out.cell (World.block_lt_of_cell? w _ hx146_2)).trans hx146_2
       have HR146_2 := zM hi146_2
       have HC146_2 := zM hl146_2
       clear hi146_2 hl146_2
       replace p146 := eq_true p146
       replace q146 := eq_true q146
       go_wp2_with (first | ((with_reducible refine gate_dst (N := 5) rfl ?_); refine bx 5 #[.int .u64 0, .int .u64 0, .slice none 0 0] 39 ?_; intro gb147 hg w16 hbox hb; have BK147 := zM (hbox); have GW147 := zM ((gB hg : w.heap.size ≤ gb147)); have GE147 := zM ((gB hg : w.heap.size ≤ gb147)); replace HB := zM (below_step bB hb); clear hb hbox hg; obtain ⟨hcz17_0, hcz17_1, hcz17_2⟩ := h3 BK147; obtain ⟨hfz17_0, hfz17_1, hfz17_2⟩ := f3 BK147) | ((with_reducible refine gate_callee (f := 21) rfl ?_); refine goesL_ (some 13) rfl rfl Tryd.func21 (by kernel_rfl) rfl #[.agg #[.int .u64 ((rd_T39 l0 x8_1).f0), .int .u64 ((rd_T39 l0 x8_1).f1), .slice A146_2 ((rd_T39 l0 x8_1).f2).length c146_2]] rfl aV ?_; (with_reducible refine (laws_rangeFair.calls k1 ((rd_T39 l0 x8_1).f0) ((rd_T39 l0 x8_1).f1) _ _ ((rd_T39 l0 x8_1).f2) false _ ?side1 ?side2 A5.out).mono ?_); (case side1 => exact Kd.C_below HR146_2.out bB); (case side2 => exact HC146_2.out); rintro e w18 ⟨rfl, hb⟩; refine ⟨_, rfl, ?_⟩; replace BK147 := zM (blk_below (g := gb147) (o := .cells #[.int .u64 ((rd_T39 l0 x8_1).f0), .int .u64 ((rd_T39 l0 x8_1).f1), .slice A146_2 ((rd_T39 l0 x8_1).f2).length c146_2] 39 (0, 0)) (by refine kU ?_; refine blk_put (cs := #[.int .u64 ((rd_T39 l0 x8_1).f0), .int .u64 ((rd_T39 l0 x8_1).f1), .slice none 0 0]) ?_ 2 _ rfl; refine kU ?_; refine blk_put (cs := #[.int .u64 ((rd_T39 l0 x8_1).f0), .int .u64 0, .slice none 0 0]) ?_ 1 _ rfl; refine kU ?_; refine blk_put (cs := #[.int .u64 0, .int .u64 0, .slice none 0 0]) ?_ 0 _ rfl; refine kU ?_; exact BK147.out) hb); replace HB := zM (below_step bB hb)))
       go_ret
       exact ⟨by first | rfl | (simp [errW_none, errW_some] <;> rfl) | (simp [*, errW_none, errW_some] <;> rfl), bB⟩
     ·rw [if_neg c4] at H
      exact absurd H (by simp)
    ·rw [if_neg c3] at H
     exact absurd H (by simp)
   ·rw [if_neg c2] at H
    have c2b0 : decide (x8_1 < (l0.length : Int)) = false := decide_eq_false c2
    clear c2
    obtain rfl := Option.some.inj H
    go_wp2
    go_ret
    exact ⟨by first | rfl | (simp [errW_none, errW_some] <;> rfl) | (simp [*, errW_none, errW_some] <;> rfl), bB⟩
end Go.Proofs.YtkmdkmlgahfcpaaDoor.M
